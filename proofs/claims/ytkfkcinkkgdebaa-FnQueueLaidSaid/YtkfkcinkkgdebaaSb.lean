/- The reference of a queue: where its list ends, whether an entry fits, what lies at an index. -/
import Derived.Test.YtkfkcinkkgdebaaSa
import Derived.Test.YtkfkcinkkgdebaaORow
import Derived.Deep.DeepCutAuto
namespace Go.Proofs.Ytkfkcinkkgdebaa
open Go Go.RowKit Go.Vil
set_option linter.unusedSimpArgs false
set_option linter.unusedVariables false
set_option maxRecDepth 100000

/-- An entry of the reference as it lies in memory. -/
def EntV (w : World) (e : Nat × List UInt8) (cs : List Value) : Prop := ∃ oa c, cs = [.int .i64 (e.1 : Nat), .slice oa e.2.length c] ∧ Src w 1 (.slice oa e.2.length c) e.2.length (u8s e.2) ∧ e.2.length ≤ c
theorem EntV.on {w w' : World} {e : Nat × List UInt8} {cs : List Value} (h : EntV w e cs) (C : Chg [] w w') : EntV w' e cs := by
  obtain ⟨oa, c, h1, h2, h3⟩ := h
  exact ⟨oa, c, h1, h2.on C, h3⟩
/-- The reference's list, as it is read. -/
structure ListAt (w : World) (l : Nat) (s : SL) : Prop where
  ents : ∃ ev, w.cell? ⟨l, 0, none⟩ = some ev ∧ Arr EntV 2 w ev s.ents
  cap : w.cell? ⟨l, 1, none⟩ = some (.int .i64 s.cap)
  most : w.cell? ⟨l, 2, none⟩ = some (.int .i64 s.most)
  lost : w.cell? ⟨l, 3, none⟩ = some (.bool s.lost)
  ended : w.cell? ⟨l, 4, none⟩ = some (.bool s.ended)
/-- All numbers of a list are small. -/
def Small (s : SL) : Prop := s.ents.length ≤ 100000 ∧ s.cap ≤ 1073741824 ∧ s.most ≤ 1073741824 ∧ ∀ e ∈ s.ents, e.1 ≤ 1073741824 ∧ e.2.length < 16382

set_option maxHeartbeats 1600000 in
theorem specEnd (l : Nat) (s : SL) (w : World) (h : ListAt w l s) (hs : Small s) : Calls Try.prog 69 #[.pointer (some ⟨l, 0, none⟩)] w fun e w' => e = .returned (.int .i64 (endP s.ents)) ∧ St w [] w' [] := by
  have S := St.begin w
  obtain ⟨ev, hev, hE⟩ := h.ents
  obtain ⟨oa, c, rfl, hc⟩ := hE.shape
  replace hE := hidden hE
  have hlen := hs.1
  refine Calls.cps ?_; intro R hR
  go_enter Try.func69, Try.ntmps69
  by_cases h0 : s.ents.length = 0
  · have hbb : ((s.ents.length : Int) == 0) = true := by simp [h0]
    replace h0 := hidden h0
    go_wp2_with (first | (refine wpList_ldc S ?_) | ((with_reducible show Code.wp _ (Code.region _ _ true) _ _ _); refine St.regionLast S ?_; (repeat (first | (go_big_quiet_step (fail)) | (go_big_quiet_want; (first | refine quiet_ld S ?_ | refine quiet_ld8 S ?_ | refine quiet_ld0 ?_ | refine quiet_ldA S ?_ | refine quiet_b2sB S ?_ | refine quiet_b2sR S ?_ | refine quiet_ldc S ?_); go_big_quiet_on))); refine wpQuiet_nil ?_; clear S; intro wq S) | go_big_skip | (refine wpList_ld S ?_) | (refine wpList_ld8 S ?_) | (refine wpList_ld0 ?_) | (refine wpList_ldA S ?_) | (refine wpList_st8 S ?_; (clear S; intro ws S)) | (refine wpList_st S ?_; (clear S; intro ws S)) | (refine wpList_box S ?_; (clear S; intro nb wb hnb S)) | (refine wpList_alloc S ?_; (clear S; intro nb wb hnb S)) | (refine wpList_mk8 S ?_; (clear S; intro nb wb hnb S)) | (refine wpList_mk S ?_; (clear S; intro nb wb hnb S)) | (refine wpList_bs S ?_; (clear S; intro nb wb hnb S)) | (refine wpList_stA S ?_; (clear S; intro ws S; simp only [splice, List.take_zero, List.take_succ_cons, List.drop_succ_cons, List.drop_zero, List.drop_nil, List.length_cons, List.length_nil, Nat.reduceAdd, Nat.zero_add, List.nil_append, List.cons_append, List.append_nil] at S)) | (refine wpList_b2sB S ?_) | (refine wpList_b2sR S ?_) | (refine wpList_ldc S ?_))
    ((first | go_ret | go_ret2 | go_ret3 | go_end0 | skip); refine hR.out _ _ ?_)
    have : s.ents = [] := List.eq_nil_of_length_eq_zero h0.out
    exact ⟨by rw [this]; rfl, S⟩
  · have hbb : ((s.ents.length : Int) == 0) = false := by simp [h0]
    obtain ⟨ad, rfl⟩ := hE.out.some (by decide) (by omega)
    obtain ⟨lst, hlst⟩ : ∃ x, s.ents[s.ents.length - 1]? = some x := ⟨_, List.getElem?_eq_getElem (by omega)⟩
    have hlast : s.ents.getLast? = some lst := by rw [List.getLast?_eq_getElem?]; exact hlst
    obtain ⟨hb1, hb2⟩ := hs.2.2.2 lst (List.mem_of_getElem? hlst)
    obtain ⟨cs, ⟨oa', c', rfl, hsl, hcl⟩, hl2, hcell⟩ := hE.out.get _ lst hlst
    clear hsl hl2
    replace hcell := hidden hcell
    replace hlast := hidden hlast
    clear hlst
    go_upto_region 3 with (first | (refine wpList_ldc S ?_) | ((with_reducible show Code.wp _ (Code.region _ _ true) _ _ _); refine St.regionLast S ?_; (repeat (first | (go_big_quiet_step (fail)) | (go_big_quiet_want; (first | refine quiet_ld S ?_ | refine quiet_ld8 S ?_ | refine quiet_ld0 ?_ | refine quiet_ldA S ?_ | refine quiet_b2sB S ?_ | refine quiet_b2sR S ?_ | refine quiet_ldc S ?_); go_big_quiet_on))); refine wpQuiet_nil ?_; clear S; intro wq S) | go_big_skip | (refine wpList_ld S ?_) | (refine wpList_ld8 S ?_) | (refine wpList_ld0 ?_) | (refine wpList_ldA S ?_) | (refine wpList_st8 S ?_; (clear S; intro ws S)) | (refine wpList_st S ?_; (clear S; intro ws S)) | (refine wpList_box S ?_; (clear S; intro nb wb hnb S)) | (refine wpList_alloc S ?_; (clear S; intro nb wb hnb S)) | (refine wpList_mk8 S ?_; (clear S; intro nb wb hnb S)) | (refine wpList_mk S ?_; (clear S; intro nb wb hnb S)) | (refine wpList_bs S ?_; (clear S; intro nb wb hnb S)) | (refine wpList_stA S ?_; (clear S; intro ws S; simp only [splice, List.take_zero, List.take_succ_cons, List.drop_succ_cons, List.drop_zero, List.drop_nil, List.length_cons, List.length_nil, Nat.reduceAdd, Nat.zero_add, List.nil_append, List.cons_append, List.append_nil] at S)) | (refine wpList_b2sB S ?_) | (refine wpList_b2sR S ?_) | (refine wpList_ldc S ?_))
    refine St.regionG S 13 [([0, 1, 2, 3, 4, 5, 6, 7, 8, 9, 10, 11], 12)] [] ?_
    clear S; intro wr S; simp only [walkSt, pick, List.getElem?_cons_succ, List.getElem?_cons_zero, List.drop_succ_cons, List.drop_zero]
    (repeat (first | (go_big_quiet_want; (refine quiet_ldAc S ?_ (by rfl) hcell.out); go_big_quiet_on) | (first | (go_big_quiet_step (fail)) | (go_big_quiet_want; (first | refine quiet_ld S ?_ | refine quiet_ld8 S ?_ | refine quiet_ld0 ?_ | refine quiet_ldA S ?_ | refine quiet_b2sB S ?_ | refine quiet_b2sR S ?_ | refine quiet_ldc S ?_); go_big_quiet_on))))
    refine wpQuiet_nil ?_
    go_wp2_with (first | go_big_skip | (refine wpList_ld S ?_) | (refine wpList_ld8 S ?_) | (refine wpList_ld0 ?_) | (refine wpList_ldA S ?_) | (refine wpList_st8 S ?_; (clear S; intro ws S)) | (refine wpList_st S ?_; (clear S; intro ws S)) | (refine wpList_box S ?_; (clear S; intro nb wb hnb S)) | (refine wpList_alloc S ?_; (clear S; intro nb wb hnb S)) | (refine wpList_mk8 S ?_; (clear S; intro nb wb hnb S)) | (refine wpList_mk S ?_; (clear S; intro nb wb hnb S)) | (refine wpList_bs S ?_; (clear S; intro nb wb hnb S)) | (refine wpList_stA S ?_; (clear S; intro ws S; simp only [splice, List.take_zero, List.take_succ_cons, List.drop_succ_cons, List.drop_zero, List.drop_nil, List.length_cons, List.length_nil, Nat.reduceAdd, Nat.zero_add, List.nil_append, List.cons_append, List.append_nil] at S)) | (refine wpList_b2sB S ?_) | (refine wpList_b2sR S ?_) | (refine wpList_ldc S ?_))
    refine ⟨_, S, (by repeat (first | exact Sel.nil | (apply Sel.cons; (repeat (first | exact Pull.head | apply Pull.tail))))), ?_⟩
    refine wpQuiet_nil ?_
    go_wp2_with (first | go_big_skip | (refine wpList_ld S ?_) | (refine wpList_ld8 S ?_) | (refine wpList_ld0 ?_) | (refine wpList_ldA S ?_) | (refine wpList_st8 S ?_; (clear S; intro ws S)) | (refine wpList_st S ?_; (clear S; intro ws S)) | (refine wpList_box S ?_; (clear S; intro nb wb hnb S)) | (refine wpList_alloc S ?_; (clear S; intro nb wb hnb S)) | (refine wpList_mk8 S ?_; (clear S; intro nb wb hnb S)) | (refine wpList_mk S ?_; (clear S; intro nb wb hnb S)) | (refine wpList_bs S ?_; (clear S; intro nb wb hnb S)) | (refine wpList_stA S ?_; (clear S; intro ws S; simp only [splice, List.take_zero, List.take_succ_cons, List.drop_succ_cons, List.drop_zero, List.drop_nil, List.length_cons, List.length_nil, Nat.reduceAdd, Nat.zero_add, List.nil_append, List.cons_append, List.append_nil] at S)) | (refine wpList_b2sB S ?_) | (refine wpList_b2sR S ?_) | (refine wpList_ldc S ?_))
    go_loopg [5, 29] s.ents.length (fun g xp i wr => ∃ k : Nat, Hid (k + g = s.ents.length) ∧ i = .int .i64 k ∧ k ≤ s.ents.length ∧ Hid (∀ x ∈ s.ents.take k, ¬ x.1 > lst.1) ∧ St w [] wr [.blk nb (.cells [.int .i64 (lst.1 : Nat), .slice oa' lst.2.length c'].toArray 41 (0, 0))])
    case atStart => exact ⟨0, hidden (by omega), rfl, Nat.zero_le _, hidden (by simp), S.sel (by repeat (first | exact Sel.nil | (apply Sel.cons; (repeat (first | exact Pull.head | apply Pull.tail)))))⟩
    case round =>
      obtain ⟨k, hg, rfl, hkn, hno, S⟩ := hrel
      by_cases hlt : k < s.ents.length
      · obtain ⟨e, he⟩ : ∃ x, s.ents[k]? = some x := ⟨_, List.getElem?_eq_getElem hlt⟩
        obtain ⟨he1, he2⟩ := hs.2.2.2 e (List.mem_of_getElem? he)
        obtain ⟨cs2, ⟨oa2, c2, rfl, hsl2, hcl2⟩, hl3, hcell2⟩ := hE.out.get k e he
        have hmem := hidden (List.mem_of_getElem? he)
        have htake := hidden (show s.ents.take (k + 1) = s.ents.take k ++ [e] by rw [List.take_add_one, he]; rfl)
        clear hsl2 hl3 he
        replace hcell2 := hidden hcell2
        by_cases hgt : e.1 > lst.1
        · have hend := hidden (show endP s.ents = -1 by unfold endP; rw [hlast.out]; exact if_pos ⟨e, hmem.out, hgt⟩)
          go_wp2_with (first | (refine wpList_ldAc S ?_ (by rfl) hcell2.out) | go_big_skip | (refine wpList_ld S ?_) | (refine wpList_ld8 S ?_) | (refine wpList_ld0 ?_) | (refine wpList_ldA S ?_) | (refine wpList_st8 S ?_; (clear S; intro ws S)) | (refine wpList_st S ?_; (clear S; intro ws S)) | (refine wpList_box S ?_; (clear S; intro nb wb hnb S)) | (refine wpList_alloc S ?_; (clear S; intro nb wb hnb S)) | (refine wpList_mk8 S ?_; (clear S; intro nb wb hnb S)) | (refine wpList_mk S ?_; (clear S; intro nb wb hnb S)) | (refine wpList_bs S ?_; (clear S; intro nb wb hnb S)) | (refine wpList_stA S ?_; (clear S; intro ws S; simp only [splice, List.take_zero, List.take_succ_cons, List.drop_succ_cons, List.drop_zero, List.drop_nil, List.length_cons, List.length_nil, Nat.reduceAdd, Nat.zero_add, List.nil_append, List.cons_append, List.append_nil] at S)) | (refine wpList_b2sB S ?_) | (refine wpList_b2sR S ?_) | (refine wpList_ldc S ?_))
          ((first | go_ret | go_ret2 | go_ret3 | go_end0 | skip); refine hR.out _ _ ?_)
          exact ⟨by rw [hend.out]; rfl, S.sel (by repeat (first | exact Sel.nil | (apply Sel.cons; (repeat (first | exact Pull.head | apply Pull.tail)))))⟩
        · go_wp2_with (first | (refine wpList_ldAc S ?_ (by rfl) hcell2.out) | go_big_skip | (refine wpList_ld S ?_) | (refine wpList_ld8 S ?_) | (refine wpList_ld0 ?_) | (refine wpList_ldA S ?_) | (refine wpList_st8 S ?_; (clear S; intro ws S)) | (refine wpList_st S ?_; (clear S; intro ws S)) | (refine wpList_box S ?_; (clear S; intro nb wb hnb S)) | (refine wpList_alloc S ?_; (clear S; intro nb wb hnb S)) | (refine wpList_mk8 S ?_; (clear S; intro nb wb hnb S)) | (refine wpList_mk S ?_; (clear S; intro nb wb hnb S)) | (refine wpList_bs S ?_; (clear S; intro nb wb hnb S)) | (refine wpList_stA S ?_; (clear S; intro ws S; simp only [splice, List.take_zero, List.take_succ_cons, List.drop_succ_cons, List.drop_zero, List.drop_nil, List.length_cons, List.length_nil, Nat.reduceAdd, Nat.zero_add, List.nil_append, List.cons_append, List.append_nil] at S)) | (refine wpList_b2sB S ?_) | (refine wpList_b2sR S ?_) | (refine wpList_ldc S ?_))
          go_roundg (gk - 1)
          case measure => have := hg.out; omega
          case rel =>
            refine ⟨k + 1, hidden (by have := hg.out; omega), by go_num, by omega, hidden ?_, S.sel (by repeat (first | exact Sel.nil | (apply Sel.cons; (repeat (first | exact Pull.head | apply Pull.tail)))))⟩
            rw [htake.out]
            intro x hx
            rcases List.mem_append.1 hx with hx | hx
            · exact hno.out x hx
            · rw [List.mem_singleton.1 hx]; exact hgt
      · have hend := hidden (show endP s.ents = ((lst.1 + needs lst.2.length : Nat) : Int) by
          unfold endP; rw [hlast.out]
          refine if_neg ?_
          rintro ⟨x, hx, hgt⟩
          exact hno.out x (by rw [List.take_of_length_le (by omega)]; exact hx) hgt)
        have hnl := hsz_le lst.2.length
        have hnd := hidden (show needs lst.2.length = lst.2.length + hsz lst.2.length from rfl)
        go_upto_region 10 with (first | go_big_skip | (refine wpList_ld S ?_) | (refine wpList_ld8 S ?_) | (refine wpList_ld0 ?_) | (refine wpList_ldA S ?_) | (refine wpList_st8 S ?_; (clear S; intro ws S)) | (refine wpList_st S ?_; (clear S; intro ws S)) | (refine wpList_box S ?_; (clear S; intro nb wb hnb S)) | (refine wpList_alloc S ?_; (clear S; intro nb wb hnb S)) | (refine wpList_mk8 S ?_; (clear S; intro nb wb hnb S)) | (refine wpList_mk S ?_; (clear S; intro nb wb hnb S)) | (refine wpList_bs S ?_; (clear S; intro nb wb hnb S)) | (refine wpList_stA S ?_; (clear S; intro ws S; simp only [splice, List.take_zero, List.take_succ_cons, List.drop_succ_cons, List.drop_zero, List.drop_nil, List.length_cons, List.length_nil, Nat.reduceAdd, Nat.zero_add, List.nil_append, List.cons_append, List.append_nil] at S)) | (refine wpList_b2sB S ?_) | (refine wpList_b2sR S ?_) | (refine wpList_ldc S ?_))
        refine St.regionG S 8 [([0, 1, 2, 3, 4], 5)] [6, 7] ?_
        clear S; intro wr S; simp only [walkSt, pick, List.getElem?_cons_succ, List.getElem?_cons_zero, List.drop_succ_cons, List.drop_zero]; (repeat (first | (go_big_quiet_step (fail)) | (go_big_quiet_want; (first | refine quiet_ld S ?_ | refine quiet_ld8 S ?_ | refine quiet_ld0 ?_ | refine quiet_ldA S ?_ | refine quiet_b2sB S ?_ | refine quiet_b2sR S ?_ | refine quiet_ldc S ?_); go_big_quiet_on))); refine wpQuiet_nil ?_
        go_wp2_with fail
        refine Calls.mono (specNeeds _ _ hb2) ?_
        rintro e w5 ⟨rfl, C⟩
        have S2 := S.call C; clear S C; simp only [List.cons_append, List.nil_append] at S2; have S := S2; clear S2
        have hnb3 : needs lst.2.length ≤ 16387 := by have := hnd.out; omega
        go_wp2_with fail
        refine ⟨_, S, (by repeat (first | exact Sel.nil | (apply Sel.cons; (repeat (first | exact Pull.head | apply Pull.tail))))), ?_⟩; (repeat (first | (go_big_quiet_step (fail)) | (go_big_quiet_want; (first | refine quiet_ld S ?_ | refine quiet_ld8 S ?_ | refine quiet_ld0 ?_ | refine quiet_ldA S ?_ | refine quiet_b2sB S ?_ | refine quiet_b2sR S ?_ | refine quiet_ldc S ?_); go_big_quiet_on))); refine wpQuiet_nil ?_
        go_wp2_with (first | go_big_skip | ((with_reducible show Code.wp _ (Code.region _ _ true) _ _ _); refine St.regionLast S ?_; (repeat (first | (go_big_quiet_step (fail)) | (go_big_quiet_want; (first | refine quiet_ld S ?_ | refine quiet_ld8 S ?_ | refine quiet_ld0 ?_ | refine quiet_ldA S ?_ | refine quiet_b2sB S ?_ | refine quiet_b2sR S ?_ | refine quiet_ldc S ?_); go_big_quiet_on))); refine wpQuiet_nil ?_; clear S; intro wq S) | go_big_skip | (refine wpList_ld S ?_) | (refine wpList_ld8 S ?_) | (refine wpList_ld0 ?_) | (refine wpList_ldA S ?_) | (refine wpList_st8 S ?_; (clear S; intro ws S)) | (refine wpList_st S ?_; (clear S; intro ws S)) | (refine wpList_box S ?_; (clear S; intro nb wb hnb S)) | (refine wpList_alloc S ?_; (clear S; intro nb wb hnb S)) | (refine wpList_mk8 S ?_; (clear S; intro nb wb hnb S)) | (refine wpList_mk S ?_; (clear S; intro nb wb hnb S)) | (refine wpList_bs S ?_; (clear S; intro nb wb hnb S)) | (refine wpList_stA S ?_; (clear S; intro ws S; simp only [splice, List.take_zero, List.take_succ_cons, List.drop_succ_cons, List.drop_zero, List.drop_nil, List.length_cons, List.length_nil, Nat.reduceAdd, Nat.zero_add, List.nil_append, List.cons_append, List.append_nil] at S)) | (refine wpList_b2sB S ?_) | (refine wpList_b2sR S ?_) | (refine wpList_ldc S ?_))
        ((first | go_ret | go_ret2 | go_ret3 | go_end0 | skip); refine hR.out _ _ ?_)
        exact ⟨by rw [hend.out]; rfl, S.sel (by repeat (first | exact Sel.nil | (apply Sel.cons; (repeat (first | exact Pull.head | apply Pull.tail)))))⟩
end Go.Proofs.Ytkfkcinkkgdebaa
