/- Lists of bytes that came in: looked at, and cut. -/
import Derived.Test.YtkfkcinkkgdebaaQp
import Derived.Test.YtkfkcinkkgdebaaPa
import Derived.Test.YtkfkcinkkgdebaaRel2
import Derived.Test.YtkfkcinkkgdebaaLv
import Derived.Test.YtkfkcinkkgdebaaOpen2
namespace Go.Proofs.Ytkfkcinkkgdebaa
open Go Go.RowKit Go.ChangeShapes Go.WideShapes Go.ChangeAt Go.Deep Go.Vil
set_option linter.unusedSimpArgs false
set_option linter.unusedVariables false
set_option maxRecDepth 100000

/-- Bytes in a cell. -/
def BytesV (w : World) (d : List UInt8) (cs : List Value) : Prop := ∃ oa c, cs = [.slice oa d.length c] ∧ Src w 1 (.slice oa d.length c) d.length (u8s d) ∧ d.length ≤ c
theorem BytesV.on {w w' : World} {d : List UInt8} {cs : List Value} (h : BytesV w d cs) (C : Chg [] w w') : BytesV w' d cs := by
  obtain ⟨oa, c, h1, h2, h3⟩ := h
  exact ⟨oa, c, h1, h2.on C, h3⟩
theorem BytesV.one {w : World} {d : List UInt8} {cs : List Value} (h : BytesV w d cs) : ∀ u ∈ cs, u.oneCell' = true := by
  obtain ⟨oa, c, rfl, _⟩ := h
  intro u hu
  simp at hu
  subst hu; rfl
theorem open_bss {H : Type} {enc : TypeId × Value → H} {w : World} {base base' : Nat} {spare : Nat → Bool} {held : Bool} {r : Reach} {v : Value} {d : DataW H} {ps : List MemPlace}
    (hval : Value.okWide Try.prog w r base' 47 v) (hd : DataW.Trod enc Try.prog w base spare held 47 v d ps) : ∃ l : List (List UInt8), Arr BytesV 1 w v l := by
  refine open_arr Try.underlying47 (e := 26) (by kernel_rfl) (by decide) ?_ (fun a cs h => BytesV.one h) hval hd
  intro fuel cs x hl hx
  match cs, hl with
  | [c0], _ =>
    obtain ⟨m, l, h1, h2, a, c, h3, h4, h5⟩ := open_bytesC Try.underlying26 Try.underlying5 (by kernel_rfl) hx
    subst h3 h2
    exact ⟨l, a, c, rfl, h1, h5⟩

set_option maxHeartbeats 1600000 in
theorem fits3 (v : Value) (l : List (List UInt8)) (w : World) (h : Arr BytesV 1 w v l) :
    Calls Try.prog 21 #[v] w fun e w' => ∃ b, e = .returned (.bool b) ∧ (b = true → l.length ≤ 2147483647 ∧ ∀ d ∈ l, d.length ≤ 2147483647) ∧ St w [] w' [] := by
  have S := St.begin w
  obtain ⟨oa, c, rfl, hc⟩ := h.shape
  have hh := hidden h
  clear h
  refine Calls.cps ?_; intro R hR
  by_cases hn : (l.length : Int) > 2147483647
  · have hbb : decide ((l.length : Int) > 2147483647) = true := decide_eq_true hn
    replace hn := hidden hn
    go_enter Try.func21, Try.ntmps21
    go_wp2_with (first | go_big_skip | ((with_reducible show Code.wp _ (Code.region _ _ true) _ _ _); refine St.regionLast S ?_; (repeat (first | (go_big_quiet_step (fail)) | (go_big_quiet_want; (first | refine quiet_ld S ?_ | refine quiet_ld8 S ?_ | refine quiet_ld0 ?_ | refine quiet_ldA S ?_ | refine quiet_b2sB S ?_ | refine quiet_b2sR S ?_ | refine quiet_ldc S ?_); go_big_quiet_on))); refine wpQuiet_nil ?_; clear S; intro wq S) | go_big_skip | (refine wpList_ld S ?_) | (refine wpList_ld8 S ?_) | (refine wpList_ld0 ?_) | (refine wpList_ldA S ?_) | (refine wpList_st8 S ?_; (clear S; intro ws S)) | (refine wpList_st S ?_; (clear S; intro ws S)) | (refine wpList_box S ?_; (clear S; intro nb wb hnb S)) | (refine wpList_alloc S ?_; (clear S; intro nb wb hnb S)) | (refine wpList_mk8 S ?_; (clear S; intro nb wb hnb S)) | (refine wpList_mk S ?_; (clear S; intro nb wb hnb S)) | (refine wpList_bs S ?_; (clear S; intro nb wb hnb S)) | (refine wpList_stA S ?_; (clear S; intro ws S; simp only [splice, List.take_zero, List.take_succ_cons, List.drop_succ_cons, List.drop_zero, List.drop_nil, List.length_cons, List.length_nil, Nat.reduceAdd, Nat.zero_add, List.nil_append, List.cons_append, List.append_nil] at S)) | (refine wpList_b2sB S ?_) | (refine wpList_b2sR S ?_) | (refine wpList_ldc S ?_))
    ((first | go_ret | go_ret2 | go_ret3 | go_end0 | skip); refine hR.out _ _ ?_)
    exact ⟨_, rfl, by simp, S.sel (by repeat (first | exact Sel.nil | (apply Sel.cons; (repeat (first | exact Pull.head | apply Pull.tail)))))⟩
  have hbb : decide ((l.length : Int) > 2147483647) = false := decide_eq_false hn
  have hle : l.length ≤ 2147483647 := by omega
  replace hn := hidden hn
  go_enter Try.func21, Try.ntmps21
  go_wp2_with (first | go_big_skip | ((with_reducible show Code.wp _ (Code.region _ _ true) _ _ _); refine St.regionLast S ?_; (repeat (first | (go_big_quiet_step (fail)) | (go_big_quiet_want; (first | refine quiet_ld S ?_ | refine quiet_ld8 S ?_ | refine quiet_ld0 ?_ | refine quiet_ldA S ?_ | refine quiet_b2sB S ?_ | refine quiet_b2sR S ?_ | refine quiet_ldc S ?_); go_big_quiet_on))); refine wpQuiet_nil ?_; clear S; intro wq S) | go_big_skip | (refine wpList_ld S ?_) | (refine wpList_ld8 S ?_) | (refine wpList_ld0 ?_) | (refine wpList_ldA S ?_) | (refine wpList_st8 S ?_; (clear S; intro ws S)) | (refine wpList_st S ?_; (clear S; intro ws S)) | (refine wpList_box S ?_; (clear S; intro nb wb hnb S)) | (refine wpList_alloc S ?_; (clear S; intro nb wb hnb S)) | (refine wpList_mk8 S ?_; (clear S; intro nb wb hnb S)) | (refine wpList_mk S ?_; (clear S; intro nb wb hnb S)) | (refine wpList_bs S ?_; (clear S; intro nb wb hnb S)) | (refine wpList_stA S ?_; (clear S; intro ws S; simp only [splice, List.take_zero, List.take_succ_cons, List.drop_succ_cons, List.drop_zero, List.drop_nil, List.length_cons, List.length_nil, Nat.reduceAdd, Nat.zero_add, List.nil_append, List.cons_append, List.append_nil] at S)) | (refine wpList_b2sB S ?_) | (refine wpList_b2sR S ?_) | (refine wpList_ldc S ?_))
  go_loopg [4, 10] l.length (fun g x i wr => ∃ k : Nat, Hid (k + g = l.length) ∧ i = .int .i64 k ∧ k ≤ l.length ∧ Hid (∀ d ∈ l.take k, d.length ≤ 2147483647) ∧ St w [] wr [])
  case atStart => exact ⟨0, hidden (by omega), rfl, Nat.zero_le _, hidden (by simp), S⟩
  case round =>
    clear S
    obtain ⟨k, hg, rfl, hkn, hpre, S⟩ := hrel
    by_cases hlt : k < l.length
    · obtain ⟨ad, rfl⟩ := hh.out.some (by decide) (by omega)
      have hop : l[k]? = some l[k] := List.getElem?_eq_getElem hlt
      obtain ⟨cs, ⟨oa', c', rfl, hs', hc'⟩, hl3, hcell⟩ := hh.out.get k _ hop
      have htake := hidden (show l.take (k + 1) = l.take k ++ [l[k]] by rw [List.take_add_one, hop]; rfl)
      generalize l[k] = d at *
      have g0 := hcell 0 _ rfl
      rw [Addr.add_zero', Nat.mul_one] at g0
      clear hop hs' hl3 hcell
      by_cases hd : (d.length : Int) > 2147483647
      · have hb2 : decide ((d.length : Int) > 2147483647) = true := decide_eq_true hd
        replace hd := hidden hd
        go_wp2_with (first | go_big_skip | (refine wpList_ldc S ?_) | go_big_skip | (refine wpList_ld S ?_) | (refine wpList_ld8 S ?_) | (refine wpList_ld0 ?_) | (refine wpList_ldA S ?_) | (refine wpList_st8 S ?_; (clear S; intro ws S)) | (refine wpList_st S ?_; (clear S; intro ws S)) | (refine wpList_box S ?_; (clear S; intro nb wb hnb S)) | (refine wpList_alloc S ?_; (clear S; intro nb wb hnb S)) | (refine wpList_mk8 S ?_; (clear S; intro nb wb hnb S)) | (refine wpList_mk S ?_; (clear S; intro nb wb hnb S)) | (refine wpList_bs S ?_; (clear S; intro nb wb hnb S)) | (refine wpList_stA S ?_; (clear S; intro ws S; simp only [splice, List.take_zero, List.take_succ_cons, List.drop_succ_cons, List.drop_zero, List.drop_nil, List.length_cons, List.length_nil, Nat.reduceAdd, Nat.zero_add, List.nil_append, List.cons_append, List.append_nil] at S)) | (refine wpList_b2sB S ?_) | (refine wpList_b2sR S ?_) | (refine wpList_ldc S ?_))
        ((first | go_ret | go_ret2 | go_ret3 | go_end0 | skip); refine hR.out _ _ ?_)
        exact ⟨_, rfl, by simp, S.sel (by repeat (first | exact Sel.nil | (apply Sel.cons; (repeat (first | exact Pull.head | apply Pull.tail)))))⟩
      · have hb2 : decide ((d.length : Int) > 2147483647) = false := decide_eq_false hd
        have hd3 := hidden (show d.length ≤ 2147483647 by omega)
        replace hd := hidden hd
        go_wp2_with (first | go_big_skip | (refine wpList_ldc S ?_) | go_big_skip | (refine wpList_ld S ?_) | (refine wpList_ld8 S ?_) | (refine wpList_ld0 ?_) | (refine wpList_ldA S ?_) | (refine wpList_st8 S ?_; (clear S; intro ws S)) | (refine wpList_st S ?_; (clear S; intro ws S)) | (refine wpList_box S ?_; (clear S; intro nb wb hnb S)) | (refine wpList_alloc S ?_; (clear S; intro nb wb hnb S)) | (refine wpList_mk8 S ?_; (clear S; intro nb wb hnb S)) | (refine wpList_mk S ?_; (clear S; intro nb wb hnb S)) | (refine wpList_bs S ?_; (clear S; intro nb wb hnb S)) | (refine wpList_stA S ?_; (clear S; intro ws S; simp only [splice, List.take_zero, List.take_succ_cons, List.drop_succ_cons, List.drop_zero, List.drop_nil, List.length_cons, List.length_nil, Nat.reduceAdd, Nat.zero_add, List.nil_append, List.cons_append, List.append_nil] at S)) | (refine wpList_b2sB S ?_) | (refine wpList_b2sR S ?_) | (refine wpList_ldc S ?_))
        go_roundg (gk - 1)
        case measure => have := hg.out; omega
        case rel =>
          refine ⟨k + 1, hidden (by have := hg.out; omega), by go_num, by omega, hidden ?_, S.sel (by repeat (first | exact Sel.nil | (apply Sel.cons; (repeat (first | exact Pull.head | apply Pull.tail)))))⟩
          rw [htake.out]
          intro o ho
          rcases List.mem_append.1 ho with ho | ho
          · exact hpre.out o ho
          · rw [List.mem_singleton.1 ho]; exact hd3.out
    · have hkl : k = l.length := by omega
      replace hkl := hidden hkl
      go_wp2_with (first | go_big_skip | ((with_reducible show Code.wp _ (Code.region _ _ true) _ _ _); refine St.regionLast S ?_; (repeat (first | (go_big_quiet_step (fail)) | (go_big_quiet_want; (first | refine quiet_ld S ?_ | refine quiet_ld8 S ?_ | refine quiet_ld0 ?_ | refine quiet_ldA S ?_ | refine quiet_b2sB S ?_ | refine quiet_b2sR S ?_ | refine quiet_ldc S ?_); go_big_quiet_on))); refine wpQuiet_nil ?_; clear S; intro wq S) | go_big_skip | (refine wpList_ld S ?_) | (refine wpList_ld8 S ?_) | (refine wpList_ld0 ?_) | (refine wpList_ldA S ?_) | (refine wpList_st8 S ?_; (clear S; intro ws S)) | (refine wpList_st S ?_; (clear S; intro ws S)) | (refine wpList_box S ?_; (clear S; intro nb wb hnb S)) | (refine wpList_alloc S ?_; (clear S; intro nb wb hnb S)) | (refine wpList_mk8 S ?_; (clear S; intro nb wb hnb S)) | (refine wpList_mk S ?_; (clear S; intro nb wb hnb S)) | (refine wpList_bs S ?_; (clear S; intro nb wb hnb S)) | (refine wpList_stA S ?_; (clear S; intro ws S; simp only [splice, List.take_zero, List.take_succ_cons, List.drop_succ_cons, List.drop_zero, List.drop_nil, List.length_cons, List.length_nil, Nat.reduceAdd, Nat.zero_add, List.nil_append, List.cons_append, List.append_nil] at S)) | (refine wpList_b2sB S ?_) | (refine wpList_b2sR S ?_) | (refine wpList_ldc S ?_))
      ((first | go_ret | go_ret2 | go_ret3 | go_end0 | skip); refine hR.out _ _ ?_)
      exact ⟨_, rfl, fun _ => ⟨hle, by have := hpre.out; rwa [hkl.out, List.take_length] at this⟩, S.sel (by repeat (first | exact Sel.nil | (apply Sel.cons; (repeat (first | exact Pull.head | apply Pull.tail)))))⟩

theorem each_one {α : Type} {R : α → List Value → Prop} {xs : List α} {css : List (List Value)} {n : Nat} (hE : Each (fun x cs => R x cs ∧ cs.length = n) xs css) (h1 : ∀ x cs, R x cs → ∀ u ∈ cs, u.oneCell' = true) : ∀ cs ∈ css, ∀ u ∈ cs, u.oneCell' = true := by
  intro cs hcs
  obtain ⟨i, hi⟩ := List.getElem?_of_mem hcs
  have hlt2 := (List.getElem?_eq_some_iff.1 hi).1
  have hl := hE.length
  obtain ⟨b, hb, hb2, _⟩ := hE.get i _ (List.getElem?_eq_getElem (show i < xs.length by omega))
  rw [hi] at hb
  cases hb
  exact h1 _ _ hb2
/-- The first few, each with its first bytes. -/
def few (l : List (List UInt8)) : List (List UInt8) := (l.take 12).map (·.take 200)
theorem few_length (l : List (List UInt8)) : (few l).length ≤ 12 := by unfold few; simp; omega
theorem few_each (l : List (List UInt8)) : ∀ d ∈ few l, d.length ≤ 200 := by
  intro d hd
  obtain ⟨x, _, rfl⟩ := List.mem_map.1 hd
  simp; omega
set_option maxHeartbeats 1600000 in
theorem quFew (v : Value) (l : List (List UInt8)) (w : World) (h : Arr BytesV 1 w v l) (hle : l.length ≤ 2147483647) (hd : ∀ d ∈ l, d.length ≤ 2147483647) :
    Calls Try.prog 22 #[v] w fun e w' => ∃ ov, e = .returned ov ∧ Arr BytesV 1 w' ov (few l) ∧ St w [] w' [] := by
  have S := St.begin w
  obtain ⟨oa, c, rfl, hc⟩ := h.shape
  have hh := hidden h
  replace hd := hidden hd
  clear h
  refine Calls.cps ?_; intro R hR
  go_enter Try.func22, Try.ntmps22
  go_wp2_with (first | go_big_skip | ((with_reducible show Code.wp _ (Code.region _ _ true) _ _ _); refine St.regionLast S ?_; (repeat (first | (go_big_quiet_step (fail)) | (go_big_quiet_want; (first | refine quiet_ld S ?_ | refine quiet_ld8 S ?_ | refine quiet_ld0 ?_ | refine quiet_ldA S ?_ | refine quiet_b2sB S ?_ | refine quiet_b2sR S ?_ | refine quiet_ldc S ?_); go_big_quiet_on))); refine wpQuiet_nil ?_; clear S; intro wq S) | go_big_skip | (refine wpList_ld S ?_) | (refine wpList_ld8 S ?_) | (refine wpList_ld0 ?_) | (refine wpList_ldA S ?_) | (refine wpList_st8 S ?_; (clear S; intro ws S)) | (refine wpList_st S ?_; (clear S; intro ws S)) | (refine wpList_box S ?_; (clear S; intro nb wb hnb S)) | (refine wpList_alloc S ?_; (clear S; intro nb wb hnb S)) | (refine wpList_mk8 S ?_; (clear S; intro nb wb hnb S)) | (refine wpList_mk S ?_; (clear S; intro nb wb hnb S)) | (refine wpList_bs S ?_; (clear S; intro nb wb hnb S)) | (refine wpList_stA S ?_; (clear S; intro ws S; simp only [splice, List.take_zero, List.take_succ_cons, List.drop_succ_cons, List.drop_zero, List.drop_nil, List.length_cons, List.length_nil, Nat.reduceAdd, Nat.zero_add, List.nil_append, List.cons_append, List.append_nil] at S)) | (refine wpList_b2sB S ?_) | (refine wpList_b2sR S ?_) | (refine wpList_ldc S ?_))
  have S := S.nilRow 26 1
  go_loopg [3, 4] 12 (fun g out i wr => ∃ (k : Nat) (css : List (List Value)), Hid (k + g = 12) ∧ i = .int .i64 k ∧ k ≤ 12 ∧ k ≤ l.length ∧ Hid (Each (fun x cs => BytesV w x cs ∧ cs.length = 1) (few (l.take k)) css) ∧ St w [] wr [.row 26 1 out k css.flatten])
  case atStart => exact ⟨0, [], hidden rfl, rfl, by omega, Nat.zero_le _, hidden (by simp [few, Each]), S⟩
  case round =>
    clear S
    obtain ⟨k, css, hg, rfl, hk12, hkn, hE, S⟩ := hrel
    by_cases hlt : k < l.length ∧ k < 12
    · obtain ⟨hlt, hlt2⟩ := hlt
      obtain ⟨ad, rfl⟩ := hh.out.some (by decide) (by omega)
      have hop : l[k]? = some l[k] := List.getElem?_eq_getElem hlt
      have hdl := hd.out l[k] (List.getElem_mem hlt)
      obtain ⟨cs, ⟨oa', c', rfl, hs', hc'⟩, hl3, hcell⟩ := hh.out.get k _ hop
      have htake := hidden (show few (l.take (k + 1)) = few (l.take k) ++ [l[k].take 200] by
        unfold few
        have e1 : (l.take (k + 1)).take 12 = l.take (k + 1) := List.take_of_length_le (by simp; omega)
        have e2 : (l.take k).take 12 = l.take k := List.take_of_length_le (by simp; omega)
        rw [e1, e2, List.take_add_one, hop, List.map_append]
        rfl)
      generalize l[k] = d at *
      have g0 := hcell 0 _ rfl
      rw [Addr.add_zero', Nat.mul_one] at g0
      clear hop hl3 hcell
      obtain ⟨N, hN⟩ : ∃ N, N = (d.take 200).length := ⟨_, rfl⟩
      have hN2 : N = min d.length 200 := by rw [hN]; simp; omega
      have hNd : N ≤ d.length := by omega
      have hV := hidden (show BytesV w (d.take 200) [.slice oa' N c'] from by
        rw [hN]
        refine ⟨oa', c', rfl, ?_, by omega⟩
        have := hs'.firsts N c' hNd
        rw [hN2] at this
        have e : d.take (min d.length 200) = d.take 200 := by
          rcases Nat.le_total d.length 200 with h | h
          · rw [Nat.min_eq_left h, List.take_of_length_le (Nat.le_refl _), List.take_of_length_le h]
          · rw [Nat.min_eq_right h]
        rw [e, ← hN2, hN] at this
        exact this)
      have hN3 : (200 < d.length ∧ N = 200) ∨ (¬ 200 < d.length ∧ N = d.length) := by omega
      clear hN hN2 hs'
      rcases hN3 with ⟨h2, rfl⟩ | ⟨h2, rfl⟩
      · have h3 : (200 : Int) < (d.length : Int) := by omega
        go_upto_region 5 with (first | go_big_skip | go_big_skip | (refine wpList_ld S ?_) | (refine wpList_ld8 S ?_) | (refine wpList_ld0 ?_) | (refine wpList_ldA S ?_) | (refine wpList_st8 S ?_; (clear S; intro ws S)) | (refine wpList_st S ?_; (clear S; intro ws S)) | (refine wpList_box S ?_; (clear S; intro nb wb hnb S)) | (refine wpList_alloc S ?_; (clear S; intro nb wb hnb S)) | (refine wpList_mk8 S ?_; (clear S; intro nb wb hnb S)) | (refine wpList_mk S ?_; (clear S; intro nb wb hnb S)) | (refine wpList_bs S ?_; (clear S; intro nb wb hnb S)) | (refine wpList_stA S ?_; (clear S; intro ws S; simp only [splice, List.take_zero, List.take_succ_cons, List.drop_succ_cons, List.drop_zero, List.drop_nil, List.length_cons, List.length_nil, Nat.reduceAdd, Nat.zero_add, List.nil_append, List.cons_append, List.append_nil] at S)) | (refine wpList_b2sB S ?_) | (refine wpList_b2sR S ?_) | (refine wpList_ldc S ?_))
        refine St.regionC S [] 15 [([0, 1, 2, 3, 4, 5, 6, 7, 8, 9, 10, 11], 12), ([], 13)] [14] ?_
        clear S; intro wr Cr S Sc; simp only [walkC, pick, List.getElem?_cons_succ, List.getElem?_cons_zero, List.drop_succ_cons, List.drop_zero]
        (repeat (first | (go_big_quiet_want; (refine quiet_slcH 200 ?_); go_big_quiet_on) | (first | (go_big_quiet_step (fail)) | (go_big_quiet_want; (first | refine quiet_ld Sc ?_ | refine quiet_ld8 Sc ?_ | refine quiet_ld0 ?_ | refine quiet_ldA Sc ?_ | refine quiet_b2sB Sc ?_ | refine quiet_b2sR Sc ?_ | refine quiet_ldc Sc ?_); go_big_quiet_on))))
        refine wpQuiet_nil ?_
        go_wp2_with (first | go_big_skip | (refine wpList_ld S ?_) | (refine wpList_ld8 S ?_) | (refine wpList_ld0 ?_) | (refine wpList_ldA S ?_) | (refine wpList_st8 S ?_; (clear S; intro ws S)) | (refine wpList_st S ?_; (clear S; intro ws S)) | (refine wpList_box S ?_; (clear S; intro nb wb hnb S)) | (refine wpList_alloc S ?_; (clear S; intro nb wb hnb S)) | (refine wpList_mk8 S ?_; (clear S; intro nb wb hnb S)) | (refine wpList_mk S ?_; (clear S; intro nb wb hnb S)) | (refine wpList_bs S ?_; (clear S; intro nb wb hnb S)) | (refine wpList_stA S ?_; (clear S; intro ws S; simp only [splice, List.take_zero, List.take_succ_cons, List.drop_succ_cons, List.drop_zero, List.drop_nil, List.length_cons, List.length_nil, Nat.reduceAdd, Nat.zero_add, List.nil_append, List.cons_append, List.append_nil] at S)) | (refine wpList_b2sB S ?_) | (refine wpList_b2sR S ?_) | (refine wpList_ldc S ?_))
        refine ⟨(S.sel (by repeat (first | exact Sel.nil | (apply Sel.cons; (repeat (first | exact Pull.head | apply Pull.tail)))))).inSt _, ?_⟩; (repeat (first | (go_big_quiet_step (fail)) | (go_big_quiet_want; (first | refine quiet_ld Sc ?_ | refine quiet_ld8 Sc ?_ | refine quiet_ld0 ?_ | refine quiet_ldA Sc ?_ | refine quiet_b2sB Sc ?_ | refine quiet_b2sR Sc ?_ | refine quiet_ldc Sc ?_); go_big_quiet_on))); refine wpQuiet_nil ?_
        go_wp2_with (first | (refine wpList_appB S ?_; (clear S; intro va wa hva S)) | go_big_skip | (refine wpList_ld S ?_) | (refine wpList_ld8 S ?_) | (refine wpList_ld0 ?_) | (refine wpList_ldA S ?_) | (refine wpList_st8 S ?_; (clear S; intro ws S)) | (refine wpList_st S ?_; (clear S; intro ws S)) | (refine wpList_box S ?_; (clear S; intro nb wb hnb S)) | (refine wpList_alloc S ?_; (clear S; intro nb wb hnb S)) | (refine wpList_mk8 S ?_; (clear S; intro nb wb hnb S)) | (refine wpList_mk S ?_; (clear S; intro nb wb hnb S)) | (refine wpList_bs S ?_; (clear S; intro nb wb hnb S)) | (refine wpList_stA S ?_; (clear S; intro ws S; simp only [splice, List.take_zero, List.take_succ_cons, List.drop_succ_cons, List.drop_zero, List.drop_nil, List.length_cons, List.length_nil, Nat.reduceAdd, Nat.zero_add, List.nil_append, List.cons_append, List.append_nil] at S)) | (refine wpList_b2sB S ?_) | (refine wpList_b2sR S ?_) | (refine wpList_ldc S ?_))
        refine ⟨(S.sel (by repeat (first | exact Sel.nil | (apply Sel.cons; (repeat (first | exact Pull.head | apply Pull.tail)))))).inSt _, ?_⟩; (repeat (first | (go_big_quiet_step (fail)) | (go_big_quiet_want; (first | refine quiet_ld Sc ?_ | refine quiet_ld8 Sc ?_ | refine quiet_ld0 ?_ | refine quiet_ldA Sc ?_ | refine quiet_b2sB Sc ?_ | refine quiet_b2sR Sc ?_ | refine quiet_ldc Sc ?_); go_big_quiet_on))); refine wpQuiet_nil ?_
        go_wp2_with (first | go_big_skip | ((with_reducible show Code.wp _ (Code.region _ _ true) _ _ _); refine St.regionLast S ?_; (repeat (first | (go_big_quiet_step (fail)) | (go_big_quiet_want; (first | refine quiet_ld S ?_ | refine quiet_ld8 S ?_ | refine quiet_ld0 ?_ | refine quiet_ldA S ?_ | refine quiet_b2sB S ?_ | refine quiet_b2sR S ?_ | refine quiet_ldc S ?_); go_big_quiet_on))); refine wpQuiet_nil ?_; clear S; intro wq S) | go_big_skip | (refine wpList_ld S ?_) | (refine wpList_ld8 S ?_) | (refine wpList_ld0 ?_) | (refine wpList_ldA S ?_) | (refine wpList_st8 S ?_; (clear S; intro ws S)) | (refine wpList_st S ?_; (clear S; intro ws S)) | (refine wpList_box S ?_; (clear S; intro nb wb hnb S)) | (refine wpList_alloc S ?_; (clear S; intro nb wb hnb S)) | (refine wpList_mk8 S ?_; (clear S; intro nb wb hnb S)) | (refine wpList_mk S ?_; (clear S; intro nb wb hnb S)) | (refine wpList_bs S ?_; (clear S; intro nb wb hnb S)) | (refine wpList_stA S ?_; (clear S; intro ws S; simp only [splice, List.take_zero, List.take_succ_cons, List.drop_succ_cons, List.drop_zero, List.drop_nil, List.length_cons, List.length_nil, Nat.reduceAdd, Nat.zero_add, List.nil_append, List.cons_append, List.append_nil] at S)) | (refine wpList_b2sB S ?_) | (refine wpList_b2sR S ?_) | (refine wpList_ldc S ?_))
        go_roundg (gk - 1)
        case measure => have := hg.out; omega
        case rel =>
          refine ⟨k + 1, css ++ [[.slice oa' 200 c']], hidden (by have := hg.out; omega), by go_num, by omega, by omega, hidden ?_, ?_⟩
          · rw [htake.out]
            exact hE.out.append ⟨⟨hV.out, rfl⟩, trivial⟩
          · rw [List.flatten_append]; exact S.sel (by repeat (first | exact Sel.nil | (apply Sel.cons; (repeat (first | exact Pull.head | apply Pull.tail)))))
      · have h3 : ¬ (200 : Int) < (d.length : Int) := by omega
        go_upto_region 5 with (first | go_big_skip | go_big_skip | (refine wpList_ld S ?_) | (refine wpList_ld8 S ?_) | (refine wpList_ld0 ?_) | (refine wpList_ldA S ?_) | (refine wpList_st8 S ?_; (clear S; intro ws S)) | (refine wpList_st S ?_; (clear S; intro ws S)) | (refine wpList_box S ?_; (clear S; intro nb wb hnb S)) | (refine wpList_alloc S ?_; (clear S; intro nb wb hnb S)) | (refine wpList_mk8 S ?_; (clear S; intro nb wb hnb S)) | (refine wpList_mk S ?_; (clear S; intro nb wb hnb S)) | (refine wpList_bs S ?_; (clear S; intro nb wb hnb S)) | (refine wpList_stA S ?_; (clear S; intro ws S; simp only [splice, List.take_zero, List.take_succ_cons, List.drop_succ_cons, List.drop_zero, List.drop_nil, List.length_cons, List.length_nil, Nat.reduceAdd, Nat.zero_add, List.nil_append, List.cons_append, List.append_nil] at S)) | (refine wpList_b2sB S ?_) | (refine wpList_b2sR S ?_) | (refine wpList_ldc S ?_))
        refine St.regionC S [] 15 [([0, 1, 2, 3, 4, 5, 6, 7, 8, 9, 10, 11], 12), ([], 13)] [14] ?_
        clear S; intro wr Cr S Sc; simp only [walkC, pick, List.getElem?_cons_succ, List.getElem?_cons_zero, List.drop_succ_cons, List.drop_zero]
        (repeat (first | (go_big_quiet_want; (refine quiet_slcH d.length ?_); go_big_quiet_on) | (first | (go_big_quiet_step (fail)) | (go_big_quiet_want; (first | refine quiet_ld Sc ?_ | refine quiet_ld8 Sc ?_ | refine quiet_ld0 ?_ | refine quiet_ldA Sc ?_ | refine quiet_b2sB Sc ?_ | refine quiet_b2sR Sc ?_ | refine quiet_ldc Sc ?_); go_big_quiet_on))))
        refine wpQuiet_nil ?_
        go_wp2_with (first | go_big_skip | (refine wpList_ld S ?_) | (refine wpList_ld8 S ?_) | (refine wpList_ld0 ?_) | (refine wpList_ldA S ?_) | (refine wpList_st8 S ?_; (clear S; intro ws S)) | (refine wpList_st S ?_; (clear S; intro ws S)) | (refine wpList_box S ?_; (clear S; intro nb wb hnb S)) | (refine wpList_alloc S ?_; (clear S; intro nb wb hnb S)) | (refine wpList_mk8 S ?_; (clear S; intro nb wb hnb S)) | (refine wpList_mk S ?_; (clear S; intro nb wb hnb S)) | (refine wpList_bs S ?_; (clear S; intro nb wb hnb S)) | (refine wpList_stA S ?_; (clear S; intro ws S; simp only [splice, List.take_zero, List.take_succ_cons, List.drop_succ_cons, List.drop_zero, List.drop_nil, List.length_cons, List.length_nil, Nat.reduceAdd, Nat.zero_add, List.nil_append, List.cons_append, List.append_nil] at S)) | (refine wpList_b2sB S ?_) | (refine wpList_b2sR S ?_) | (refine wpList_ldc S ?_))
        refine ⟨(S.sel (by repeat (first | exact Sel.nil | (apply Sel.cons; (repeat (first | exact Pull.head | apply Pull.tail)))))).inSt _, ?_⟩; (repeat (first | (go_big_quiet_step (fail)) | (go_big_quiet_want; (first | refine quiet_ld Sc ?_ | refine quiet_ld8 Sc ?_ | refine quiet_ld0 ?_ | refine quiet_ldA Sc ?_ | refine quiet_b2sB Sc ?_ | refine quiet_b2sR Sc ?_ | refine quiet_ldc Sc ?_); go_big_quiet_on))); refine wpQuiet_nil ?_
        go_wp2_with (first | (refine wpList_appB S ?_; (clear S; intro va wa hva S)) | go_big_skip | (refine wpList_ld S ?_) | (refine wpList_ld8 S ?_) | (refine wpList_ld0 ?_) | (refine wpList_ldA S ?_) | (refine wpList_st8 S ?_; (clear S; intro ws S)) | (refine wpList_st S ?_; (clear S; intro ws S)) | (refine wpList_box S ?_; (clear S; intro nb wb hnb S)) | (refine wpList_alloc S ?_; (clear S; intro nb wb hnb S)) | (refine wpList_mk8 S ?_; (clear S; intro nb wb hnb S)) | (refine wpList_mk S ?_; (clear S; intro nb wb hnb S)) | (refine wpList_bs S ?_; (clear S; intro nb wb hnb S)) | (refine wpList_stA S ?_; (clear S; intro ws S; simp only [splice, List.take_zero, List.take_succ_cons, List.drop_succ_cons, List.drop_zero, List.drop_nil, List.length_cons, List.length_nil, Nat.reduceAdd, Nat.zero_add, List.nil_append, List.cons_append, List.append_nil] at S)) | (refine wpList_b2sB S ?_) | (refine wpList_b2sR S ?_) | (refine wpList_ldc S ?_))
        refine ⟨(S.sel (by repeat (first | exact Sel.nil | (apply Sel.cons; (repeat (first | exact Pull.head | apply Pull.tail)))))).inSt _, ?_⟩; (repeat (first | (go_big_quiet_step (fail)) | (go_big_quiet_want; (first | refine quiet_ld Sc ?_ | refine quiet_ld8 Sc ?_ | refine quiet_ld0 ?_ | refine quiet_ldA Sc ?_ | refine quiet_b2sB Sc ?_ | refine quiet_b2sR Sc ?_ | refine quiet_ldc Sc ?_); go_big_quiet_on))); refine wpQuiet_nil ?_
        go_wp2_with (first | go_big_skip | ((with_reducible show Code.wp _ (Code.region _ _ true) _ _ _); refine St.regionLast S ?_; (repeat (first | (go_big_quiet_step (fail)) | (go_big_quiet_want; (first | refine quiet_ld S ?_ | refine quiet_ld8 S ?_ | refine quiet_ld0 ?_ | refine quiet_ldA S ?_ | refine quiet_b2sB S ?_ | refine quiet_b2sR S ?_ | refine quiet_ldc S ?_); go_big_quiet_on))); refine wpQuiet_nil ?_; clear S; intro wq S) | go_big_skip | (refine wpList_ld S ?_) | (refine wpList_ld8 S ?_) | (refine wpList_ld0 ?_) | (refine wpList_ldA S ?_) | (refine wpList_st8 S ?_; (clear S; intro ws S)) | (refine wpList_st S ?_; (clear S; intro ws S)) | (refine wpList_box S ?_; (clear S; intro nb wb hnb S)) | (refine wpList_alloc S ?_; (clear S; intro nb wb hnb S)) | (refine wpList_mk8 S ?_; (clear S; intro nb wb hnb S)) | (refine wpList_mk S ?_; (clear S; intro nb wb hnb S)) | (refine wpList_bs S ?_; (clear S; intro nb wb hnb S)) | (refine wpList_stA S ?_; (clear S; intro ws S; simp only [splice, List.take_zero, List.take_succ_cons, List.drop_succ_cons, List.drop_zero, List.drop_nil, List.length_cons, List.length_nil, Nat.reduceAdd, Nat.zero_add, List.nil_append, List.cons_append, List.append_nil] at S)) | (refine wpList_b2sB S ?_) | (refine wpList_b2sR S ?_) | (refine wpList_ldc S ?_))
        go_roundg (gk - 1)
        case measure => have := hg.out; omega
        case rel =>
          refine ⟨k + 1, css ++ [[.slice oa' d.length c']], hidden (by have := hg.out; omega), by go_num, by omega, by omega, hidden ?_, ?_⟩
          · rw [htake.out]
            exact hE.out.append ⟨⟨hV.out, rfl⟩, trivial⟩
          · rw [List.flatten_append]; exact S.sel (by repeat (first | exact Sel.nil | (apply Sel.cons; (repeat (first | exact Pull.head | apply Pull.tail)))))
    · have hfew := hidden (show few (l.take k) = few l by
        unfold few
        by_cases h1 : k < 12
        · have : k = l.length := by omega
          rw [this, List.take_length]
        · have : k = 12 := by omega
          rw [this, List.take_take]; simp)
      have hkl := hidden (show k = (few l).length by rw [← hfew.out]; unfold few; simp; omega)
      by_cases h1 : k < l.length
      · have h2 : ¬ k < 12 := by omega
        clear hlt
        go_wp2_with (first | go_big_skip | go_big_skip | (refine wpList_ld S ?_) | (refine wpList_ld8 S ?_) | (refine wpList_ld0 ?_) | (refine wpList_ldA S ?_) | (refine wpList_st8 S ?_; (clear S; intro ws S)) | (refine wpList_st S ?_; (clear S; intro ws S)) | (refine wpList_box S ?_; (clear S; intro nb wb hnb S)) | (refine wpList_alloc S ?_; (clear S; intro nb wb hnb S)) | (refine wpList_mk8 S ?_; (clear S; intro nb wb hnb S)) | (refine wpList_mk S ?_; (clear S; intro nb wb hnb S)) | (refine wpList_bs S ?_; (clear S; intro nb wb hnb S)) | (refine wpList_stA S ?_; (clear S; intro ws S; simp only [splice, List.take_zero, List.take_succ_cons, List.drop_succ_cons, List.drop_zero, List.drop_nil, List.length_cons, List.length_nil, Nat.reduceAdd, Nat.zero_add, List.nil_append, List.cons_append, List.append_nil] at S)) | (refine wpList_b2sB S ?_) | (refine wpList_b2sR S ?_) | (refine wpList_ldc S ?_))
        ((first | go_ret | go_ret2 | go_ret3 | go_end0 | skip); refine hR.out _ _ ?_)
        have hE2 := hE.out
        rw [hfew.out] at hE2
        exact ⟨_, rfl, row_arr (by decide) (by rw [← hkl.out]; exact S.mem.2 _ List.mem_cons_self) (hE2.mono fun x cs hx => ⟨hx.1.on S.chg, hx.2⟩) (each_one hE2 fun _ _ h => h.one), S.sel .nil⟩
      · have h2 : k = l.length := by omega
        have h3 : ¬ k < l.length := by omega
        replace h2 := hidden h2
        clear hlt
        go_wp2_with (first | go_big_skip | go_big_skip | (refine wpList_ld S ?_) | (refine wpList_ld8 S ?_) | (refine wpList_ld0 ?_) | (refine wpList_ldA S ?_) | (refine wpList_st8 S ?_; (clear S; intro ws S)) | (refine wpList_st S ?_; (clear S; intro ws S)) | (refine wpList_box S ?_; (clear S; intro nb wb hnb S)) | (refine wpList_alloc S ?_; (clear S; intro nb wb hnb S)) | (refine wpList_mk8 S ?_; (clear S; intro nb wb hnb S)) | (refine wpList_mk S ?_; (clear S; intro nb wb hnb S)) | (refine wpList_bs S ?_; (clear S; intro nb wb hnb S)) | (refine wpList_stA S ?_; (clear S; intro ws S; simp only [splice, List.take_zero, List.take_succ_cons, List.drop_succ_cons, List.drop_zero, List.drop_nil, List.length_cons, List.length_nil, Nat.reduceAdd, Nat.zero_add, List.nil_append, List.cons_append, List.append_nil] at S)) | (refine wpList_b2sB S ?_) | (refine wpList_b2sR S ?_) | (refine wpList_ldc S ?_))
        ((first | go_ret | go_ret2 | go_ret3 | go_end0 | skip); refine hR.out _ _ ?_)
        have hE2 := hE.out
        rw [hfew.out] at hE2
        exact ⟨_, rfl, row_arr (by decide) (by rw [← hkl.out]; exact S.mem.2 _ List.mem_cons_self) (hE2.mono fun x cs hx => ⟨hx.1.on S.chg, hx.2⟩) (each_one hE2 fun _ _ h => h.one), S.sel .nil⟩
end Go.Proofs.Ytkfkcinkkgdebaa
