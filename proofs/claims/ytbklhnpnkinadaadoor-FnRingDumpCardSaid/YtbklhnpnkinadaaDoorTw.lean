/- A copy of a ring buffer: the law. -/
import Derived.Test.YtbklhnpnkinadaaDoorTr
import Derived.Test.YtbklhnpnkinadaaDoorTaW
import Derived.Test.YtbklhnpnkinadaaDoorBss
namespace Go.Proofs.YtbklhnpnkinadaaDoor
open Go Go.RowKit Go.Vil
set_option linter.unusedSimpArgs false
set_option linter.unusedVariables false
set_option maxRecDepth 100000

theorem rans_one {w : World} {done : List (Value × Ri.RAns)} (hall : ∀ r ∈ ransRows done, r.holds w) : ∀ u ∈ ransCells done, u.oneCell' = true := by
  intro u hu
  obtain ⟨cs, hcs, hu⟩ := List.mem_flatten.1 hu
  obtain ⟨p, hp, rfl⟩ := List.mem_map.1 hcs
  obtain ⟨oa, c, h1, _⟩ := row_shape (by decide) (hall _ (List.mem_map_of_mem hp))
  rw [h1] at hu
  simp at hu
  rcases hu with rfl | rfl | rfl | rfl | rfl | rfl <;> rfl
theorem ransCells_len (l : List (Value × Ri.RAns)) : (ransCells l).length = l.length * 6 := by
  unfold ransCells
  rw [flat_len (size := 6)]
  · rw [List.length_map]
  · intro cs hcs
    obtain ⟨p, _, rfl⟩ := List.mem_map.1 hcs
    rfl
theorem ransCells_app (a b : List (Value × Ri.RAns)) : ransCells (a ++ b) = ransCells a ++ ransCells b := by simp [ransCells]
theorem ransRows_app (a b : List (Value × Ri.RAns)) : ransRows (a ++ b) = ransRows a ++ ransRows b := by simp [ransRows]

set_option maxHeartbeats 12800000 in
theorem lawRingDump (size : Int) (v : Value) (texts : List (List UInt8)) (ev0 ev1 : Value) (w : World) (h : Arr BytesV 1 w v texts) (hE : Errs w [] ev0 ev1) :
    Calls Tryd.prog 4 #[.int .i64 size, v] w fun e w' => e = .returned (.bool true) ∧ Chg [] w w' := by
  have S := St.begin w
  obtain ⟨oi, ci, rfl, hci⟩ := h.shape
  replace h := hidden h
  replace hE := hidden hE
  refine Calls.cps ?_; intro R hR
  go_enter Tryd.func4, Tryd.ntmps4
  go_wp2_with (first | go_big_skip | ((with_reducible show Code.wp _ (Code.region _ _ true) _ _ _); refine St.regionLast S ?_; (repeat (first | (go_big_quiet_step (fail)) | (go_big_quiet_want; (first | refine quiet_ld S ?_ | refine quiet_ld8 S ?_ | refine quiet_ld0 ?_ | refine quiet_ldA S ?_ | refine quiet_b2sB S ?_ | refine quiet_b2sR S ?_ | refine quiet_ldc S ?_); go_big_quiet_on))); refine wpQuiet_nil ?_; clear S; intro wq S) | go_big_skip | (refine wpList_ld S ?_) | (refine wpList_ld8 S ?_) | (refine wpList_ld0 ?_) | (refine wpList_ldA S ?_) | (refine wpList_st8 S ?_; (clear S; intro ws S)) | (refine wpList_st S ?_; (clear S; intro ws S)) | (refine wpList_box S ?_; (clear S; intro nb wb hnb S)) | (refine wpList_alloc S ?_; (clear S; intro nb wb hnb S)) | (refine wpList_mk8 S ?_; (clear S; intro nb wb hnb S)) | (refine wpList_mk S ?_; (clear S; intro nb wb hnb S)) | (refine wpList_bs S ?_; (clear S; intro nb wb hnb S)) | (refine wpList_stA S ?_; (clear S; intro ws S; simp only [splice, List.take_zero, List.take_succ_cons, List.drop_succ_cons, List.drop_zero, List.drop_nil, List.length_cons, List.length_nil, Nat.reduceAdd, Nat.zero_add, List.nil_append, List.cons_append, List.append_nil] at S)) | (refine wpList_b2sB S ?_) | (refine wpList_b2sR S ?_) | (refine wpList_ldc S ?_))
  refine Calls.mono (fits3 _ texts _ (h.out.on S.chg fun _ _ h => h.on S.chg)) ?_
  rintro e w2 ⟨b, rfl, hb, C⟩
  have S2 := S.call C; clear S C; simp only [List.cons_append, List.nil_append] at S2; have S := S2; clear S2
  cases b with
  | false =>
    go_wp2_with (first | go_big_skip | ((with_reducible show Code.wp _ (Code.region _ _ true) _ _ _); refine St.regionLast S ?_; (repeat (first | (go_big_quiet_step (fail)) | (go_big_quiet_want; (first | refine quiet_ld S ?_ | refine quiet_ld8 S ?_ | refine quiet_ld0 ?_ | refine quiet_ldA S ?_ | refine quiet_b2sB S ?_ | refine quiet_b2sR S ?_ | refine quiet_ldc S ?_); go_big_quiet_on))); refine wpQuiet_nil ?_; clear S; intro wq S) | go_big_skip | (refine wpList_ld S ?_) | (refine wpList_ld8 S ?_) | (refine wpList_ld0 ?_) | (refine wpList_ldA S ?_) | (refine wpList_st8 S ?_; (clear S; intro ws S)) | (refine wpList_st S ?_; (clear S; intro ws S)) | (refine wpList_box S ?_; (clear S; intro nb wb hnb S)) | (refine wpList_alloc S ?_; (clear S; intro nb wb hnb S)) | (refine wpList_mk8 S ?_; (clear S; intro nb wb hnb S)) | (refine wpList_mk S ?_; (clear S; intro nb wb hnb S)) | (refine wpList_bs S ?_; (clear S; intro nb wb hnb S)) | (refine wpList_stA S ?_; (clear S; intro ws S; simp only [splice, List.take_zero, List.take_succ_cons, List.drop_succ_cons, List.drop_zero, List.drop_nil, List.length_cons, List.length_nil, Nat.reduceAdd, Nat.zero_add, List.nil_append, List.cons_append, List.append_nil] at S)) | (refine wpList_b2sB S ?_) | (refine wpList_b2sR S ?_) | (refine wpList_ldc S ?_))
    ((first | go_ret | go_ret2 | go_ret3 | go_end0 | skip); refine hR.out _ _ ?_)
    exact ⟨rfl, S.chg⟩
  | true =>
    obtain ⟨hf1, hf2⟩ := hb rfl
    clear hb
    replace hf2 := hidden hf2
    have hs1 : 0 ≤ Ta.u64 size % 300 := Int.emod_nonneg _ (by decide)
    have hs2 : Ta.u64 size % 300 < 300 := Int.emod_lt_of_pos _ (by decide)
    go_upto_region 4 with (first | ((with_reducible show Code.wp _ (Code.region _ _ true) _ _ _); refine St.regionLast S ?_; (repeat (first | (go_big_quiet_step (fail)) | (go_big_quiet_want; (first | refine quiet_ld S ?_ | refine quiet_ld8 S ?_ | refine quiet_ld0 ?_ | refine quiet_ldA S ?_ | refine quiet_b2sB S ?_ | refine quiet_b2sR S ?_ | refine quiet_ldc S ?_); go_big_quiet_on))); refine wpQuiet_nil ?_; clear S; intro wq S) | go_big_skip | (refine wpList_ld S ?_) | (refine wpList_ld8 S ?_) | (refine wpList_ld0 ?_) | (refine wpList_ldA S ?_) | (refine wpList_st8 S ?_; (clear S; intro ws S)) | (refine wpList_st S ?_; (clear S; intro ws S)) | (refine wpList_box S ?_; (clear S; intro nb wb hnb S)) | (refine wpList_alloc S ?_; (clear S; intro nb wb hnb S)) | (refine wpList_mk8 S ?_; (clear S; intro nb wb hnb S)) | (refine wpList_mk S ?_; (clear S; intro nb wb hnb S)) | (refine wpList_bs S ?_; (clear S; intro nb wb hnb S)) | (refine wpList_stA S ?_; (clear S; intro ws S; simp only [splice, List.take_zero, List.take_succ_cons, List.drop_succ_cons, List.drop_zero, List.drop_nil, List.length_cons, List.length_nil, Nat.reduceAdd, Nat.zero_add, List.nil_append, List.cons_append, List.append_nil] at S)) | (refine wpList_b2sB S ?_) | (refine wpList_b2sR S ?_) | (refine wpList_ldc S ?_))
    rw [wrap_rem size 300 (by decide) (by decide)] at *
    obtain ⟨sz, hsz⟩ : ∃ sz : Nat, 1 + Ta.u64 size % 300 = sz := ⟨(1 + Ta.u64 size % 300).toNat, by omega⟩
    have hwz : wrap64 (1 + Ta.u64 size % 300) = (sz : Int) := by unfold wrap64; omega
    have hsz1 : 1 ≤ sz := by omega
    have hsz2 : sz ≤ 300 := by omega
    rw [hwz] at *
    clear hwz hs1 hs2 hsz
    go_wp2_with (first | go_big_skip | ((with_reducible show Code.wp _ (Code.region _ _ true) _ _ _); refine St.regionLast S ?_; (repeat (first | (go_big_quiet_step (fail)) | (go_big_quiet_want; (first | refine quiet_ld S ?_ | refine quiet_ld8 S ?_ | refine quiet_ld0 ?_ | refine quiet_ldA S ?_ | refine quiet_b2sB S ?_ | refine quiet_b2sR S ?_ | refine quiet_ldc S ?_); go_big_quiet_on))); refine wpQuiet_nil ?_; clear S; intro wq S) | go_big_skip | (refine wpList_ld S ?_) | (refine wpList_ld8 S ?_) | (refine wpList_ld0 ?_) | (refine wpList_ldA S ?_) | (refine wpList_st8 S ?_; (clear S; intro ws S)) | (refine wpList_st S ?_; (clear S; intro ws S)) | (refine wpList_box S ?_; (clear S; intro nb wb hnb S)) | (refine wpList_alloc S ?_; (clear S; intro nb wb hnb S)) | (refine wpList_mk8 S ?_; (clear S; intro nb wb hnb S)) | (refine wpList_mk S ?_; (clear S; intro nb wb hnb S)) | (refine wpList_bs S ?_; (clear S; intro nb wb hnb S)) | (refine wpList_stA S ?_; (clear S; intro ws S; simp only [splice, List.take_zero, List.take_succ_cons, List.drop_succ_cons, List.drop_zero, List.drop_nil, List.length_cons, List.length_nil, Nat.reduceAdd, Nat.zero_add, List.nil_append, List.cons_append, List.append_nil] at S)) | (refine wpList_b2sB S ?_) | (refine wpList_b2sR S ?_) | (refine wpList_ldc S ?_))
    refine Calls.mono (newTape sz 0 _) ?_
    rintro e w3 ⟨tp, rfl, C⟩
    have S2 := S.call C; clear S C; simp only [List.cons_append, List.nil_append] at S2; have S := S2; clear S2
    have hlow0 := hidden (show (Ta.fresh sz 0).Low 0 from ⟨Ta.fresh_fine _ _ hsz1, hsz2, by show 0 ≤ _; omega, Nat.zero_le _⟩)
    have S := S.nilRow 26 4
    have S := S.nilRow 4 1
    have S := S.nilRow 5 1
    go_wp2_with (first | go_big_skip | ((with_reducible show Code.wp _ (Code.region _ _ true) _ _ _); refine St.regionLast S ?_; (repeat (first | (go_big_quiet_step (fail)) | (go_big_quiet_want; (first | refine quiet_ld S ?_ | refine quiet_ld8 S ?_ | refine quiet_ld0 ?_ | refine quiet_ldA S ?_ | refine quiet_b2sB S ?_ | refine quiet_b2sR S ?_ | refine quiet_ldc S ?_); go_big_quiet_on))); refine wpQuiet_nil ?_; clear S; intro wq S) | go_big_skip | (refine wpList_ld S ?_) | (refine wpList_ld8 S ?_) | (refine wpList_ld0 ?_) | (refine wpList_ldA S ?_) | (refine wpList_st8 S ?_; (clear S; intro ws S)) | (refine wpList_st S ?_; (clear S; intro ws S)) | (refine wpList_box S ?_; (clear S; intro nb wb hnb S)) | (refine wpList_alloc S ?_; (clear S; intro nb wb hnb S)) | (refine wpList_mk8 S ?_; (clear S; intro nb wb hnb S)) | (refine wpList_mk S ?_; (clear S; intro nb wb hnb S)) | (refine wpList_bs S ?_; (clear S; intro nb wb hnb S)) | (refine wpList_stA S ?_; (clear S; intro ws S; simp only [splice, List.take_zero, List.take_succ_cons, List.drop_succ_cons, List.drop_zero, List.drop_nil, List.length_cons, List.length_nil, Nat.reduceAdd, Nat.zero_add, List.nil_append, List.cons_append, List.append_nil] at S)) | (refine wpList_b2sB S ?_) | (refine wpList_b2sR S ?_) | (refine wpList_ldc S ?_))
    go_loopg [6, 7, 8] texts.length (fun g lv i pv wr => ∃ (k : Nat) (D : List (Ri.ROp × TAns)) (t : Ta) (css : List (List Value)) (vb vk lv0 : Value), lv0 = lv ∧ Hid (k + g = texts.length) ∧ i = .int .i64 k ∧ k ≤ texts.length ∧ k ≤ 30 ∧ Hid (k = D.length) ∧
      Hid (Ta.Did (Ta.fresh sz 0) D t) ∧ Hid (∀ x ∈ D, x.1.kind = 0) ∧ Hid (Each (fun x cs => ROpV w x cs ∧ cs.length = 4) (D.map (·.1)) css) ∧
      St w [] wr (tHead tp t.size t.b t.e t.o vb vk :: .row 5 1 vb t.bytes.length (u8s t.bytes) :: .row 4 1 vk t.known.length (bls t.known) :: .row 26 4 lv k css.flatten :: []))
    case atStart =>
      exact ⟨0, [], Ta.fresh sz 0, [], _, _, _, rfl, hidden (by omega), rfl, Nat.zero_le _, by omega, hidden rfl, hidden .nil, hidden (by simp), hidden trivial, S.sel (by repeat (first | exact Sel.nil | (apply Sel.cons; (repeat (first | exact Pull.head | apply Pull.tail)))))⟩
    case round =>
      clear S
      obtain ⟨k, D, t, css, vb, vk, lv, rfl, hg, rfl, hkn, hk30, hn, hD, hD0, hE4, S⟩ := hrel
      go_upto_region 7 with fail
      go_cut [34] (fun c w' => c = .bool (decide (k < texts.length ∧ k < 30)) ∧ St w [] w' (tHead tp t.size t.b t.e t.o vb vk :: .row 5 1 vb t.bytes.length (u8s t.bytes) :: .row 4 1 vk t.known.length (bls t.known) :: .row 26 4 lv k css.flatten :: []))
      case first =>
        by_cases c1 : k < texts.length
        · go_wp2_with (first | go_big_skip | ((with_reducible show Code.wp _ (Code.region _ _ true) _ _ _); refine St.regionLast S ?_; (repeat (first | (go_big_quiet_step (fail)) | (go_big_quiet_want; (first | refine quiet_ld S ?_ | refine quiet_ld8 S ?_ | refine quiet_ld0 ?_ | refine quiet_ldA S ?_ | refine quiet_b2sB S ?_ | refine quiet_b2sR S ?_ | refine quiet_ldc S ?_); go_big_quiet_on))); refine wpQuiet_nil ?_; clear S; intro wq S) | go_big_skip | (refine wpList_ld S ?_) | (refine wpList_ld8 S ?_) | (refine wpList_ld0 ?_) | (refine wpList_ldA S ?_) | (refine wpList_st8 S ?_; (clear S; intro ws S)) | (refine wpList_st S ?_; (clear S; intro ws S)) | (refine wpList_box S ?_; (clear S; intro nb wb hnb S)) | (refine wpList_alloc S ?_; (clear S; intro nb wb hnb S)) | (refine wpList_mk8 S ?_; (clear S; intro nb wb hnb S)) | (refine wpList_mk S ?_; (clear S; intro nb wb hnb S)) | (refine wpList_bs S ?_; (clear S; intro nb wb hnb S)) | (refine wpList_stA S ?_; (clear S; intro ws S; simp only [splice, List.take_zero, List.take_succ_cons, List.drop_succ_cons, List.drop_zero, List.drop_nil, List.length_cons, List.length_nil, Nat.reduceAdd, Nat.zero_add, List.nil_append, List.cons_append, List.append_nil] at S)) | (refine wpList_b2sB S ?_) | (refine wpList_b2sR S ?_) | (refine wpList_ldc S ?_))
          go_meet
          refine ⟨congrArg Value.bool ?_, S⟩
          by_cases c2 : k < 30
          · rw [decide_eq_true (show (k : Int) < 30 by omega), decide_eq_true (show k < texts.length ∧ k < 30 from ⟨c1, c2⟩)]
          · rw [decide_eq_false (show ¬ (k : Int) < 30 by omega), decide_eq_false (show ¬ (k < texts.length ∧ k < 30) by omega)]
        · go_wp2_with (first | go_big_skip | ((with_reducible show Code.wp _ (Code.region _ _ true) _ _ _); refine St.regionLast S ?_; (repeat (first | (go_big_quiet_step (fail)) | (go_big_quiet_want; (first | refine quiet_ld S ?_ | refine quiet_ld8 S ?_ | refine quiet_ld0 ?_ | refine quiet_ldA S ?_ | refine quiet_b2sB S ?_ | refine quiet_b2sR S ?_ | refine quiet_ldc S ?_); go_big_quiet_on))); refine wpQuiet_nil ?_; clear S; intro wq S) | go_big_skip | (refine wpList_ld S ?_) | (refine wpList_ld8 S ?_) | (refine wpList_ld0 ?_) | (refine wpList_ldA S ?_) | (refine wpList_st8 S ?_; (clear S; intro ws S)) | (refine wpList_st S ?_; (clear S; intro ws S)) | (refine wpList_box S ?_; (clear S; intro nb wb hnb S)) | (refine wpList_alloc S ?_; (clear S; intro nb wb hnb S)) | (refine wpList_mk8 S ?_; (clear S; intro nb wb hnb S)) | (refine wpList_mk S ?_; (clear S; intro nb wb hnb S)) | (refine wpList_bs S ?_; (clear S; intro nb wb hnb S)) | (refine wpList_stA S ?_; (clear S; intro ws S; simp only [splice, List.take_zero, List.take_succ_cons, List.drop_succ_cons, List.drop_zero, List.drop_nil, List.length_cons, List.length_nil, Nat.reduceAdd, Nat.zero_add, List.nil_append, List.cons_append, List.append_nil] at S)) | (refine wpList_b2sB S ?_) | (refine wpList_b2sR S ?_) | (refine wpList_ldc S ?_))
          go_meet
          exact ⟨congrArg Value.bool (decide_eq_false (p := k < texts.length ∧ k < 30) (by omega)).symm, S⟩
      case rest =>
      obtain ⟨rfl, S⟩ := hcut
      obtain ⟨al, cl, rfl, hcl1, hcl2⟩ := S.rowSliceN (hp := .tail (.tail (.tail .head)))
      have hlow := hidden (Ta.did_low hD.out hlow0.out)
      have hk0 : D.length ≤ 30 := by have := hn.out; omega
      replace hk0 := hidden hk0
      by_cases hlt : k < texts.length ∧ k < 30
      · rw [decide_eq_true hlt]
        obtain ⟨hlt, hl60⟩ := hlt
        obtain ⟨ad, rfl⟩ := h.out.some (by decide) (by omega)
        have hop : texts[k]? = some texts[k] := List.getElem?_eq_getElem hlt
        have hnb := hf2.out _ (List.getElem_mem hlt)
        obtain ⟨cs, ⟨oa', c', rfl, hs', hc'⟩, hl4, hcell⟩ := h.out.get k _ hop
        generalize texts[k] = p at *
        have g0 := hcell 0 _ rfl
        rw [Addr.add_zero', Nat.mul_one] at g0
        clear hop hl4 hcell
        obtain ⟨m, hm⟩ : ∃ m, m = min p.length 300 := ⟨_, rfl⟩
        have hm1 : m ≤ p.length := by omega
        have hm2 : m ≤ 300 := by omega
        have hm3 : m ≤ c' := by omega
        have hs2 := hidden (hs'.firsts m c' hm1)
        have hp2 : (p.take m).length = m := by rw [List.length_take]; omega
        have hnr := hidden (Ta.near_write t (p.take m) (by omega))
        have hst := hidden (show t.step ⟨0, p.take m, 0, 0⟩ = if m ≤ t.size then (t.puts ((p.take m).map fun c => (c, true)), Ta.tbare 0 (p.take m).length) else (t, Ta.tbare 1 0) from by rw [Ta.step0, hp2])
        generalize p.take m = q at *
        replace hs' := hidden hs'
        generalize p.length = pl at *
        have hma : pl ≤ 300 → m = pl := fun h => by omega
        have hmb : ¬ pl ≤ 300 → m = 300 := fun h => by omega
        clear hm
        go_upto_region 9 with fail
        go_cut [8] (fun pv w' => pv = .slice oa' m c' ∧ St w [] w' (tHead tp t.size t.b t.e t.o vb vk :: .row 5 1 vb t.bytes.length (u8s t.bytes) :: .row 4 1 vk t.known.length (bls t.known) :: .row 26 4 (.slice al k cl) k css.flatten :: []))
        case first =>
          by_cases h3 : pl ≤ 300
          · have hmm := hma h3
            subst hmm
            clear hma hmb
            go_wp2_with (first | ((with_reducible show Code.wp _ (Code.region _ _ true) _ _ _); refine St.regionLast S ?_; (repeat (first | (go_big_quiet_want; (refine quiet_slcH m ?_); go_big_quiet_on) | (first | (go_big_quiet_step (fail)) | (go_big_quiet_want; (first | refine quiet_ld S ?_ | refine quiet_ld8 S ?_ | refine quiet_ld0 ?_ | refine quiet_ldA S ?_ | refine quiet_b2sB S ?_ | refine quiet_b2sR S ?_ | refine quiet_ldc S ?_); go_big_quiet_on)))); refine wpQuiet_nil ?_; clear S; intro wq S) | go_big_skip | go_big_skip | (refine wpList_ld S ?_) | (refine wpList_ld8 S ?_) | (refine wpList_ld0 ?_) | (refine wpList_ldA S ?_) | (refine wpList_st8 S ?_; (clear S; intro ws S)) | (refine wpList_st S ?_; (clear S; intro ws S)) | (refine wpList_box S ?_; (clear S; intro nb wb hnb S)) | (refine wpList_alloc S ?_; (clear S; intro nb wb hnb S)) | (refine wpList_mk8 S ?_; (clear S; intro nb wb hnb S)) | (refine wpList_mk S ?_; (clear S; intro nb wb hnb S)) | (refine wpList_bs S ?_; (clear S; intro nb wb hnb S)) | (refine wpList_stA S ?_; (clear S; intro ws S; simp only [splice, List.take_zero, List.take_succ_cons, List.drop_succ_cons, List.drop_zero, List.drop_nil, List.length_cons, List.length_nil, Nat.reduceAdd, Nat.zero_add, List.nil_append, List.cons_append, List.append_nil] at S)) | (refine wpList_b2sB S ?_) | (refine wpList_b2sR S ?_) | (refine wpList_ldc S ?_))
            go_meet
            exact ⟨rfl, S.sel (by repeat (first | exact Sel.nil | (apply Sel.cons; (repeat (first | exact Pull.head | apply Pull.tail)))))⟩
          · have hmm := hmb h3
            subst hmm
            clear hma hmb
            go_wp2_with (first | ((with_reducible show Code.wp _ (Code.region _ _ true) _ _ _); refine St.regionLast S ?_; (repeat (first | (go_big_quiet_want; (refine quiet_slcH 300 ?_); go_big_quiet_on) | (first | (go_big_quiet_step (fail)) | (go_big_quiet_want; (first | refine quiet_ld S ?_ | refine quiet_ld8 S ?_ | refine quiet_ld0 ?_ | refine quiet_ldA S ?_ | refine quiet_b2sB S ?_ | refine quiet_b2sR S ?_ | refine quiet_ldc S ?_); go_big_quiet_on)))); refine wpQuiet_nil ?_; clear S; intro wq S) | go_big_skip | go_big_skip | (refine wpList_ld S ?_) | (refine wpList_ld8 S ?_) | (refine wpList_ld0 ?_) | (refine wpList_ldA S ?_) | (refine wpList_st8 S ?_; (clear S; intro ws S)) | (refine wpList_st S ?_; (clear S; intro ws S)) | (refine wpList_box S ?_; (clear S; intro nb wb hnb S)) | (refine wpList_alloc S ?_; (clear S; intro nb wb hnb S)) | (refine wpList_mk8 S ?_; (clear S; intro nb wb hnb S)) | (refine wpList_mk S ?_; (clear S; intro nb wb hnb S)) | (refine wpList_bs S ?_; (clear S; intro nb wb hnb S)) | (refine wpList_stA S ?_; (clear S; intro ws S; simp only [splice, List.take_zero, List.take_succ_cons, List.drop_succ_cons, List.drop_zero, List.drop_nil, List.length_cons, List.length_nil, Nat.reduceAdd, Nat.zero_add, List.nil_append, List.cons_append, List.append_nil] at S)) | (refine wpList_b2sB S ?_) | (refine wpList_b2sR S ?_) | (refine wpList_ldc S ?_))
            go_meet
            exact ⟨rfl, S.sel (by repeat (first | exact Sel.nil | (apply Sel.cons; (repeat (first | exact Pull.head | apply Pull.tail)))))⟩
        case rest =>
        obtain ⟨rfl, S2⟩ := hcut
        clear S
        have S := S2
        clear S2 hma hmb
        go_upto_region 10 with fail
        go_wp2_with (first | go_big_skip | ((with_reducible show Code.wp _ (Code.region _ _ true) _ _ _); refine St.regionLast S ?_; (repeat (first | (go_big_quiet_step (fail)) | (go_big_quiet_want; (first | refine quiet_ld S ?_ | refine quiet_ld8 S ?_ | refine quiet_ld0 ?_ | refine quiet_ldA S ?_ | refine quiet_b2sB S ?_ | refine quiet_b2sR S ?_ | refine quiet_ldc S ?_); go_big_quiet_on))); refine wpQuiet_nil ?_; clear S; intro wq S) | go_big_skip | (refine wpList_ld S ?_) | (refine wpList_ld8 S ?_) | (refine wpList_ld0 ?_) | (refine wpList_ldA S ?_) | (refine wpList_st8 S ?_; (clear S; intro ws S)) | (refine wpList_st S ?_; (clear S; intro ws S)) | (refine wpList_box S ?_; (clear S; intro nb wb hnb S)) | (refine wpList_alloc S ?_; (clear S; intro nb wb hnb S)) | (refine wpList_mk8 S ?_; (clear S; intro nb wb hnb S)) | (refine wpList_mk S ?_; (clear S; intro nb wb hnb S)) | (refine wpList_bs S ?_; (clear S; intro nb wb hnb S)) | (refine wpList_stA S ?_; (clear S; intro ws S; simp only [splice, List.take_zero, List.take_succ_cons, List.drop_succ_cons, List.drop_zero, List.drop_nil, List.length_cons, List.length_nil, Nat.reduceAdd, Nat.zero_add, List.nil_append, List.cons_append, List.append_nil] at S)) | (refine wpList_b2sB S ?_) | (refine wpList_b2sR S ?_) | (refine wpList_ldc S ?_))
        have hT : TapeSt w [] _ tp t (.row 26 4 (.slice al k cl) k css.flatten :: []) := ⟨vb, vk, S⟩
        refine Calls.mono (tapeWrite tp t q m c' oa' _ w [] _ hT (Mild.low hlow.out (by have := hk0.out; omega)) (Seen.of hs2.out) (by omega)) ?_
        rintro e w4 ⟨rfl, vb2, vk2, S2⟩
        clear S hT
        have S := S2
        clear S2
        have hD2 := Ta.Did.snoc hD.out hnr.out
        have e5 : (t.step ⟨0, q, 0, 0⟩).1 = (if m ≤ t.size then t.puts (q.map fun c => (c, true)) else t) := by rw [hst.out]; split <;> rfl
        rw [e5] at hD2
        generalize (if m ≤ t.size then t.puts (q.map fun c => (c, true)) else t) = t2 at *
        generalize (t.step ⟨0, q, 0, 0⟩).2 = an at *
        replace hD2 := hidden hD2
        clear e5 hst hnr
        go_wp2_with (first | go_big_skip | (refine wpList_appB S ?_; (clear S; intro va wa hva S)) | ((with_reducible show Code.wp _ (Code.region _ _ true) _ _ _); refine St.regionLast S ?_; (repeat (first | (go_big_quiet_step (fail)) | (go_big_quiet_want; (first | refine quiet_ld S ?_ | refine quiet_ld8 S ?_ | refine quiet_ld0 ?_ | refine quiet_ldA S ?_ | refine quiet_b2sB S ?_ | refine quiet_b2sR S ?_ | refine quiet_ldc S ?_); go_big_quiet_on))); refine wpQuiet_nil ?_; clear S; intro wq S) | go_big_skip | (refine wpList_ld S ?_) | (refine wpList_ld8 S ?_) | (refine wpList_ld0 ?_) | (refine wpList_ldA S ?_) | (refine wpList_st8 S ?_; (clear S; intro ws S)) | (refine wpList_st S ?_; (clear S; intro ws S)) | (refine wpList_box S ?_; (clear S; intro nb wb hnb S)) | (refine wpList_alloc S ?_; (clear S; intro nb wb hnb S)) | (refine wpList_mk8 S ?_; (clear S; intro nb wb hnb S)) | (refine wpList_mk S ?_; (clear S; intro nb wb hnb S)) | (refine wpList_bs S ?_; (clear S; intro nb wb hnb S)) | (refine wpList_stA S ?_; (clear S; intro ws S; simp only [splice, List.take_zero, List.take_succ_cons, List.drop_succ_cons, List.drop_zero, List.drop_nil, List.length_cons, List.length_nil, Nat.reduceAdd, Nat.zero_add, List.nil_append, List.cons_append, List.append_nil] at S)) | (refine wpList_b2sB S ?_) | (refine wpList_b2sR S ?_) | (refine wpList_ldc S ?_))
        go_roundg (gk - 1)
        case measure => have := hg.out; omega
        case rel =>
          refine ⟨k + 1, D ++ [(⟨0, q, 0, 0⟩, an)], t2, css ++ [[.int .i64 0, .slice oa' m c', .int .i64 0, .int .i64 0]], vb2, vk2, va, rfl, hidden (by have := hg.out; omega), by go_num, by omega, by omega, hidden (by rw [List.length_append, ← hn.out]; rfl), hD2, hidden ?_, hidden ?_, ?_⟩
          · intro x hx
            rcases List.mem_append.1 hx with hx | hx
            · exact hD0.out x hx
            · rw [List.mem_singleton.1 hx]
          · rw [List.map_append]
            exact hE4.out.append ⟨⟨⟨oa', m, c', rfl, hs2.out, hm3⟩, rfl⟩, trivial⟩
          · rw [List.flatten_append]
            exact (S.selT (by repeat (first | (apply SelT.nil; (repeat (first | exact Suf.refl | apply Suf.cons)); done) | (apply SelT.cons; (repeat (first | exact Pull.head | apply Pull.tail))))))
      · rw [decide_eq_false hlt]
        have hlow9 := hlow.out
        go_wp2_with (first | go_big_skip | (refine wpList_appB S ?_; (clear S; intro va wa hva S)) | ((with_reducible show Code.wp _ (Code.region _ _ true) _ _ _); refine St.regionLast S ?_; (repeat (first | (go_big_quiet_step (fail)) | (go_big_quiet_want; (first | refine quiet_ld S ?_ | refine quiet_ld8 S ?_ | refine quiet_ld0 ?_ | refine quiet_ldA S ?_ | refine quiet_b2sB S ?_ | refine quiet_b2sR S ?_ | refine quiet_ldc S ?_); go_big_quiet_on))); refine wpQuiet_nil ?_; clear S; intro wq S) | go_big_skip | (refine wpList_ld S ?_) | (refine wpList_ld8 S ?_) | (refine wpList_ld0 ?_) | (refine wpList_ldA S ?_) | (refine wpList_st8 S ?_; (clear S; intro ws S)) | (refine wpList_st S ?_; (clear S; intro ws S)) | (refine wpList_box S ?_; (clear S; intro nb wb hnb S)) | (refine wpList_alloc S ?_; (clear S; intro nb wb hnb S)) | (refine wpList_mk8 S ?_; (clear S; intro nb wb hnb S)) | (refine wpList_mk S ?_; (clear S; intro nb wb hnb S)) | (refine wpList_bs S ?_; (clear S; intro nb wb hnb S)) | (refine wpList_stA S ?_; (clear S; intro ws S; simp only [splice, List.take_zero, List.take_succ_cons, List.drop_succ_cons, List.drop_zero, List.drop_nil, List.length_cons, List.length_nil, Nat.reduceAdd, Nat.zero_add, List.nil_append, List.cons_append, List.append_nil] at S)) | (refine wpList_b2sB S ?_) | (refine wpList_b2sR S ?_) | (refine wpList_ldc S ?_))
        clear hva
        have hns := hn.out
        obtain ⟨lb, lc, rfl, hlc⟩ := S.rowSome (by omega) .head
        obtain ⟨ops3, e3⟩ : ∃ ops3 : List Ri.ROp, ops3 = D.map (·.1) ++ [⟨9, [], 0, 0⟩] := ⟨_, rfl⟩
        have hlen3 : ops3.length = k + 1 := by rw [e3, List.length_append, List.length_map]; simp; omega
        have harr : Arr ROpV 4 wa (.slice (some ⟨lb, 0, none⟩) ops3.length lc) ops3 := by
          rw [hlen3]
          refine rops_arr (css := css ++ [[.int .i64 9, .slice none 0 0, .int .i64 0, .int .i64 0]]) (F := []) ?_ (S.sel (.cons .head .nil)) ?_
          · rw [e3]
            exact hE4.out.append ⟨⟨⟨none, 0, 0, rfl, Src.nil w 1 0, Nat.le_refl _⟩, rfl⟩, trivial⟩
          · rw [hlen3, List.flatten_append]
            exact .head
        obtain ⟨_, hfine, ⟨W', hB⟩, _⟩ := Ta.did_all hD.out (Ta.fresh_both sz 0 hsz1) hlow0.out (by omega)
        obtain ⟨hw1, hw2, hw3⟩ := Ta.did_wrote hsz1 hD.out hD0.out
        obtain ⟨hrk, hrt⟩ := did_rok hD.out hlow0.out (by omega)
        have hEr : Errs wa [] ev0 ev1 := hE.out.call S (bs' := [])
        have hrl0 : ((Ri.fresh sz 0).run (D.map (·.1))).length = k := by rw [Ri.run_length, List.length_map]; omega
        have hrun0 : (Ri.fresh sz 0).run ops3 = (Ri.fresh sz 0).run (D.map (·.1)) ++ [⟨0, 0, 0, 0, ((Ri.fresh sz 0).endR (D.map (·.1))).data, false⟩] := by rw [e3, Ri.run_append]; rfl
        obtain ⟨rr, hrE⟩ : ∃ rr, (Ri.fresh sz 0).endR (D.map (·.1)) = rr := ⟨_, rfl⟩
        rw [hrE] at hB hw3 hrun0
        have hfine3 : (Ri.fresh sz 0).Fine ops3 := by
          rw [e3]
          have h1 := hB.e
          have h2 := hB.has
          have h3 := hw3.size
          have h4 := hlow9.e
          rw [← hrE] at h1 h2 h3
          exact Ri.fine_append _ _ _ hfine ⟨Ta.legal_dump h2 (by omega) (by omega), trivial⟩
        have hrk3 : ∀ op ∈ ops3, ROk op := by
          intro op hop
          rw [e3] at hop
          rcases List.mem_append.1 hop with hop | hop
          · exact hrk op hop
          · rw [List.mem_singleton.1 hop]; exact ⟨by simp, by simp, by simp, by simp, by simp⟩
        have hrt3 : rtotal ops3 ≤ 262144 := by
          rw [e3]
          unfold rtotal at *
          rw [List.map_append, List.sum_append]
          simp only [List.map_cons, List.map_nil, List.sum_cons, List.sum_nil, List.length_nil]
          omega
        have hrun := ringRunR _ ops3 sz 0 ev0 ev1 wa harr hrk3 (by omega) hrt3 hsz1 (by omega) (by omega) hEr hfine3
        rw [hlen3, hrun0] at hrun
        have hdr := hidden (Ta.dump_reads hB hw1 hw2 hw3 sz)
        have hrsz : rr.data.length = sz := hw3.size
        have hbee := hlow9.fine.be
        have hee := hlow9.e
        have hmild := hidden (Mild.low hlow9 (by omega))
        replace hrun := hidden hrun
        generalize (Ri.fresh sz 0).run (D.map (·.1)) = A at *
        clear hfine hB hw1 hw2 hw3 hrk hrt hEr hrun0 hfine3 hrk3 hrt3 harr e3 hlen3 hns hn hD hD0 hE4 hlow hlow9 hlow0
        refine Calls.mono hrun.out ?_
        rintro e w8 ⟨ov, done, rfl, hdn, C⟩
        obtain ⟨d0, d1, rfl, h1, h2⟩ := List.map_eq_append_iff.1 hdn.symm
        obtain ⟨⟨dv, x9⟩, rfl, hx9⟩ := List.map_eq_singleton_iff.1 h2
        simp only at hx9
        subst hx9
        have hd0 : d0.length = k := by rw [← hrl0, ← h1, List.length_map]
        have hdl : (d0 ++ [(dv, (⟨0, 0, 0, 0, rr.data, false⟩ : Ri.RAns))]).length = k + 1 := by rw [List.length_append, hd0]; rfl
        have hone := hidden (rans_one (w := w8) (done := d0 ++ [(dv, ⟨0, 0, 0, 0, rr.data, false⟩)]) fun r hr => C.mem.2 r (List.mem_cons_of_mem _ hr))
        have hcl : (ransCells d0).length = k * 6 := by rw [ransCells_len, hd0]
        have hget := hidden (get_app (xs := ransCells (d0 ++ [(dv, ⟨0, 0, 0, 0, rr.data, false⟩)])) (a := ransCells d0) (i := k * 6) (cs := [.int .i64 0, .int .i64 0, .int .i64 0, .int .i64 0, dv, .bool false]) (more := []) hcl (by rw [ransCells_app]; rfl) 4 dv rfl)
        have S2 := S.call C
        clear S C h1 h2 hdn hrun
        rw [hdl] at S2
        rw [ransRows_app, List.cons_append, List.append_assoc] at S2
        have S3 := S2.perm (.cons _ List.perm_append_comm)
        clear S2
        have S : St w [] w8 [.row 34 6 ov (k + 1) (ransCells (d0 ++ [(dv, ⟨0, 0, 0, 0, rr.data, false⟩)])), .row 5 1 dv rr.data.length (u8s rr.data), tHead tp t.size t.b t.e t.o vb vk, .row 5 1 vb t.bytes.length (u8s t.bytes), .row 4 1 vk t.known.length (bls t.known)] := S3.sel (by repeat (first | exact Sel.nil | (apply Sel.cons; (repeat (first | exact Pull.head | apply Pull.tail)))))
        clear S3
        generalize ransCells (d0 ++ [(dv, (⟨0, 0, 0, 0, rr.data, false⟩ : Ri.RAns))]) = rc at *
        obtain ⟨ob, oc, rfl, hoc⟩ := S.rowSome (by omega) .head
        obtain ⟨db, dc, rfl, hdc⟩ := S.rowSome (by omega) (.tail .head)
        have hrs9 := hidden hrsz
        rw [hrsz] at *
        clear hd0 hdl hcl hrl0
        go_wp2_with (first | go_big_skip | (refine wpList_ldRn S hone.out hget.out ?_) | ((with_reducible show Code.wp _ (Code.region _ _ true) _ _ _); refine St.regionLast S ?_; (repeat (first | (go_big_quiet_step (fail)) | (go_big_quiet_want; (first | refine quiet_ld S ?_ | refine quiet_ld8 S ?_ | refine quiet_ld0 ?_ | refine quiet_ldA S ?_ | refine quiet_b2sB S ?_ | refine quiet_b2sR S ?_ | refine quiet_ldc S ?_); go_big_quiet_on))); refine wpQuiet_nil ?_; clear S; intro wq S) | go_big_skip | (refine wpList_ld S ?_) | (refine wpList_ld8 S ?_) | (refine wpList_ld0 ?_) | (refine wpList_ldA S ?_) | (refine wpList_st8 S ?_; (clear S; intro ws S)) | (refine wpList_st S ?_; (clear S; intro ws S)) | (refine wpList_box S ?_; (clear S; intro nb wb hnb S)) | (refine wpList_alloc S ?_; (clear S; intro nb wb hnb S)) | (refine wpList_mk8 S ?_; (clear S; intro nb wb hnb S)) | (refine wpList_mk S ?_; (clear S; intro nb wb hnb S)) | (refine wpList_bs S ?_; (clear S; intro nb wb hnb S)) | (refine wpList_stA S ?_; (clear S; intro ws S; simp only [splice, List.take_zero, List.take_succ_cons, List.drop_succ_cons, List.drop_zero, List.drop_nil, List.length_cons, List.length_nil, Nat.reduceAdd, Nat.zero_add, List.nil_append, List.cons_append, List.append_nil] at S)) | (refine wpList_b2sB S ?_) | (refine wpList_b2sR S ?_) | (refine wpList_ldc S ?_))
        have e1 : t.readB t.b sz = (t.bytes.drop ((t.b : Int) - t.o).toNat).take (min sz ((t.e : Int) - t.b).toNat) := by unfold Ta.readB Ta.readN; rw [Int.toNat_natCast]
        refine Calls.mono (tapeRead tp t vb vk t.b sz [.row 5 1 (.slice (some ⟨db, 0, none⟩) sz dc) sz (u8s rr.data)] w [] _ (S.selT (by repeat (first | (apply SelT.nil; (repeat (first | exact Suf.refl | apply Suf.cons)); done) | (apply SelT.cons; (repeat (first | exact Pull.head | apply Pull.tail)))))) hmild.out (Int.le_refl _) (by omega) (by omega)) ?_
        rintro e w9 ⟨v1, v2, c1, c2, rfl, hm1, hm2, hb, hkk, S2⟩
        clear S hkk
        have S := S2
        clear S2
        rw [e1] at hdr
        generalize hrn : min sz ((t.e : Int) - t.b).toNat = rn at *
        have hrn2 : rn ≤ 300 := by omega
        have hpl := (hb _ (S.mem.2 _ (.tail _ (.head _)))).len8
        generalize (t.bytes.drop ((t.b : Int) - t.o).toNat).take rn = pb at *
        replace hb := hidden hb
        clear e1 hrn
        go_wp2_with (first | go_big_skip | ((with_reducible show Code.wp _ (Code.region _ _ true) _ _ _); refine St.regionLast S ?_; (repeat (first | (go_big_quiet_step (fail)) | (go_big_quiet_want; (first | refine quiet_ld S ?_ | refine quiet_ld8 S ?_ | refine quiet_ld0 ?_ | refine quiet_ldA S ?_ | refine quiet_b2sB S ?_ | refine quiet_b2sR S ?_ | refine quiet_ldc S ?_); go_big_quiet_on))); refine wpQuiet_nil ?_; clear S; intro wq S) | go_big_skip | (refine wpList_ld S ?_) | (refine wpList_ld8 S ?_) | (refine wpList_ld0 ?_) | (refine wpList_ldA S ?_) | (refine wpList_st8 S ?_; (clear S; intro ws S)) | (refine wpList_st S ?_; (clear S; intro ws S)) | (refine wpList_box S ?_; (clear S; intro nb wb hnb S)) | (refine wpList_alloc S ?_; (clear S; intro nb wb hnb S)) | (refine wpList_mk8 S ?_; (clear S; intro nb wb hnb S)) | (refine wpList_mk S ?_; (clear S; intro nb wb hnb S)) | (refine wpList_bs S ?_; (clear S; intro nb wb hnb S)) | (refine wpList_stA S ?_; (clear S; intro ws S; simp only [splice, List.take_zero, List.take_succ_cons, List.drop_succ_cons, List.drop_zero, List.drop_nil, List.length_cons, List.length_nil, Nat.reduceAdd, Nat.zero_add, List.nil_append, List.cons_append, List.append_nil] at S)) | (refine wpList_b2sB S ?_) | (refine wpList_b2sR S ?_) | (refine wpList_ldc S ?_))
        have hb9 : t.b ≤ 1099512627776 := by have := hk0.out; omega
        go_loopg [15, 16, 99] rn (fun g xi xp i wr => ∃ j : Nat, Hid (j + g = rn) ∧ i = .int .i64 j ∧ j ≤ rn ∧ St w [] wr [tHead tp t.size t.b t.e t.o vb vk, .row 5 1 vb t.bytes.length (u8s t.bytes), .row 4 1 vk t.known.length (bls t.known), .row 5 1 (.slice (some ⟨db, 0, none⟩) sz dc) sz (u8s rr.data)])
        case atStart => exact ⟨0, hidden (by omega), rfl, Nat.zero_le _, S.sel (by repeat (first | exact Sel.nil | (apply Sel.cons; (repeat (first | exact Pull.head | apply Pull.tail)))))⟩
        case round =>
          clear S
          obtain ⟨j, hg2, rfl, hjn, S⟩ := hrel
          by_cases hlt2 : j < rn
          · have hsw := hb.out _ (S.mem.2 _ (.tail _ (.head _)))
            obtain ⟨ad1, rfl⟩ := hsw.bare (by omega)
            have g1 := hsw.byte j hlt2
            obtain ⟨j2, hj2⟩ : ∃ j2 : Nat, j2 = (t.b + j) % sz := ⟨_, rfl⟩
            have hj3 : j2 < sz := by rw [hj2]; exact Nat.mod_lt _ (by omega)
            have hsd : Src wr 1 (.slice (some ⟨db, 0, none⟩) sz dc) sz (u8s rr.data) := S.rowSrc (hp := .tail (.tail (.tail .head)))
            have g2 := hsd.byte j2 hj3
            rw [Addr.add_lit, Nat.zero_add] at g2
            have hx := hdr.out j (by omega)
            rw [← hj2] at hx
            have hx2 : rr.data.getD j2 0 = pb.getD j 0 := by simp [List.getD, hx]
            rw [hx2] at g2
            generalize pb.getD j 0 = x at *
            have hrem : ((t.b : Int) + (j : Int)).tmod (sz : Int) = (j2 : Int) := by
              rw [← Int.natCast_add, hj2]; rfl
            have hbb : ((x.toNat : Int) != (x.toNat : Int)) = false := by simp
            have S3 : St wr [] wr [] := St.begin wr
            clear hsw hsd hx hx2
            replace hj2 := hidden hj2
            go_wp2_with (first | go_big_skip | (refine wpList_ldc S3 ?_) | go_big_skip | (refine wpList_ld S ?_) | (refine wpList_ld8 S ?_) | (refine wpList_ld0 ?_) | (refine wpList_ldA S ?_) | (refine wpList_st8 S ?_; (clear S; intro ws S)) | (refine wpList_st S ?_; (clear S; intro ws S)) | (refine wpList_box S ?_; (clear S; intro nb wb hnb S)) | (refine wpList_alloc S ?_; (clear S; intro nb wb hnb S)) | (refine wpList_mk8 S ?_; (clear S; intro nb wb hnb S)) | (refine wpList_mk S ?_; (clear S; intro nb wb hnb S)) | (refine wpList_bs S ?_; (clear S; intro nb wb hnb S)) | (refine wpList_stA S ?_; (clear S; intro ws S; simp only [splice, List.take_zero, List.take_succ_cons, List.drop_succ_cons, List.drop_zero, List.drop_nil, List.length_cons, List.length_nil, Nat.reduceAdd, Nat.zero_add, List.nil_append, List.cons_append, List.append_nil] at S)) | (refine wpList_b2sB S ?_) | (refine wpList_b2sR S ?_) | (refine wpList_ldc S ?_))
            go_roundg (gk - 1)
            case measure => have := hg2.out; omega
            case rel => exact ⟨j + 1, hidden (by have := hg2.out; omega), by go_num, by omega, S.sel (by repeat (first | exact Sel.nil | (apply Sel.cons; (repeat (first | exact Pull.head | apply Pull.tail)))))⟩
          · have hjl : j = rn := by omega
            replace hjl := hidden hjl
            go_wp2_with (first | go_big_skip | ((with_reducible show Code.wp _ (Code.region _ _ true) _ _ _); refine St.regionLast S ?_; (repeat (first | (go_big_quiet_step (fail)) | (go_big_quiet_want; (first | refine quiet_ld S ?_ | refine quiet_ld8 S ?_ | refine quiet_ld0 ?_ | refine quiet_ldA S ?_ | refine quiet_b2sB S ?_ | refine quiet_b2sR S ?_ | refine quiet_ldc S ?_); go_big_quiet_on))); refine wpQuiet_nil ?_; clear S; intro wq S) | go_big_skip | (refine wpList_ld S ?_) | (refine wpList_ld8 S ?_) | (refine wpList_ld0 ?_) | (refine wpList_ldA S ?_) | (refine wpList_st8 S ?_; (clear S; intro ws S)) | (refine wpList_st S ?_; (clear S; intro ws S)) | (refine wpList_box S ?_; (clear S; intro nb wb hnb S)) | (refine wpList_alloc S ?_; (clear S; intro nb wb hnb S)) | (refine wpList_mk8 S ?_; (clear S; intro nb wb hnb S)) | (refine wpList_mk S ?_; (clear S; intro nb wb hnb S)) | (refine wpList_bs S ?_; (clear S; intro nb wb hnb S)) | (refine wpList_stA S ?_; (clear S; intro ws S; simp only [splice, List.take_zero, List.take_succ_cons, List.drop_succ_cons, List.drop_zero, List.drop_nil, List.length_cons, List.length_nil, Nat.reduceAdd, Nat.zero_add, List.nil_append, List.cons_append, List.append_nil] at S)) | (refine wpList_b2sB S ?_) | (refine wpList_b2sR S ?_) | (refine wpList_ldc S ?_))
            ((first | go_ret | go_ret2 | go_ret3 | go_end0 | skip); refine hR.out _ _ ?_)
            exact ⟨rfl, S.chg⟩
theorem rowRingDump {H : Type} {enc : TypeId × Value → H} {base base' : Nat} {spare : Nat → Bool} {held : Bool} {r : Reach} {d : DataW H} {ps : List MemPlace} {X0 X2 : Prop} {t0 t1 : TypeId} {x0 x1 : Addr} (a0 : Int) (v : Value) (W : World) (_ : X0)
    (hval : Value.okWide Tryd.prog W r base' 45 v) (hd : DataW.Trod enc Tryd.prog W base spare held 45 v d ps) (_ : X2)
    (h1 : W.cell? ⟨1, 0, none⟩ = some (.iface t1 (.pointer (some x1)))) (h0 : W.cell? ⟨0, 0, none⟩ = some (.iface t0 (.pointer (some x0)))) :
    Calls Tryd.prog 4 #[.int .i64 a0, v] W fun e w' => e = .returned (.bool true) ∧ Below W.heap.size W w' := by
  obtain ⟨texts, h⟩ := open_bss hval hd
  exact Calls.mono (lawRingDump a0 v texts _ _ W h (errs_of h1 h0)) fun e w' ⟨h1, h2⟩ => ⟨h1, h2.below⟩
end Go.Proofs.YtbklhnpnkinadaaDoor
