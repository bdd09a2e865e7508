/- What a tape says of an answer. · Whether a tape's answer says what a ring buffer answers. -/
import Derived.Test.YtbklhnpnkinadaaDoorTe
import Derived.Test.YtbklhnpnkinadaaDoorTaP
section
namespace Go.Proofs.YtbklhnpnkinadaaDoor
open Go Go.RowKit Go.Vil
set_option linter.unusedSimpArgs false
set_option linter.unusedVariables false
set_option maxRecDepth 100000

theorem agrees_upto (xs ys : List UInt8) (ks : List Bool) (k : Nat) (hk : k ≤ xs.length) (h : ∀ i, i < k → ks.getD i false = true → xs.getD i 0 = ys.getD i 0) (hl : xs.length = ys.length) (he : k = xs.length) : agrees xs ys ks = true := by
  subst he
  unfold agrees
  rw [decide_eq_true hl, Bool.true_and, List.all_eq_true]
  intro i hi
  have hi2 : i < xs.length := by simpa using hi
  cases hkn : ks.getD i false with
  | false => simp
  | true => rw [h i hi2 hkn]; simp
theorem agrees_not (xs ys : List UInt8) (ks : List Bool) (i : Nat) (hi : i < xs.length) (hk : ks.getD i false = true) (hne : xs.getD i 0 ≠ ys.getD i 0) : agrees xs ys ks = false := by
  cases h : agrees xs ys ks with
  | false => rfl
  | true =>
    unfold agrees at h
    rw [Bool.and_eq_true, List.all_eq_true] at h
    have := h.2 i (by simpa using hi)
    rw [hk] at this
    simp at this
    exact absurd this hne

set_option maxHeartbeats 1600000 in
theorem specAgrees (oa ob oc : Option Addr) (n c d e m mk : Nat) (xs ys : List UInt8) (ks : List Bool) (w : World) (hx : Src w 1 (.slice oa n c) n (u8s xs)) (hy : Src w 1 (.slice ob m d) m (u8s ys)) (hk : Src w 1 (.slice oc mk e) mk (bls ks)) (hkl : m = 0 ∨ mk = m) (hn : n ≤ 17179869184) (hm : m ≤ 17179869184) :
    Calls Tryd.prog 37 #[.slice oa n c, .slice ob m d, .slice oc mk e] w fun e' w' => e' = .returned (.bool (agrees xs ys ks)) ∧ St w [] w' [] := by
  have S := St.begin w
  obtain rfl := hx.len8
  obtain rfl := hy.len8
  replace hx := hidden hx
  replace hy := hidden hy
  have hkn : ks.length = mk := by simpa using hk.1
  replace hk := hidden hk
  refine Calls.cps ?_; intro R hR
  go_enter Tryd.func37, Tryd.ntmps37
  by_cases hl : xs.length = ys.length
  · have hbb : ((xs.length : Int) != (ys.length : Int)) = false := by simp [hl]
    replace hl := hidden hl
    go_wp2_with (first | go_big_skip | ((with_reducible show Code.wp _ (Code.region _ _ true) _ _ _); refine St.regionLast S ?_; (repeat (first | (go_big_quiet_step (fail)) | (go_big_quiet_want; (first | refine quiet_ld S ?_ | refine quiet_ld8 S ?_ | refine quiet_ld0 ?_ | refine quiet_ldA S ?_ | refine quiet_b2sB S ?_ | refine quiet_b2sR S ?_ | refine quiet_ldc S ?_); go_big_quiet_on))); refine wpQuiet_nil ?_; clear S; intro wq S) | go_big_skip | (refine wpList_ld S ?_) | (refine wpList_ld8 S ?_) | (refine wpList_ld0 ?_) | (refine wpList_ldA S ?_) | (refine wpList_st8 S ?_; (clear S; intro ws S)) | (refine wpList_st S ?_; (clear S; intro ws S)) | (refine wpList_box S ?_; (clear S; intro nb wb hnb S)) | (refine wpList_alloc S ?_; (clear S; intro nb wb hnb S)) | (refine wpList_mk8 S ?_; (clear S; intro nb wb hnb S)) | (refine wpList_mk S ?_; (clear S; intro nb wb hnb S)) | (refine wpList_bs S ?_; (clear S; intro nb wb hnb S)) | (refine wpList_stA S ?_; (clear S; intro ws S; simp only [splice, List.take_zero, List.take_succ_cons, List.drop_succ_cons, List.drop_zero, List.drop_nil, List.length_cons, List.length_nil, Nat.reduceAdd, Nat.zero_add, List.nil_append, List.cons_append, List.append_nil] at S)) | (refine wpList_b2sB S ?_) | (refine wpList_b2sR S ?_) | (refine wpList_ldc S ?_))
    go_loopg [7, 8, 16] xs.length (fun g iv bv i wr => ∃ k : Nat, Hid (k + g = xs.length) ∧ i = .int .i64 k ∧ k ≤ xs.length ∧ Hid (∀ i, i < k → ks.getD i false = true → xs.getD i 0 = ys.getD i 0) ∧ St w [] wr [])
    case atStart => exact ⟨0, hidden (by omega), rfl, Nat.zero_le _, hidden (fun i hi => absurd hi (Nat.not_lt_zero i)), S⟩
    case round =>
      obtain ⟨k, hg, rfl, hkn2, hpre, S⟩ := hrel
      by_cases hlt : k < xs.length
      · have hlt2 : k < ys.length := by have := hl.out; omega
        have hlt3 : k < mk := by rcases hkl with h | h <;> omega
        obtain ⟨ad, rfl⟩ : ∃ ad, oa = some ad := by
          cases oa with
          | some ad => exact ⟨ad, rfl⟩
          | none => have h2 := (hx.out.2.2 : _ ∧ u8s xs = []).2; have := congrArg List.length h2; rw [length_u8s, List.length_nil] at this; omega
        obtain ⟨bd, rfl⟩ : ∃ ad, ob = some ad := by
          cases ob with
          | some ad => exact ⟨ad, rfl⟩
          | none => have h2 := (hy.out.2.2 : _ ∧ u8s ys = []).2; have := congrArg List.length h2; rw [length_u8s, List.length_nil] at this; omega
        obtain ⟨kd, rfl⟩ : ∃ ad, oc = some ad := by
          cases oc with
          | some ad => exact ⟨ad, rfl⟩
          | none => have h2 := (hk.out.2.2 : _ ∧ bls ks = []).2; have := congrArg List.length h2; rw [length_bls, List.length_nil] at this; omega
        have g1 := hx.out.byte k hlt
        have g2 := hy.out.byte k hlt2
        have g3 : w.cell? (kd.add k) = some (.bool (ks.getD k false)) := by
          refine hk.out.2.2.2 _ _ ?_
          simp [bls, List.getD, List.getElem?_eq_getElem (show k < ks.length by omega)]
        have hstep := hidden (show (ks.getD k false = true → xs.getD k 0 = ys.getD k 0) → ∀ i, i < k + 1 → ks.getD i false = true → xs.getD i 0 = ys.getD i 0 from fun h i hi hki => by
          by_cases hik : i = k
          · subst hik; exact h hki
          · exact hpre.out i (by omega) hki)
        have hnot := hidden (agrees_not xs ys ks k hlt)
        generalize xs.getD k 0 = x at *
        generalize ys.getD k 0 = y at *
        generalize ks.getD k false = kn at *
        cases kn with
        | false =>
          go_wp2_with (first | go_big_skip | (refine wpList_ldc S ?_) | ((with_reducible show Code.wp _ (Code.region _ _ true) _ _ _); refine St.regionLast S ?_; (repeat (first | (go_big_quiet_step (fail)) | (go_big_quiet_want; (first | refine quiet_ld S ?_ | refine quiet_ld8 S ?_ | refine quiet_ld0 ?_ | refine quiet_ldA S ?_ | refine quiet_b2sB S ?_ | refine quiet_b2sR S ?_ | refine quiet_ldc S ?_); go_big_quiet_on))); refine wpQuiet_nil ?_; clear S; intro wq S) | go_big_skip | (refine wpList_ld S ?_) | (refine wpList_ld8 S ?_) | (refine wpList_ld0 ?_) | (refine wpList_ldA S ?_) | (refine wpList_st8 S ?_; (clear S; intro ws S)) | (refine wpList_st S ?_; (clear S; intro ws S)) | (refine wpList_box S ?_; (clear S; intro nb wb hnb S)) | (refine wpList_alloc S ?_; (clear S; intro nb wb hnb S)) | (refine wpList_mk8 S ?_; (clear S; intro nb wb hnb S)) | (refine wpList_mk S ?_; (clear S; intro nb wb hnb S)) | (refine wpList_bs S ?_; (clear S; intro nb wb hnb S)) | (refine wpList_stA S ?_; (clear S; intro ws S; simp only [splice, List.take_zero, List.take_succ_cons, List.drop_succ_cons, List.drop_zero, List.drop_nil, List.length_cons, List.length_nil, Nat.reduceAdd, Nat.zero_add, List.nil_append, List.cons_append, List.append_nil] at S)) | (refine wpList_b2sB S ?_) | (refine wpList_b2sR S ?_) | (refine wpList_ldc S ?_))
          go_roundg (gk - 1)
          case measure => have := hg.out; omega
          case rel => exact ⟨k + 1, hidden (by have := hg.out; omega), by go_num, by omega, hidden (hstep.out (fun h => by cases h)), S⟩
        | true =>
          by_cases hxy : x = y
          · have hbb2 : ((x.toNat : Int) != (y.toNat : Int)) = false := by rw [hxy]; exact bne_self_eq_false _
            replace hxy := hidden hxy
            go_wp2_with (first | go_big_skip | (refine wpList_ldc S ?_) | ((with_reducible show Code.wp _ (Code.region _ _ true) _ _ _); refine St.regionLast S ?_; (repeat (first | (go_big_quiet_step (fail)) | (go_big_quiet_want; (first | refine quiet_ld S ?_ | refine quiet_ld8 S ?_ | refine quiet_ld0 ?_ | refine quiet_ldA S ?_ | refine quiet_b2sB S ?_ | refine quiet_b2sR S ?_ | refine quiet_ldc S ?_); go_big_quiet_on))); refine wpQuiet_nil ?_; clear S; intro wq S) | go_big_skip | (refine wpList_ld S ?_) | (refine wpList_ld8 S ?_) | (refine wpList_ld0 ?_) | (refine wpList_ldA S ?_) | (refine wpList_st8 S ?_; (clear S; intro ws S)) | (refine wpList_st S ?_; (clear S; intro ws S)) | (refine wpList_box S ?_; (clear S; intro nb wb hnb S)) | (refine wpList_alloc S ?_; (clear S; intro nb wb hnb S)) | (refine wpList_mk8 S ?_; (clear S; intro nb wb hnb S)) | (refine wpList_mk S ?_; (clear S; intro nb wb hnb S)) | (refine wpList_bs S ?_; (clear S; intro nb wb hnb S)) | (refine wpList_stA S ?_; (clear S; intro ws S; simp only [splice, List.take_zero, List.take_succ_cons, List.drop_succ_cons, List.drop_zero, List.drop_nil, List.length_cons, List.length_nil, Nat.reduceAdd, Nat.zero_add, List.nil_append, List.cons_append, List.append_nil] at S)) | (refine wpList_b2sB S ?_) | (refine wpList_b2sR S ?_) | (refine wpList_ldc S ?_))
            go_roundg (gk - 1)
            case measure => have := hg.out; omega
            case rel => exact ⟨k + 1, hidden (by have := hg.out; omega), by go_num, by omega, hidden (hstep.out (fun _ => hxy.out)), S⟩
          · have hbb2 : ((x.toNat : Int) != (y.toNat : Int)) = true := by
              simp only [bne_iff_ne, ne_eq]
              intro h
              exact hxy (UInt8.toNat_inj.1 (by omega))
            replace hxy := hidden hxy
            go_wp2_with (first | go_big_skip | (refine wpList_ldc S ?_) | ((with_reducible show Code.wp _ (Code.region _ _ true) _ _ _); refine St.regionLast S ?_; (repeat (first | (go_big_quiet_step (fail)) | (go_big_quiet_want; (first | refine quiet_ld S ?_ | refine quiet_ld8 S ?_ | refine quiet_ld0 ?_ | refine quiet_ldA S ?_ | refine quiet_b2sB S ?_ | refine quiet_b2sR S ?_ | refine quiet_ldc S ?_); go_big_quiet_on))); refine wpQuiet_nil ?_; clear S; intro wq S) | go_big_skip | (refine wpList_ld S ?_) | (refine wpList_ld8 S ?_) | (refine wpList_ld0 ?_) | (refine wpList_ldA S ?_) | (refine wpList_st8 S ?_; (clear S; intro ws S)) | (refine wpList_st S ?_; (clear S; intro ws S)) | (refine wpList_box S ?_; (clear S; intro nb wb hnb S)) | (refine wpList_alloc S ?_; (clear S; intro nb wb hnb S)) | (refine wpList_mk8 S ?_; (clear S; intro nb wb hnb S)) | (refine wpList_mk S ?_; (clear S; intro nb wb hnb S)) | (refine wpList_bs S ?_; (clear S; intro nb wb hnb S)) | (refine wpList_stA S ?_; (clear S; intro ws S; simp only [splice, List.take_zero, List.take_succ_cons, List.drop_succ_cons, List.drop_zero, List.drop_nil, List.length_cons, List.length_nil, Nat.reduceAdd, Nat.zero_add, List.nil_append, List.cons_append, List.append_nil] at S)) | (refine wpList_b2sB S ?_) | (refine wpList_b2sR S ?_) | (refine wpList_ldc S ?_))
            ((first | go_ret | go_ret2 | go_ret3 | go_end0 | skip); refine hR.out _ _ ?_)
            exact ⟨retB (hnot.out trivial hxy.out).symm, S⟩
      · have hkl2 : k = xs.length := by omega
        have hfin := hidden (agrees_upto xs ys ks k hkn2 hpre.out hl.out hkl2)
        replace hkl2 := hidden hkl2
        go_wp2_with (first | go_big_skip | ((with_reducible show Code.wp _ (Code.region _ _ true) _ _ _); refine St.regionLast S ?_; (repeat (first | (go_big_quiet_step (fail)) | (go_big_quiet_want; (first | refine quiet_ld S ?_ | refine quiet_ld8 S ?_ | refine quiet_ld0 ?_ | refine quiet_ldA S ?_ | refine quiet_b2sB S ?_ | refine quiet_b2sR S ?_ | refine quiet_ldc S ?_); go_big_quiet_on))); refine wpQuiet_nil ?_; clear S; intro wq S) | go_big_skip | (refine wpList_ld S ?_) | (refine wpList_ld8 S ?_) | (refine wpList_ld0 ?_) | (refine wpList_ldA S ?_) | (refine wpList_st8 S ?_; (clear S; intro ws S)) | (refine wpList_st S ?_; (clear S; intro ws S)) | (refine wpList_box S ?_; (clear S; intro nb wb hnb S)) | (refine wpList_alloc S ?_; (clear S; intro nb wb hnb S)) | (refine wpList_mk8 S ?_; (clear S; intro nb wb hnb S)) | (refine wpList_mk S ?_; (clear S; intro nb wb hnb S)) | (refine wpList_bs S ?_; (clear S; intro nb wb hnb S)) | (refine wpList_stA S ?_; (clear S; intro ws S; simp only [splice, List.take_zero, List.take_succ_cons, List.drop_succ_cons, List.drop_zero, List.drop_nil, List.length_cons, List.length_nil, Nat.reduceAdd, Nat.zero_add, List.nil_append, List.cons_append, List.append_nil] at S)) | (refine wpList_b2sB S ?_) | (refine wpList_b2sR S ?_) | (refine wpList_ldc S ?_))
        ((first | go_ret | go_ret2 | go_ret3 | go_end0 | skip); refine hR.out _ _ ?_)
        exact ⟨retB hfin.out.symm, S⟩
  · have hbb : ((xs.length : Int) != (ys.length : Int)) = true := by simp; omega
    have hno : agrees xs ys ks = false := by unfold agrees; rw [decide_eq_false hl, Bool.false_and]
    replace hl := hidden hl
    replace hno := hidden hno
    go_wp2_with (first | go_big_skip | ((with_reducible show Code.wp _ (Code.region _ _ true) _ _ _); refine St.regionLast S ?_; (repeat (first | (go_big_quiet_step (fail)) | (go_big_quiet_want; (first | refine quiet_ld S ?_ | refine quiet_ld8 S ?_ | refine quiet_ld0 ?_ | refine quiet_ldA S ?_ | refine quiet_b2sB S ?_ | refine quiet_b2sR S ?_ | refine quiet_ldc S ?_); go_big_quiet_on))); refine wpQuiet_nil ?_; clear S; intro wq S) | go_big_skip | (refine wpList_ld S ?_) | (refine wpList_ld8 S ?_) | (refine wpList_ld0 ?_) | (refine wpList_ldA S ?_) | (refine wpList_st8 S ?_; (clear S; intro ws S)) | (refine wpList_st S ?_; (clear S; intro ws S)) | (refine wpList_box S ?_; (clear S; intro nb wb hnb S)) | (refine wpList_alloc S ?_; (clear S; intro nb wb hnb S)) | (refine wpList_mk8 S ?_; (clear S; intro nb wb hnb S)) | (refine wpList_mk S ?_; (clear S; intro nb wb hnb S)) | (refine wpList_bs S ?_; (clear S; intro nb wb hnb S)) | (refine wpList_stA S ?_; (clear S; intro ws S; simp only [splice, List.take_zero, List.take_succ_cons, List.drop_succ_cons, List.drop_zero, List.drop_nil, List.length_cons, List.length_nil, Nat.reduceAdd, Nat.zero_add, List.nil_append, List.cons_append, List.append_nil] at S)) | (refine wpList_b2sB S ?_) | (refine wpList_b2sR S ?_) | (refine wpList_ldc S ?_))
    ((first | go_ret | go_ret2 | go_ret3 | go_end0 | skip); refine hR.out _ _ ?_)
    exact ⟨retB hno.out.symm, S⟩
end Go.Proofs.YtbklhnpnkinadaaDoor
end
section
namespace Go.Proofs.YtbklhnpnkinadaaDoor
open Go Go.RowKit Go.Vil
set_option linter.unusedSimpArgs false
set_option linter.unusedVariables false
set_option maxRecDepth 100000

set_option maxHeartbeats 3200000 in
theorem specSays (a : TAns) (x : Ri.RAns) (oa ob oc : Option Addr) (n c d e m mk : Nat) (w : World) (hx : Src w 1 (.slice oa n c) n (u8s x.data)) (hy : Src w 1 (.slice ob m d) m (u8s a.want.data)) (hk : Src w 1 (.slice oc mk e) mk (bls a.known)) (hkl : m = 0 ∨ mk = m) (hn : n ≤ 17179869184) (hm : m ≤ 17179869184) :
    Calls Tryd.prog 16 #[.agg #[.int .i64 a.want.fault, .int .i64 a.want.n, .int .i64 a.want.m, .int .i64 a.want.len, .slice ob m d, .bool a.want.is, .slice oc mk e, .bool a.open'], .agg #[.int .i64 x.fault, .int .i64 x.n, .int .i64 x.m, .int .i64 x.len, .slice oa n c, .bool x.is]] w fun e' w' => e' = .returned (.bool (a.says x)) ∧ St w [] w' [] := by
  have S := St.begin w
  have hag := hidden (fun (w' : World) (C : Chg [] w w') => specAgrees oa ob oc n c d e m mk x.data a.want.data a.known w' (hx.on C) (hy.on C) (hk.on C) hkl hn hm)
  have hsy := hidden (show a.says x = (decide (a.want.fault = x.fault ∧ a.want.n = x.n ∧ a.want.m = x.m ∧ a.want.len = x.len) && (a.open' || a.want.is == x.is) && agrees x.data a.want.data a.known) from rfl)
  clear hx hy hk hkl hn hm
  obtain ⟨⟨f1, n1, m1, l1, d1, i1⟩, kn, op⟩ := a
  obtain ⟨f2, n2, m2, l2, d2, i2⟩ := x
  simp only at *
  refine Calls.cps ?_; intro R hR
  go_enter Tryd.func16, Tryd.ntmps16
  by_cases c1 : f1 = f2
  · have e1 : (f1 != f2) = false := by simp [c1]
    by_cases c2 : n1 = n2
    · have e2 : (n1 != n2) = false := by simp [c2]
      by_cases c3 : m1 = m2
      · have e3 : (m1 != m2) = false := by simp [c3]
        by_cases c4 : l1 = l2
        · have e4 : (l1 != l2) = false := by simp [c4]
          rw [decide_eq_true (p := f1 = f2 ∧ n1 = n2 ∧ m1 = m2 ∧ l1 = l2) ⟨c1, c2, c3, c4⟩, Bool.true_and] at hsy
          replace hsy := hidden hsy.out
          replace c1 := hidden c1
          replace c2 := hidden c2
          replace c3 := hidden c3
          replace c4 := hidden c4
          cases op with
          | true =>
            go_wp2_with (first | go_big_skip | ((with_reducible show Code.wp _ (Code.region _ _ true) _ _ _); refine St.regionLast S ?_; (repeat (first | (go_big_quiet_step (fail)) | (go_big_quiet_want; (first | refine quiet_ld S ?_ | refine quiet_ld8 S ?_ | refine quiet_ld0 ?_ | refine quiet_ldA S ?_ | refine quiet_b2sB S ?_ | refine quiet_b2sR S ?_ | refine quiet_ldc S ?_); go_big_quiet_on))); refine wpQuiet_nil ?_; clear S; intro wq S) | go_big_skip | (refine wpList_ld S ?_) | (refine wpList_ld8 S ?_) | (refine wpList_ld0 ?_) | (refine wpList_ldA S ?_) | (refine wpList_st8 S ?_; (clear S; intro ws S)) | (refine wpList_st S ?_; (clear S; intro ws S)) | (refine wpList_box S ?_; (clear S; intro nb wb hnb S)) | (refine wpList_alloc S ?_; (clear S; intro nb wb hnb S)) | (refine wpList_mk8 S ?_; (clear S; intro nb wb hnb S)) | (refine wpList_mk S ?_; (clear S; intro nb wb hnb S)) | (refine wpList_bs S ?_; (clear S; intro nb wb hnb S)) | (refine wpList_stA S ?_; (clear S; intro ws S; simp only [splice, List.take_zero, List.take_succ_cons, List.drop_succ_cons, List.drop_zero, List.drop_nil, List.length_cons, List.length_nil, Nat.reduceAdd, Nat.zero_add, List.nil_append, List.cons_append, List.append_nil] at S)) | (refine wpList_b2sB S ?_) | (refine wpList_b2sR S ?_) | (refine wpList_ldc S ?_))
            refine Calls.mono (hag.out _ S.chg) ?_
            rintro e' w2 ⟨rfl, C⟩
            have S2 := S.call C; clear S C; simp only [List.cons_append, List.nil_append] at S2; have S := S2; clear S2
            go_wp2_with (first | go_big_skip | ((with_reducible show Code.wp _ (Code.region _ _ true) _ _ _); refine St.regionLast S ?_; (repeat (first | (go_big_quiet_step (fail)) | (go_big_quiet_want; (first | refine quiet_ld S ?_ | refine quiet_ld8 S ?_ | refine quiet_ld0 ?_ | refine quiet_ldA S ?_ | refine quiet_b2sB S ?_ | refine quiet_b2sR S ?_ | refine quiet_ldc S ?_); go_big_quiet_on))); refine wpQuiet_nil ?_; clear S; intro wq S) | go_big_skip | (refine wpList_ld S ?_) | (refine wpList_ld8 S ?_) | (refine wpList_ld0 ?_) | (refine wpList_ldA S ?_) | (refine wpList_st8 S ?_; (clear S; intro ws S)) | (refine wpList_st S ?_; (clear S; intro ws S)) | (refine wpList_box S ?_; (clear S; intro nb wb hnb S)) | (refine wpList_alloc S ?_; (clear S; intro nb wb hnb S)) | (refine wpList_mk8 S ?_; (clear S; intro nb wb hnb S)) | (refine wpList_mk S ?_; (clear S; intro nb wb hnb S)) | (refine wpList_bs S ?_; (clear S; intro nb wb hnb S)) | (refine wpList_stA S ?_; (clear S; intro ws S; simp only [splice, List.take_zero, List.take_succ_cons, List.drop_succ_cons, List.drop_zero, List.drop_nil, List.length_cons, List.length_nil, Nat.reduceAdd, Nat.zero_add, List.nil_append, List.cons_append, List.append_nil] at S)) | (refine wpList_b2sB S ?_) | (refine wpList_b2sR S ?_) | (refine wpList_ldc S ?_))
            ((first | go_ret | go_ret2 | go_ret3 | go_end0 | skip); refine hR.out _ _ ?_)
            exact ⟨retB (by rw [hsy.out]; simp), S.sel (by repeat (first | exact Sel.nil | (apply Sel.cons; (repeat (first | exact Pull.head | apply Pull.tail)))))⟩
          | false =>
            cases hii : (i1 == i2) with
            | true =>
              rw [hii] at hsy
              go_wp2_with (first | go_big_skip | ((with_reducible show Code.wp _ (Code.region _ _ true) _ _ _); refine St.regionLast S ?_; (repeat (first | (go_big_quiet_step (fail)) | (go_big_quiet_want; (first | refine quiet_ld S ?_ | refine quiet_ld8 S ?_ | refine quiet_ld0 ?_ | refine quiet_ldA S ?_ | refine quiet_b2sB S ?_ | refine quiet_b2sR S ?_ | refine quiet_ldc S ?_); go_big_quiet_on))); refine wpQuiet_nil ?_; clear S; intro wq S) | go_big_skip | (refine wpList_ld S ?_) | (refine wpList_ld8 S ?_) | (refine wpList_ld0 ?_) | (refine wpList_ldA S ?_) | (refine wpList_st8 S ?_; (clear S; intro ws S)) | (refine wpList_st S ?_; (clear S; intro ws S)) | (refine wpList_box S ?_; (clear S; intro nb wb hnb S)) | (refine wpList_alloc S ?_; (clear S; intro nb wb hnb S)) | (refine wpList_mk8 S ?_; (clear S; intro nb wb hnb S)) | (refine wpList_mk S ?_; (clear S; intro nb wb hnb S)) | (refine wpList_bs S ?_; (clear S; intro nb wb hnb S)) | (refine wpList_stA S ?_; (clear S; intro ws S; simp only [splice, List.take_zero, List.take_succ_cons, List.drop_succ_cons, List.drop_zero, List.drop_nil, List.length_cons, List.length_nil, Nat.reduceAdd, Nat.zero_add, List.nil_append, List.cons_append, List.append_nil] at S)) | (refine wpList_b2sB S ?_) | (refine wpList_b2sR S ?_) | (refine wpList_ldc S ?_))
              refine Calls.mono (hag.out _ S.chg) ?_
              rintro e' w2 ⟨rfl, C⟩
              have S2 := S.call C; clear S C; simp only [List.cons_append, List.nil_append] at S2; have S := S2; clear S2
              go_wp2_with (first | go_big_skip | ((with_reducible show Code.wp _ (Code.region _ _ true) _ _ _); refine St.regionLast S ?_; (repeat (first | (go_big_quiet_step (fail)) | (go_big_quiet_want; (first | refine quiet_ld S ?_ | refine quiet_ld8 S ?_ | refine quiet_ld0 ?_ | refine quiet_ldA S ?_ | refine quiet_b2sB S ?_ | refine quiet_b2sR S ?_ | refine quiet_ldc S ?_); go_big_quiet_on))); refine wpQuiet_nil ?_; clear S; intro wq S) | go_big_skip | (refine wpList_ld S ?_) | (refine wpList_ld8 S ?_) | (refine wpList_ld0 ?_) | (refine wpList_ldA S ?_) | (refine wpList_st8 S ?_; (clear S; intro ws S)) | (refine wpList_st S ?_; (clear S; intro ws S)) | (refine wpList_box S ?_; (clear S; intro nb wb hnb S)) | (refine wpList_alloc S ?_; (clear S; intro nb wb hnb S)) | (refine wpList_mk8 S ?_; (clear S; intro nb wb hnb S)) | (refine wpList_mk S ?_; (clear S; intro nb wb hnb S)) | (refine wpList_bs S ?_; (clear S; intro nb wb hnb S)) | (refine wpList_stA S ?_; (clear S; intro ws S; simp only [splice, List.take_zero, List.take_succ_cons, List.drop_succ_cons, List.drop_zero, List.drop_nil, List.length_cons, List.length_nil, Nat.reduceAdd, Nat.zero_add, List.nil_append, List.cons_append, List.append_nil] at S)) | (refine wpList_b2sB S ?_) | (refine wpList_b2sR S ?_) | (refine wpList_ldc S ?_))
              ((first | go_ret | go_ret2 | go_ret3 | go_end0 | skip); refine hR.out _ _ ?_)
              exact ⟨retB (by rw [hsy.out]; simp), S.sel (by repeat (first | exact Sel.nil | (apply Sel.cons; (repeat (first | exact Pull.head | apply Pull.tail)))))⟩
            | false =>
              rw [hii] at hsy
              go_wp2_with (first | go_big_skip | ((with_reducible show Code.wp _ (Code.region _ _ true) _ _ _); refine St.regionLast S ?_; (repeat (first | (go_big_quiet_step (fail)) | (go_big_quiet_want; (first | refine quiet_ld S ?_ | refine quiet_ld8 S ?_ | refine quiet_ld0 ?_ | refine quiet_ldA S ?_ | refine quiet_b2sB S ?_ | refine quiet_b2sR S ?_ | refine quiet_ldc S ?_); go_big_quiet_on))); refine wpQuiet_nil ?_; clear S; intro wq S) | go_big_skip | (refine wpList_ld S ?_) | (refine wpList_ld8 S ?_) | (refine wpList_ld0 ?_) | (refine wpList_ldA S ?_) | (refine wpList_st8 S ?_; (clear S; intro ws S)) | (refine wpList_st S ?_; (clear S; intro ws S)) | (refine wpList_box S ?_; (clear S; intro nb wb hnb S)) | (refine wpList_alloc S ?_; (clear S; intro nb wb hnb S)) | (refine wpList_mk8 S ?_; (clear S; intro nb wb hnb S)) | (refine wpList_mk S ?_; (clear S; intro nb wb hnb S)) | (refine wpList_bs S ?_; (clear S; intro nb wb hnb S)) | (refine wpList_stA S ?_; (clear S; intro ws S; simp only [splice, List.take_zero, List.take_succ_cons, List.drop_succ_cons, List.drop_zero, List.drop_nil, List.length_cons, List.length_nil, Nat.reduceAdd, Nat.zero_add, List.nil_append, List.cons_append, List.append_nil] at S)) | (refine wpList_b2sB S ?_) | (refine wpList_b2sR S ?_) | (refine wpList_ldc S ?_))
              ((first | go_ret | go_ret2 | go_ret3 | go_end0 | skip); refine hR.out _ _ ?_)
              exact ⟨retB (by rw [hsy.out]; simp), S.sel (by repeat (first | exact Sel.nil | (apply Sel.cons; (repeat (first | exact Pull.head | apply Pull.tail)))))⟩
        · have e4 : (l1 != l2) = true := by simp [c4]
          rw [decide_eq_false (p := f1 = f2 ∧ n1 = n2 ∧ m1 = m2 ∧ l1 = l2) (fun h => c4 h.2.2.2)] at hsy
          replace hsy := hidden hsy.out
          replace c1 := hidden c1
          replace c2 := hidden c2
          replace c3 := hidden c3
          replace c4 := hidden c4
          go_wp2_with (first | go_big_skip | ((with_reducible show Code.wp _ (Code.region _ _ true) _ _ _); refine St.regionLast S ?_; (repeat (first | (go_big_quiet_step (fail)) | (go_big_quiet_want; (first | refine quiet_ld S ?_ | refine quiet_ld8 S ?_ | refine quiet_ld0 ?_ | refine quiet_ldA S ?_ | refine quiet_b2sB S ?_ | refine quiet_b2sR S ?_ | refine quiet_ldc S ?_); go_big_quiet_on))); refine wpQuiet_nil ?_; clear S; intro wq S) | go_big_skip | (refine wpList_ld S ?_) | (refine wpList_ld8 S ?_) | (refine wpList_ld0 ?_) | (refine wpList_ldA S ?_) | (refine wpList_st8 S ?_; (clear S; intro ws S)) | (refine wpList_st S ?_; (clear S; intro ws S)) | (refine wpList_box S ?_; (clear S; intro nb wb hnb S)) | (refine wpList_alloc S ?_; (clear S; intro nb wb hnb S)) | (refine wpList_mk8 S ?_; (clear S; intro nb wb hnb S)) | (refine wpList_mk S ?_; (clear S; intro nb wb hnb S)) | (refine wpList_bs S ?_; (clear S; intro nb wb hnb S)) | (refine wpList_stA S ?_; (clear S; intro ws S; simp only [splice, List.take_zero, List.take_succ_cons, List.drop_succ_cons, List.drop_zero, List.drop_nil, List.length_cons, List.length_nil, Nat.reduceAdd, Nat.zero_add, List.nil_append, List.cons_append, List.append_nil] at S)) | (refine wpList_b2sB S ?_) | (refine wpList_b2sR S ?_) | (refine wpList_ldc S ?_))
          ((first | go_ret | go_ret2 | go_ret3 | go_end0 | skip); refine hR.out _ _ ?_)
          exact ⟨retB (by rw [hsy.out]; simp), S.sel (by repeat (first | exact Sel.nil | (apply Sel.cons; (repeat (first | exact Pull.head | apply Pull.tail)))))⟩
      · have e3 : (m1 != m2) = true := by simp [c3]
        rw [decide_eq_false (p := f1 = f2 ∧ n1 = n2 ∧ m1 = m2 ∧ l1 = l2) (fun h => c3 h.2.2.1)] at hsy
        replace hsy := hidden hsy.out
        replace c1 := hidden c1
        replace c2 := hidden c2
        replace c3 := hidden c3
        go_wp2_with (first | go_big_skip | ((with_reducible show Code.wp _ (Code.region _ _ true) _ _ _); refine St.regionLast S ?_; (repeat (first | (go_big_quiet_step (fail)) | (go_big_quiet_want; (first | refine quiet_ld S ?_ | refine quiet_ld8 S ?_ | refine quiet_ld0 ?_ | refine quiet_ldA S ?_ | refine quiet_b2sB S ?_ | refine quiet_b2sR S ?_ | refine quiet_ldc S ?_); go_big_quiet_on))); refine wpQuiet_nil ?_; clear S; intro wq S) | go_big_skip | (refine wpList_ld S ?_) | (refine wpList_ld8 S ?_) | (refine wpList_ld0 ?_) | (refine wpList_ldA S ?_) | (refine wpList_st8 S ?_; (clear S; intro ws S)) | (refine wpList_st S ?_; (clear S; intro ws S)) | (refine wpList_box S ?_; (clear S; intro nb wb hnb S)) | (refine wpList_alloc S ?_; (clear S; intro nb wb hnb S)) | (refine wpList_mk8 S ?_; (clear S; intro nb wb hnb S)) | (refine wpList_mk S ?_; (clear S; intro nb wb hnb S)) | (refine wpList_bs S ?_; (clear S; intro nb wb hnb S)) | (refine wpList_stA S ?_; (clear S; intro ws S; simp only [splice, List.take_zero, List.take_succ_cons, List.drop_succ_cons, List.drop_zero, List.drop_nil, List.length_cons, List.length_nil, Nat.reduceAdd, Nat.zero_add, List.nil_append, List.cons_append, List.append_nil] at S)) | (refine wpList_b2sB S ?_) | (refine wpList_b2sR S ?_) | (refine wpList_ldc S ?_))
        ((first | go_ret | go_ret2 | go_ret3 | go_end0 | skip); refine hR.out _ _ ?_)
        exact ⟨retB (by rw [hsy.out]; simp), S.sel (by repeat (first | exact Sel.nil | (apply Sel.cons; (repeat (first | exact Pull.head | apply Pull.tail)))))⟩
    · have e2 : (n1 != n2) = true := by simp [c2]
      rw [decide_eq_false (p := f1 = f2 ∧ n1 = n2 ∧ m1 = m2 ∧ l1 = l2) (fun h => c2 h.2.1)] at hsy
      replace hsy := hidden hsy.out
      replace c1 := hidden c1
      replace c2 := hidden c2
      go_wp2_with (first | go_big_skip | ((with_reducible show Code.wp _ (Code.region _ _ true) _ _ _); refine St.regionLast S ?_; (repeat (first | (go_big_quiet_step (fail)) | (go_big_quiet_want; (first | refine quiet_ld S ?_ | refine quiet_ld8 S ?_ | refine quiet_ld0 ?_ | refine quiet_ldA S ?_ | refine quiet_b2sB S ?_ | refine quiet_b2sR S ?_ | refine quiet_ldc S ?_); go_big_quiet_on))); refine wpQuiet_nil ?_; clear S; intro wq S) | go_big_skip | (refine wpList_ld S ?_) | (refine wpList_ld8 S ?_) | (refine wpList_ld0 ?_) | (refine wpList_ldA S ?_) | (refine wpList_st8 S ?_; (clear S; intro ws S)) | (refine wpList_st S ?_; (clear S; intro ws S)) | (refine wpList_box S ?_; (clear S; intro nb wb hnb S)) | (refine wpList_alloc S ?_; (clear S; intro nb wb hnb S)) | (refine wpList_mk8 S ?_; (clear S; intro nb wb hnb S)) | (refine wpList_mk S ?_; (clear S; intro nb wb hnb S)) | (refine wpList_bs S ?_; (clear S; intro nb wb hnb S)) | (refine wpList_stA S ?_; (clear S; intro ws S; simp only [splice, List.take_zero, List.take_succ_cons, List.drop_succ_cons, List.drop_zero, List.drop_nil, List.length_cons, List.length_nil, Nat.reduceAdd, Nat.zero_add, List.nil_append, List.cons_append, List.append_nil] at S)) | (refine wpList_b2sB S ?_) | (refine wpList_b2sR S ?_) | (refine wpList_ldc S ?_))
      ((first | go_ret | go_ret2 | go_ret3 | go_end0 | skip); refine hR.out _ _ ?_)
      exact ⟨retB (by rw [hsy.out]; simp), S.sel (by repeat (first | exact Sel.nil | (apply Sel.cons; (repeat (first | exact Pull.head | apply Pull.tail)))))⟩
  · have e1 : (f1 != f2) = true := by simp [c1]
    rw [decide_eq_false (p := f1 = f2 ∧ n1 = n2 ∧ m1 = m2 ∧ l1 = l2) (fun h => c1 h.1)] at hsy
    replace hsy := hidden hsy.out
    replace c1 := hidden c1
    go_wp2_with (first | go_big_skip | ((with_reducible show Code.wp _ (Code.region _ _ true) _ _ _); refine St.regionLast S ?_; (repeat (first | (go_big_quiet_step (fail)) | (go_big_quiet_want; (first | refine quiet_ld S ?_ | refine quiet_ld8 S ?_ | refine quiet_ld0 ?_ | refine quiet_ldA S ?_ | refine quiet_b2sB S ?_ | refine quiet_b2sR S ?_ | refine quiet_ldc S ?_); go_big_quiet_on))); refine wpQuiet_nil ?_; clear S; intro wq S) | go_big_skip | (refine wpList_ld S ?_) | (refine wpList_ld8 S ?_) | (refine wpList_ld0 ?_) | (refine wpList_ldA S ?_) | (refine wpList_st8 S ?_; (clear S; intro ws S)) | (refine wpList_st S ?_; (clear S; intro ws S)) | (refine wpList_box S ?_; (clear S; intro nb wb hnb S)) | (refine wpList_alloc S ?_; (clear S; intro nb wb hnb S)) | (refine wpList_mk8 S ?_; (clear S; intro nb wb hnb S)) | (refine wpList_mk S ?_; (clear S; intro nb wb hnb S)) | (refine wpList_bs S ?_; (clear S; intro nb wb hnb S)) | (refine wpList_stA S ?_; (clear S; intro ws S; simp only [splice, List.take_zero, List.take_succ_cons, List.drop_succ_cons, List.drop_zero, List.drop_nil, List.length_cons, List.length_nil, Nat.reduceAdd, Nat.zero_add, List.nil_append, List.cons_append, List.append_nil] at S)) | (refine wpList_b2sB S ?_) | (refine wpList_b2sR S ?_) | (refine wpList_ldc S ?_))
    ((first | go_ret | go_ret2 | go_ret3 | go_end0 | skip); refine hR.out _ _ ?_)
    exact ⟨retB (by rw [hsy.out]; simp), S.sel (by repeat (first | exact Sel.nil | (apply Sel.cons; (repeat (first | exact Pull.head | apply Pull.tail)))))⟩
end Go.Proofs.YtbklhnpnkinadaaDoor
end
