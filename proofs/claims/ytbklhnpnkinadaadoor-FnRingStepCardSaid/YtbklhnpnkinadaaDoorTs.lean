/- The parts of a ring, and its tape. -/
import Derived.Test.YtbklhnpnkinadaaDoorTq
import Derived.Test.YtbklhnpnkinadaaDoorTaW
import Derived.Test.YtbklhnpnkinadaaDoorTd
namespace Go.Vil
namespace Ri
/-- A ring out of parts that are cut. -/
def cut (data : List UInt8) (bg en ix : Int) : Ri :=
  ⟨if data = [] then [7] else data.take 300, (Ta.u64 bg % 1073741824).toNat, (Ta.u64 bg % 1073741824).toNat + (Ta.u64 en % ((if data = [] then [7] else data.take 300).length + 1)).toNat,
    if (Ta.u64 en % ((if data = [] then [7] else data.take 300).length + 1)).toNat < (if data = [] then [7] else data.take 300).length then (Ta.u64 en % ((if data = [] then [7] else data.take 300).length + 1)).toNat else (Ta.u64 ix % (if data = [] then [7] else data.take 300).length).toNat⟩
/-- What is known of it. -/
theorem cut_of (data : List UInt8) (bg en ix : Int) : ∃ D : List UInt8, D = (if data = [] then [7] else data.take 300) ∧ 1 ≤ D.length ∧ D.length ≤ 300 ∧ ∃ b l i : Nat, (b : Int) = Ta.u64 bg % 1073741824 ∧ (l : Int) = Ta.u64 en % (D.length + 1) ∧ b < 1073741824 ∧ l ≤ D.length ∧ i < D.length ∧ (l < D.length → i = l) ∧ (¬ l < D.length → (i : Int) = Ta.u64 ix % D.length) ∧ cut data bg en ix = ⟨D, b, b + l, i⟩ := by
  obtain ⟨D, hD⟩ : ∃ D : List UInt8, D = (if data = [] then [7] else data.take 300) := ⟨_, rfl⟩
  have h1 : 1 ≤ D.length ∧ D.length ≤ 300 := by
    rw [hD]
    split
    · exact ⟨Nat.le_refl _, by simp⟩
    · rename_i h
      rw [List.length_take]
      have := List.length_pos_iff.2 h
      omega
  refine ⟨D, hD, h1.1, h1.2, ?_⟩
  have a1 : 0 ≤ Ta.u64 bg % 1073741824 := Int.emod_nonneg _ (by decide)
  have a2 : Ta.u64 bg % 1073741824 < 1073741824 := Int.emod_lt_of_pos _ (by decide)
  have a3 : 0 ≤ Ta.u64 en % (D.length + 1) := Int.emod_nonneg _ (by omega)
  have a4 : Ta.u64 en % (D.length + 1) < D.length + 1 := Int.emod_lt_of_pos _ (by omega)
  have a5 : 0 ≤ Ta.u64 ix % D.length := Int.emod_nonneg _ (by omega)
  have a6 : Ta.u64 ix % D.length < D.length := Int.emod_lt_of_pos _ (by omega)
  refine ⟨(Ta.u64 bg % 1073741824).toNat, (Ta.u64 en % (D.length + 1)).toNat, if (Ta.u64 en % (D.length + 1)).toNat < D.length then (Ta.u64 en % (D.length + 1)).toNat else (Ta.u64 ix % D.length).toNat, by omega, by omega, by omega, by omega, ?_, ?_, ?_, ?_⟩
  · split <;> omega
  · intro h; rw [if_pos h]
  · intro h; rw [if_neg h]; omega
  · unfold cut
    rw [← hD]
theorem cut_has (data : List UInt8) (bg en ix : Int) : (cut data bg en ix).Has (cut data bg en ix).win := by
  obtain ⟨D, _, h1, h2, b, l, i, _, _, h3, h4, h5, h6, _, h⟩ := cut_of data bg en ix
  rw [h]
  have hs : (Ri.mk D b (b + l) i).size = D.length := rfl
  have hl : (Ri.mk D b (b + l) i).len = l := by show b + l - b = l; omega
  refine win_has (by rw [hs]; exact h1) (by show b ≤ b + l; omega) (by rw [hs, hl]; exact h4) (by rw [hs]; exact h5) (by rw [hs, hl]; exact h6)
end Ri
end Go.Vil
namespace Go.Proofs.YtbklhnpnkinadaaDoor
open Go Go.RowKit Go.Vil
set_option linter.unusedSimpArgs false
set_option linter.unusedVariables false
set_option maxRecDepth 100000

set_option maxHeartbeats 6400000 in
theorem lawRiState (data : List UInt8) (oa : Option Addr) (n c : Nat) (bg en ix : Int) (w : World) (hs : Src w 1 (.slice oa n c) n (u8s data)) (hn : n ≤ 4294967296) (hc : n ≤ c) :
    Calls Tryd.prog 11 #[.agg #[.slice oa n c, .int .i64 bg, .int .i64 en, .int .i64 ix]] w fun e w' => ∃ dv tp, e = .returned (.tuple #[.agg #[dv, .int .i64 (Ri.cut data bg en ix).b, .int .i64 (Ri.cut data bg en ix).e, .int .i64 (Ri.cut data bg en ix).ix], .pointer (some ⟨tp, 0, none⟩)]) ∧
      TapeSt w [] w' tp (Ta.of' (Ri.cut data bg en ix)) [.row 5 1 dv (Ri.cut data bg en ix).data.length (u8s (Ri.cut data bg en ix).data)] := by
  have S := St.begin w
  have hh := hidden (Ri.cut_has data bg en ix)
  obtain ⟨D, hD, hD1, hD2, b, l, i, hb, hl, hb2, hl2, hi, hi2, hi3, hr⟩ := Ri.cut_of data bg en ix
  rw [hr] at *
  have hdl := hs.len8
  replace hs := hidden hs
  replace hD := hidden hD
  replace hdl := hidden hdl
  replace hi2 := hidden hi2
  replace hi3 := hidden hi3
  replace hb := hidden hb
  replace hl := hidden hl
  clear hr
  simp only at *
  refine Calls.cps ?_; intro R hR
  go_enter Tryd.func11, Tryd.ntmps11
  go_upto_region 1 with (first | (refine wpList_box S ?_; (clear S; intro b1 w1 hb1 S)) | (refine wpList_alloc S ?_; (clear S; intro b2 w2 hb2 S)) | go_big_skip | ((with_reducible show Code.wp _ (Code.region _ _ true) _ _ _); refine St.regionLast S ?_; (repeat (first | (go_big_quiet_step (fail)) | (go_big_quiet_want; (first | refine quiet_ld S ?_ | refine quiet_ld8 S ?_ | refine quiet_ld0 ?_ | refine quiet_ldA S ?_ | refine quiet_b2sB S ?_ | refine quiet_b2sR S ?_ | refine quiet_ldc S ?_); go_big_quiet_on))); refine wpQuiet_nil ?_; clear S; intro wq S) | go_big_skip | (refine wpList_ld S ?_) | (refine wpList_ld8 S ?_) | (refine wpList_ld0 ?_) | (refine wpList_ldA S ?_) | (refine wpList_st8 S ?_; (clear S; intro ws S)) | (refine wpList_st S ?_; (clear S; intro ws S)) | (refine wpList_box S ?_; (clear S; intro nb wb hnb S)) | (refine wpList_alloc S ?_; (clear S; intro nb wb hnb S)) | (refine wpList_mk8 S ?_; (clear S; intro nb wb hnb S)) | (refine wpList_mk S ?_; (clear S; intro nb wb hnb S)) | (refine wpList_bs S ?_; (clear S; intro nb wb hnb S)) | (refine wpList_stA S ?_; (clear S; intro ws S; simp only [splice, List.take_zero, List.take_succ_cons, List.drop_succ_cons, List.drop_zero, List.drop_nil, List.length_cons, List.length_nil, Nat.reduceAdd, Nat.zero_add, List.nil_append, List.cons_append, List.append_nil] at S)) | (refine wpList_b2sB S ?_) | (refine wpList_b2sR S ?_) | (refine wpList_ldc S ?_))
  go_upto_if 11 with (first | go_big_skip | ((with_reducible show Code.wp _ (Code.region _ _ true) _ _ _); refine St.regionLast S ?_; (repeat (first | (go_big_quiet_step (fail)) | (go_big_quiet_want; (first | refine quiet_ld S ?_ | refine quiet_ld8 S ?_ | refine quiet_ld0 ?_ | refine quiet_ldA S ?_ | refine quiet_b2sB S ?_ | refine quiet_b2sR S ?_ | refine quiet_ldc S ?_); go_big_quiet_on))); refine wpQuiet_nil ?_; clear S; intro wq S) | go_big_skip | (refine wpList_ld S ?_) | (refine wpList_ld8 S ?_) | (refine wpList_ld0 ?_) | (refine wpList_ldA S ?_) | (refine wpList_st8 S ?_; (clear S; intro ws S)) | (refine wpList_st S ?_; (clear S; intro ws S)) | (refine wpList_box S ?_; (clear S; intro nb wb hnb S)) | (refine wpList_alloc S ?_; (clear S; intro nb wb hnb S)) | (refine wpList_mk8 S ?_; (clear S; intro nb wb hnb S)) | (refine wpList_mk S ?_; (clear S; intro nb wb hnb S)) | (refine wpList_bs S ?_; (clear S; intro nb wb hnb S)) | (refine wpList_stA S ?_; (clear S; intro ws S; simp only [splice, List.take_zero, List.take_succ_cons, List.drop_succ_cons, List.drop_zero, List.drop_nil, List.length_cons, List.length_nil, Nat.reduceAdd, Nat.zero_add, List.nil_append, List.cons_append, List.append_nil] at S)) | (refine wpList_b2sB S ?_) | (refine wpList_b2sR S ?_) | (refine wpList_ldc S ?_))
  go_cut [] (fun w' => ∃ (oa0 : Option Addr) (n0 c0 : Nat) (l0 : List UInt8) (X : List Res), l0 = (if data = [] then [7] else data) ∧ l0.length = n0 ∧ n0 ≤ 4294967296 ∧ n0 ≤ c0 ∧ (∀ w'', St w [] w'' X → Src w'' 1 (.slice oa0 n0 c0) n0 (u8s l0)) ∧
    St w [] w' (.blk b1 (.cells [.slice oa0 n0 c0, .int .i64 bg, .int .i64 en, .int .i64 ix].toArray 24 (0, 0)) :: .blk b2 (.cells [.slice none 0 0, .int .i64 0, .int .i64 0, .int .i64 0].toArray 24 (0, 0)) :: X))
  case first =>
    by_cases h0 : n = 0
    · have hdn : data = [] := List.eq_nil_of_length_eq_zero (by have := hdl.out; omega)
      have hbb : ((n : Int) == 0) = true := by simp [h0]
      replace h0 := hidden h0
      rw [hbb]
      go_wp2_with (first | go_big_skip | ((with_reducible show Code.wp _ (Code.region _ _ true) _ _ _); refine St.regionLast S ?_; (repeat (first | (go_big_quiet_step (fail)) | (go_big_quiet_want; (first | refine quiet_ld S ?_ | refine quiet_ld8 S ?_ | refine quiet_ld0 ?_ | refine quiet_ldA S ?_ | refine quiet_b2sB S ?_ | refine quiet_b2sR S ?_ | refine quiet_ldc S ?_); go_big_quiet_on))); refine wpQuiet_nil ?_; clear S; intro wq S) | go_big_skip | (refine wpList_ld S ?_) | (refine wpList_ld8 S ?_) | (refine wpList_ld0 ?_) | (refine wpList_ldA S ?_) | (refine wpList_st8 S ?_; (clear S; intro ws S)) | (refine wpList_st S ?_; (clear S; intro ws S)) | (refine wpList_box S ?_; (clear S; intro nb wb hnb S)) | (refine wpList_alloc S ?_; (clear S; intro nb wb hnb S)) | (refine wpList_mk8 S ?_; (clear S; intro nb wb hnb S)) | (refine wpList_mk S ?_; (clear S; intro nb wb hnb S)) | (refine wpList_bs S ?_; (clear S; intro nb wb hnb S)) | (refine wpList_stA S ?_; (clear S; intro ws S; simp only [splice, List.take_zero, List.take_succ_cons, List.drop_succ_cons, List.drop_zero, List.drop_nil, List.length_cons, List.length_nil, Nat.reduceAdd, Nat.zero_add, List.nil_append, List.cons_append, List.append_nil] at S)) | (refine wpList_b2sB S ?_) | (refine wpList_b2sR S ?_) | (refine wpList_ldc S ?_))
      go_meet
      refine ⟨some ⟨nb, 0, none⟩, 1, 1, [7], [.blk nb (.cells (u8s [7]).toArray 5 (0, 0))], by rw [if_pos hdn], rfl, by omega, Nat.le_refl _, fun w'' S'' => S''.src8w (l := [7]) (b := nb) .head rfl, S.sel (by repeat (first | exact Sel.nil | (apply Sel.cons; (repeat (first | exact Pull.head | apply Pull.tail)))))⟩
    · have hdn : data ≠ [] := fun e => by rw [e] at hdl; exact h0 hdl.out.symm
      have hbb : ((n : Int) == 0) = false := by simp [h0]
      replace h0 := hidden h0
      rw [hbb]
      go_wp2_with (first | go_big_skip | ((with_reducible show Code.wp _ (Code.region _ _ true) _ _ _); refine St.regionLast S ?_; (repeat (first | (go_big_quiet_step (fail)) | (go_big_quiet_want; (first | refine quiet_ld S ?_ | refine quiet_ld8 S ?_ | refine quiet_ld0 ?_ | refine quiet_ldA S ?_ | refine quiet_b2sB S ?_ | refine quiet_b2sR S ?_ | refine quiet_ldc S ?_); go_big_quiet_on))); refine wpQuiet_nil ?_; clear S; intro wq S) | go_big_skip | (refine wpList_ld S ?_) | (refine wpList_ld8 S ?_) | (refine wpList_ld0 ?_) | (refine wpList_ldA S ?_) | (refine wpList_st8 S ?_; (clear S; intro ws S)) | (refine wpList_st S ?_; (clear S; intro ws S)) | (refine wpList_box S ?_; (clear S; intro nb wb hnb S)) | (refine wpList_alloc S ?_; (clear S; intro nb wb hnb S)) | (refine wpList_mk8 S ?_; (clear S; intro nb wb hnb S)) | (refine wpList_mk S ?_; (clear S; intro nb wb hnb S)) | (refine wpList_bs S ?_; (clear S; intro nb wb hnb S)) | (refine wpList_stA S ?_; (clear S; intro ws S; simp only [splice, List.take_zero, List.take_succ_cons, List.drop_succ_cons, List.drop_zero, List.drop_nil, List.length_cons, List.length_nil, Nat.reduceAdd, Nat.zero_add, List.nil_append, List.cons_append, List.append_nil] at S)) | (refine wpList_b2sB S ?_) | (refine wpList_b2sR S ?_) | (refine wpList_ldc S ?_))
      go_meet
      exact ⟨oa, n, c, data, [], by rw [if_neg hdn], hdl.out, hn, hc, fun w'' S'' => hs.out.on S''.chg, S.sel (by repeat (first | exact Sel.nil | (apply Sel.cons; (repeat (first | exact Pull.head | apply Pull.tail)))))⟩
  case rest =>
  obtain ⟨oa0, n0, c0, l0, X, hl0, hn0, hn1, hn2, hsX, S⟩ := hcut
  have hDl : D = l0.take 300 := by
    rw [hD.out, hl0]
    split <;> rfl
  obtain ⟨m, hm⟩ : ∃ m, m = min n0 300 := ⟨_, rfl⟩
  have hm1 : m ≤ n0 := by omega
  have hm2 : m ≤ 300 := by omega
  have hDm : D = l0.take m := by
    rw [hDl, hm]
    rcases Nat.le_total n0 300 with h3 | h3
    · rw [Nat.min_eq_left h3, List.take_of_length_le (by omega), List.take_of_length_le (by omega)]
    · rw [Nat.min_eq_right h3]
  have hlm : D.length = m := by rw [hDm, List.length_take]; omega
  have hsX2 : ∀ w'', St w [] w'' X → Src w'' 1 (.slice oa0 m c0) m (u8s D) := fun w'' S'' => by
    rw [hDm]
    exact (hsX w'' S'').firsts m c0 hm1
  replace hsX2 := hidden hsX2
  replace hDl := hidden hDl
  replace hDm := hidden hDm
  replace hl0 := hidden hl0
  replace hn0 := hidden hn0
  have hma : n0 ≤ 300 → m = n0 := fun h => by omega
  have hmb : ¬ n0 ≤ 300 → m = 300 := fun h => by omega
  clear hsX hm
  go_upto_region 3 with fail
  go_cut [] (fun w' => ∃ (oa3 : Option Addr) (c3 : Nat), m ≤ c3 ∧ St w [] w' [.row 5 1 (.slice oa3 m c3) m (u8s D), .blk b1 (.cells [.slice oa3 m c3, .int .i64 bg, .int .i64 en, .int .i64 ix].toArray 24 (0, 0)), .blk b2 (.cells [.slice none 0 0, .int .i64 0, .int .i64 0, .int .i64 0].toArray 24 (0, 0))])
  case first =>
    have happ : ∀ (w'' : World) (L : List Res), St w [] w'' L → SelT X L → Src w'' 1 (.slice oa0 m c0) m (u8s D) := fun w'' L S'' h => hsX2.out w'' (S''.selT h)
    replace happ := hidden happ
    by_cases h3 : n0 ≤ 300
    · have hmm : m = n0 := hma h3
      subst hmm
      clear hma hmb
      go_wp2_with (first | go_big_skip | (refine wpList_bs0 S ?_; (clear S; intro nb wb hnb S)) | (refine wpList_slcH m ?_) | (refine wpList_app S (happ.out _ _ S (by repeat (first | exact Suf.refl | apply SelT.nil | apply Suf.cons))) ?_ (h63 := by unfold maxLen; omega) (hb := by omega); (clear S; intro va wa hva S; obtain ⟨a3, c3, rfl, hc3, hc4⟩ := S.rowSlice (hp := Pull.head); clear hva)) | ((with_reducible show Code.wp _ (Code.region _ _ true) _ _ _); refine St.regionLast S ?_; (repeat (first | (go_big_quiet_step (fail)) | (go_big_quiet_want; (first | refine quiet_ld S ?_ | refine quiet_ld8 S ?_ | refine quiet_ld0 ?_ | refine quiet_ldA S ?_ | refine quiet_b2sB S ?_ | refine quiet_b2sR S ?_ | refine quiet_ldc S ?_); go_big_quiet_on))); refine wpQuiet_nil ?_; clear S; intro wq S) | go_big_skip | (refine wpList_ld S ?_) | (refine wpList_ld8 S ?_) | (refine wpList_ld0 ?_) | (refine wpList_ldA S ?_) | (refine wpList_st8 S ?_; (clear S; intro ws S)) | (refine wpList_st S ?_; (clear S; intro ws S)) | (refine wpList_box S ?_; (clear S; intro nb wb hnb S)) | (refine wpList_alloc S ?_; (clear S; intro nb wb hnb S)) | (refine wpList_mk8 S ?_; (clear S; intro nb wb hnb S)) | (refine wpList_mk S ?_; (clear S; intro nb wb hnb S)) | (refine wpList_bs S ?_; (clear S; intro nb wb hnb S)) | (refine wpList_stA S ?_; (clear S; intro ws S; simp only [splice, List.take_zero, List.take_succ_cons, List.drop_succ_cons, List.drop_zero, List.drop_nil, List.length_cons, List.length_nil, Nat.reduceAdd, Nat.zero_add, List.nil_append, List.cons_append, List.append_nil] at S)) | (refine wpList_b2sB S ?_) | (refine wpList_b2sR S ?_) | (refine wpList_ldc S ?_))
      go_meet
      simp only [Nat.zero_add] at S hc3
      exact ⟨a3, c3, hc3, S.sel (by repeat (first | exact Sel.nil | (apply Sel.cons; (repeat (first | exact Pull.head | apply Pull.tail)))))⟩
    · have hmm : m = 300 := hmb h3
      subst hmm
      clear hma hmb
      go_wp2_with (first | go_big_skip | (refine wpList_bs0 S ?_; (clear S; intro nb wb hnb S)) | (refine wpList_slcH 300 ?_) | (refine wpList_app S (happ.out _ _ S (by repeat (first | exact Suf.refl | apply SelT.nil | apply Suf.cons))) ?_ (h63 := by unfold maxLen; omega) (hb := by omega); (clear S; intro va wa hva S; obtain ⟨a3, c3, rfl, hc3, hc4⟩ := S.rowSlice (hp := Pull.head); clear hva)) | ((with_reducible show Code.wp _ (Code.region _ _ true) _ _ _); refine St.regionLast S ?_; (repeat (first | (go_big_quiet_step (fail)) | (go_big_quiet_want; (first | refine quiet_ld S ?_ | refine quiet_ld8 S ?_ | refine quiet_ld0 ?_ | refine quiet_ldA S ?_ | refine quiet_b2sB S ?_ | refine quiet_b2sR S ?_ | refine quiet_ldc S ?_); go_big_quiet_on))); refine wpQuiet_nil ?_; clear S; intro wq S) | go_big_skip | (refine wpList_ld S ?_) | (refine wpList_ld8 S ?_) | (refine wpList_ld0 ?_) | (refine wpList_ldA S ?_) | (refine wpList_st8 S ?_; (clear S; intro ws S)) | (refine wpList_st S ?_; (clear S; intro ws S)) | (refine wpList_box S ?_; (clear S; intro nb wb hnb S)) | (refine wpList_alloc S ?_; (clear S; intro nb wb hnb S)) | (refine wpList_mk8 S ?_; (clear S; intro nb wb hnb S)) | (refine wpList_mk S ?_; (clear S; intro nb wb hnb S)) | (refine wpList_bs S ?_; (clear S; intro nb wb hnb S)) | (refine wpList_stA S ?_; (clear S; intro ws S; simp only [splice, List.take_zero, List.take_succ_cons, List.drop_succ_cons, List.drop_zero, List.drop_nil, List.length_cons, List.length_nil, Nat.reduceAdd, Nat.zero_add, List.nil_append, List.cons_append, List.append_nil] at S)) | (refine wpList_b2sB S ?_) | (refine wpList_b2sR S ?_) | (refine wpList_ldc S ?_))
      go_meet
      simp only [Nat.zero_add] at S hc3
      exact ⟨a3, c3, hc3, S.sel (by repeat (first | exact Sel.nil | (apply Sel.cons; (repeat (first | exact Pull.head | apply Pull.tail)))))⟩
  case rest =>
  clear S
  obtain ⟨oa3, c3, hc3, S⟩ := hcut
  obtain ⟨bd, c3', hv, hc4⟩ := S.rowSome (by omega) .head
  simp only [Value.slice.injEq, true_and] at hv
  obtain ⟨rfl, rfl⟩ := hv
  have hl4 := hl.out
  rw [hlm] at hl4 hl2 hi
  have hi4 := hi2.out
  have hi5 := hi3.out
  rw [hlm] at hi4 hi5
  replace hl4 := hidden hl4
  replace hi4 := hidden hi4
  replace hi5 := hidden hi5
  clear hl hi2 hi3
  go_upto_region 6 with (first | go_big_skip | ((with_reducible show Code.wp _ (Code.region _ _ true) _ _ _); refine St.regionLast S ?_; (repeat (first | (go_big_quiet_step (fail)) | (go_big_quiet_want; (first | refine quiet_ld S ?_ | refine quiet_ld8 S ?_ | refine quiet_ld0 ?_ | refine quiet_ldA S ?_ | refine quiet_b2sB S ?_ | refine quiet_b2sR S ?_ | refine quiet_ldc S ?_); go_big_quiet_on))); refine wpQuiet_nil ?_; clear S; intro wq S) | go_big_skip | (refine wpList_ld S ?_) | (refine wpList_ld8 S ?_) | (refine wpList_ld0 ?_) | (refine wpList_ldA S ?_) | (refine wpList_st8 S ?_; (clear S; intro ws S)) | (refine wpList_st S ?_; (clear S; intro ws S)) | (refine wpList_box S ?_; (clear S; intro nb wb hnb S)) | (refine wpList_alloc S ?_; (clear S; intro nb wb hnb S)) | (refine wpList_mk8 S ?_; (clear S; intro nb wb hnb S)) | (refine wpList_mk S ?_; (clear S; intro nb wb hnb S)) | (refine wpList_bs S ?_; (clear S; intro nb wb hnb S)) | (refine wpList_stA S ?_; (clear S; intro ws S; simp only [splice, List.take_zero, List.take_succ_cons, List.drop_succ_cons, List.drop_zero, List.drop_nil, List.length_cons, List.length_nil, Nat.reduceAdd, Nat.zero_add, List.nil_append, List.cons_append, List.append_nil] at S)) | (refine wpList_b2sB S ?_) | (refine wpList_b2sR S ?_) | (refine wpList_ldc S ?_))
  rw [wrap_rem bg 1073741824 (by decide) (by decide), ← hb.out] at S
  go_cut [] (fun w' => St w [] w' [.row 5 1 (.slice (some ⟨bd, 0, none⟩) m c3) m (u8s D), .blk b1 (.cells [.slice (some ⟨bd, 0, none⟩) m c3, .int .i64 b, .int .i64 ((b + l : Nat) : Int), .int .i64 ix].toArray 24 (0, 0)), .blk b2 (.cells [.slice none 0 0, .int .i64 0, .int .i64 0, .int .i64 0].toArray 24 (0, 0))])
  case first =>
    go_wp2_with (first | go_big_skip | ((with_reducible show Code.wp _ (Code.region _ _ true) _ _ _); refine St.regionLast S ?_; (repeat (first | (go_big_quiet_step (fail)) | (go_big_quiet_want; (first | refine quiet_ld S ?_ | refine quiet_ld8 S ?_ | refine quiet_ld0 ?_ | refine quiet_ldA S ?_ | refine quiet_b2sB S ?_ | refine quiet_b2sR S ?_ | refine quiet_ldc S ?_); go_big_quiet_on))); refine wpQuiet_nil ?_; clear S; intro wq S) | go_big_skip | (refine wpList_ld S ?_) | (refine wpList_ld8 S ?_) | (refine wpList_ld0 ?_) | (refine wpList_ldA S ?_) | (refine wpList_st8 S ?_; (clear S; intro ws S)) | (refine wpList_st S ?_; (clear S; intro ws S)) | (refine wpList_box S ?_; (clear S; intro nb wb hnb S)) | (refine wpList_alloc S ?_; (clear S; intro nb wb hnb S)) | (refine wpList_mk8 S ?_; (clear S; intro nb wb hnb S)) | (refine wpList_mk S ?_; (clear S; intro nb wb hnb S)) | (refine wpList_bs S ?_; (clear S; intro nb wb hnb S)) | (refine wpList_stA S ?_; (clear S; intro ws S; simp only [splice, List.take_zero, List.take_succ_cons, List.drop_succ_cons, List.drop_zero, List.drop_nil, List.length_cons, List.length_nil, Nat.reduceAdd, Nat.zero_add, List.nil_append, List.cons_append, List.append_nil] at S)) | (refine wpList_b2sB S ?_) | (refine wpList_b2sR S ?_) | (refine wpList_ldc S ?_))
    go_meet
    rw [wrap_rem en ((m : Int) + 1) (by omega) (by omega), ← hl4.out] at S
    have e2 : wrap64 ((b : Int) + l) = ((b + l : Nat) : Int) := by unfold wrap64; omega
    rw [e2] at S
    exact S.sel (by repeat (first | exact Sel.nil | (apply Sel.cons; (repeat (first | exact Pull.head | apply Pull.tail)))))
  case rest =>
  have S := hcut
  clear hcut
  go_upto_if 51 with (first | go_big_skip | ((with_reducible show Code.wp _ (Code.region _ _ true) _ _ _); refine St.regionLast S ?_; (repeat (first | (go_big_quiet_step (fail)) | (go_big_quiet_want; (first | refine quiet_ld S ?_ | refine quiet_ld8 S ?_ | refine quiet_ld0 ?_ | refine quiet_ldA S ?_ | refine quiet_b2sB S ?_ | refine quiet_b2sR S ?_ | refine quiet_ldc S ?_); go_big_quiet_on))); refine wpQuiet_nil ?_; clear S; intro wq S) | go_big_skip | (refine wpList_ld S ?_) | (refine wpList_ld8 S ?_) | (refine wpList_ld0 ?_) | (refine wpList_ldA S ?_) | (refine wpList_st8 S ?_; (clear S; intro ws S)) | (refine wpList_st S ?_; (clear S; intro ws S)) | (refine wpList_box S ?_; (clear S; intro nb wb hnb S)) | (refine wpList_alloc S ?_; (clear S; intro nb wb hnb S)) | (refine wpList_mk8 S ?_; (clear S; intro nb wb hnb S)) | (refine wpList_mk S ?_; (clear S; intro nb wb hnb S)) | (refine wpList_bs S ?_; (clear S; intro nb wb hnb S)) | (refine wpList_stA S ?_; (clear S; intro ws S; simp only [splice, List.take_zero, List.take_succ_cons, List.drop_succ_cons, List.drop_zero, List.drop_nil, List.length_cons, List.length_nil, Nat.reduceAdd, Nat.zero_add, List.nil_append, List.cons_append, List.append_nil] at S)) | (refine wpList_b2sB S ?_) | (refine wpList_b2sR S ?_) | (refine wpList_ldc S ?_))
  go_cut [] (fun w' => St w [] w' [.row 5 1 (.slice (some ⟨bd, 0, none⟩) m c3) m (u8s D), .blk b1 (.cells [.slice (some ⟨bd, 0, none⟩) m c3, .int .i64 b, .int .i64 ((b + l : Nat) : Int), .int .i64 i].toArray 24 (0, 0)), .blk b2 (.cells [.slice none 0 0, .int .i64 0, .int .i64 0, .int .i64 0].toArray 24 (0, 0))])
  case first =>
    by_cases h5 : l < m
    · have e5 := hidden (hi4.out h5)
      go_wp2_with (first | go_big_skip | ((with_reducible show Code.wp _ (Code.region _ _ true) _ _ _); refine St.regionLast S ?_; (repeat (first | (go_big_quiet_step (fail)) | (go_big_quiet_want; (first | refine quiet_ld S ?_ | refine quiet_ld8 S ?_ | refine quiet_ld0 ?_ | refine quiet_ldA S ?_ | refine quiet_b2sB S ?_ | refine quiet_b2sR S ?_ | refine quiet_ldc S ?_); go_big_quiet_on))); refine wpQuiet_nil ?_; clear S; intro wq S) | go_big_skip | (refine wpList_ld S ?_) | (refine wpList_ld8 S ?_) | (refine wpList_ld0 ?_) | (refine wpList_ldA S ?_) | (refine wpList_st8 S ?_; (clear S; intro ws S)) | (refine wpList_st S ?_; (clear S; intro ws S)) | (refine wpList_box S ?_; (clear S; intro nb wb hnb S)) | (refine wpList_alloc S ?_; (clear S; intro nb wb hnb S)) | (refine wpList_mk8 S ?_; (clear S; intro nb wb hnb S)) | (refine wpList_mk S ?_; (clear S; intro nb wb hnb S)) | (refine wpList_bs S ?_; (clear S; intro nb wb hnb S)) | (refine wpList_stA S ?_; (clear S; intro ws S; simp only [splice, List.take_zero, List.take_succ_cons, List.drop_succ_cons, List.drop_zero, List.drop_nil, List.length_cons, List.length_nil, Nat.reduceAdd, Nat.zero_add, List.nil_append, List.cons_append, List.append_nil] at S)) | (refine wpList_b2sB S ?_) | (refine wpList_b2sR S ?_) | (refine wpList_ldc S ?_))
      go_meet
      rw [show (b : Int) + l - b = i by rw [e5.out]; omega] at S
      exact S.sel (by repeat (first | exact Sel.nil | (apply Sel.cons; (repeat (first | exact Pull.head | apply Pull.tail)))))
    · have e5 := hidden (hi5.out h5)
      go_wp2_with (first | go_big_skip | ((with_reducible show Code.wp _ (Code.region _ _ true) _ _ _); refine St.regionLast S ?_; (repeat (first | (go_big_quiet_step (fail)) | (go_big_quiet_want; (first | refine quiet_ld S ?_ | refine quiet_ld8 S ?_ | refine quiet_ld0 ?_ | refine quiet_ldA S ?_ | refine quiet_b2sB S ?_ | refine quiet_b2sR S ?_ | refine quiet_ldc S ?_); go_big_quiet_on))); refine wpQuiet_nil ?_; clear S; intro wq S) | go_big_skip | (refine wpList_ld S ?_) | (refine wpList_ld8 S ?_) | (refine wpList_ld0 ?_) | (refine wpList_ldA S ?_) | (refine wpList_st8 S ?_; (clear S; intro ws S)) | (refine wpList_st S ?_; (clear S; intro ws S)) | (refine wpList_box S ?_; (clear S; intro nb wb hnb S)) | (refine wpList_alloc S ?_; (clear S; intro nb wb hnb S)) | (refine wpList_mk8 S ?_; (clear S; intro nb wb hnb S)) | (refine wpList_mk S ?_; (clear S; intro nb wb hnb S)) | (refine wpList_bs S ?_; (clear S; intro nb wb hnb S)) | (refine wpList_stA S ?_; (clear S; intro ws S; simp only [splice, List.take_zero, List.take_succ_cons, List.drop_succ_cons, List.drop_zero, List.drop_nil, List.length_cons, List.length_nil, Nat.reduceAdd, Nat.zero_add, List.nil_append, List.cons_append, List.append_nil] at S)) | (refine wpList_b2sB S ?_) | (refine wpList_b2sR S ?_) | (refine wpList_ldc S ?_))
      go_meet
      rw [wrap_rem ix m (by omega) (by omega), ← e5.out] at S
      exact S.sel (by repeat (first | exact Sel.nil | (apply Sel.cons; (repeat (first | exact Pull.head | apply Pull.tail)))))
  case rest =>
  have S := hcut
  clear hcut
  obtain ⟨r, hre⟩ : ∃ r : Ri, r = ⟨D, b, b + l, i⟩ := ⟨_, rfl⟩
  have hrw : r.win.length = l := by rw [Ri.win_length, hre]; show b + l - b = l; omega
  have hrs : r.size = m := by rw [hre]; exact hlm
  have hat1 : l < m → ∀ k, k < l → r.at' k = k := by
    intro h k hk
    have hl1 : r.len = l := by rw [hre]; show b + l - b = l; omega
    unfold Ri.at'
    rw [show r.base = 0 from if_pos (by omega), hrs, Nat.zero_add, Nat.mod_eq_of_lt (by omega)]
  have hat2 : ¬ l < m → ∀ k, r.at' k = (i + k) % m := by
    intro h k
    have hl1 : r.len = l := by rw [hre]; show b + l - b = l; omega
    unfold Ri.at'
    rw [show r.base = r.ix from if_neg (by omega), hrs, hre]
  have hget : ∀ k, k < l → r.at' k < m ∧ r.win[k]? = some (D.getD (r.at' k) 0) := by
    intro k hk
    refine ⟨by rw [← hrs]; exact Nat.mod_lt _ (by omega), ?_⟩
    unfold Ri.win
    rw [List.getElem?_map, List.getElem?_range (by rw [← Ri.win_length]; omega), hre]; rfl
  have hof : Ta.of' r = (Ta.fresh m b).puts (r.win.map fun c => (c, true)) := by
    unfold Ta.of'
    rw [hrs, hre]
  replace hof := hidden hof
  replace hat1 := hidden hat1
  replace hat2 := hidden hat2
  replace hget := hidden hget
  replace hre := hidden hre
  clear hma hmb hi4 hi5 hl4 hb hD hdl
  go_upto_region 10 with fail
  go_wp2_with (first | go_big_skip | ((with_reducible show Code.wp _ (Code.region _ _ true) _ _ _); refine St.regionLast S ?_; (repeat (first | (go_big_quiet_step (fail)) | (go_big_quiet_want; (first | refine quiet_ld S ?_ | refine quiet_ld8 S ?_ | refine quiet_ld0 ?_ | refine quiet_ldA S ?_ | refine quiet_b2sB S ?_ | refine quiet_b2sR S ?_ | refine quiet_ldc S ?_); go_big_quiet_on))); refine wpQuiet_nil ?_; clear S; intro wq S) | go_big_skip | (refine wpList_ld S ?_) | (refine wpList_ld8 S ?_) | (refine wpList_ld0 ?_) | (refine wpList_ldA S ?_) | (refine wpList_st8 S ?_; (clear S; intro ws S)) | (refine wpList_st S ?_; (clear S; intro ws S)) | (refine wpList_box S ?_; (clear S; intro nb wb hnb S)) | (refine wpList_alloc S ?_; (clear S; intro nb wb hnb S)) | (refine wpList_mk8 S ?_; (clear S; intro nb wb hnb S)) | (refine wpList_mk S ?_; (clear S; intro nb wb hnb S)) | (refine wpList_bs S ?_; (clear S; intro nb wb hnb S)) | (refine wpList_stA S ?_; (clear S; intro ws S; simp only [splice, List.take_zero, List.take_succ_cons, List.drop_succ_cons, List.drop_zero, List.drop_nil, List.length_cons, List.length_nil, Nat.reduceAdd, Nat.zero_add, List.nil_append, List.cons_append, List.append_nil] at S)) | (refine wpList_b2sB S ?_) | (refine wpList_b2sR S ?_) | (refine wpList_ldc S ?_))
  refine Calls.mono (newTape m b _) ?_
  rintro e w3 ⟨tp, rfl, C⟩
  have S2 := S.call C; clear S C; simp only [List.cons_append, List.nil_append] at S2; have S := S2; clear S2
  have S := S.nilRow 4 1
  have S := S.nilRow 5 1
  have hT : TapeSt w [] _ tp ((Ta.fresh m b).puts ((r.win.take 0).map fun c => (c, true))) [.row 5 1 (.slice (some ⟨bd, 0, none⟩) m c3) m (u8s D), .blk b1 (.cells [.slice (some ⟨bd, 0, none⟩) m c3, .int .i64 b, .int .i64 ((b + l : Nat) : Int), .int .i64 i].toArray 24 (0, 0)), .blk b2 (.cells [.slice none 0 0, .int .i64 0, .int .i64 0, .int .i64 0].toArray 24 (0, 0))] := ⟨_, _, S.sel (by repeat (first | exact Sel.nil | (apply Sel.cons; (repeat (first | exact Pull.head | apply Pull.tail)))))⟩
  replace hT := hidden hT
  go_upto_region 11 with (first | go_big_skip | ((with_reducible show Code.wp _ (Code.region _ _ true) _ _ _); refine St.regionLast S ?_; (repeat (first | (go_big_quiet_step (fail)) | (go_big_quiet_want; (first | refine quiet_ld S ?_ | refine quiet_ld8 S ?_ | refine quiet_ld0 ?_ | refine quiet_ldA S ?_ | refine quiet_b2sB S ?_ | refine quiet_b2sR S ?_ | refine quiet_ldc S ?_); go_big_quiet_on))); refine wpQuiet_nil ?_; clear S; intro wq S) | go_big_skip | (refine wpList_ld S ?_) | (refine wpList_ld8 S ?_) | (refine wpList_ld0 ?_) | (refine wpList_ldA S ?_) | (refine wpList_st8 S ?_; (clear S; intro ws S)) | (refine wpList_st S ?_; (clear S; intro ws S)) | (refine wpList_box S ?_; (clear S; intro nb wb hnb S)) | (refine wpList_alloc S ?_; (clear S; intro nb wb hnb S)) | (refine wpList_mk8 S ?_; (clear S; intro nb wb hnb S)) | (refine wpList_mk S ?_; (clear S; intro nb wb hnb S)) | (refine wpList_bs S ?_; (clear S; intro nb wb hnb S)) | (refine wpList_stA S ?_; (clear S; intro ws S; simp only [splice, List.take_zero, List.take_succ_cons, List.drop_succ_cons, List.drop_zero, List.drop_nil, List.length_cons, List.length_nil, Nat.reduceAdd, Nat.zero_add, List.nil_append, List.cons_append, List.append_nil] at S)) | (refine wpList_b2sB S ?_) | (refine wpList_b2sR S ?_) | (refine wpList_ldc S ?_))
  clear S
  go_wp2_with (first | go_big_skip | ((with_reducible show Code.wp _ (Code.region _ _ true) _ _ _); refine St.regionLast S ?_; (repeat (first | (go_big_quiet_step (fail)) | (go_big_quiet_want; (first | refine quiet_ld S ?_ | refine quiet_ld8 S ?_ | refine quiet_ld0 ?_ | refine quiet_ldA S ?_ | refine quiet_b2sB S ?_ | refine quiet_b2sR S ?_ | refine quiet_ldc S ?_); go_big_quiet_on))); refine wpQuiet_nil ?_; clear S; intro wq S) | go_big_skip | (refine wpList_ld S ?_) | (refine wpList_ld8 S ?_) | (refine wpList_ld0 ?_) | (refine wpList_ldA S ?_) | (refine wpList_st8 S ?_; (clear S; intro ws S)) | (refine wpList_st S ?_; (clear S; intro ws S)) | (refine wpList_box S ?_; (clear S; intro nb wb hnb S)) | (refine wpList_alloc S ?_; (clear S; intro nb wb hnb S)) | (refine wpList_mk8 S ?_; (clear S; intro nb wb hnb S)) | (refine wpList_mk S ?_; (clear S; intro nb wb hnb S)) | (refine wpList_bs S ?_; (clear S; intro nb wb hnb S)) | (refine wpList_stA S ?_; (clear S; intro ws S; simp only [splice, List.take_zero, List.take_succ_cons, List.drop_succ_cons, List.drop_zero, List.drop_nil, List.length_cons, List.length_nil, Nat.reduceAdd, Nat.zero_add, List.nil_append, List.cons_append, List.append_nil] at S)) | (refine wpList_b2sB S ?_) | (refine wpList_b2sR S ?_) | (refine wpList_ldc S ?_))
  go_loopg [6, 7] l (fun g iv av wr => ∃ k : Nat, Hid (k + g = l) ∧ iv = .int .i64 k ∧ k ≤ l ∧ Hid (TapeSt w [] wr tp ((Ta.fresh m b).puts ((r.win.take k).map fun c => (c, true))) [.row 5 1 (.slice (some ⟨bd, 0, none⟩) m c3) m (u8s D), .blk b1 (.cells [.slice (some ⟨bd, 0, none⟩) m c3, .int .i64 b, .int .i64 ((b + l : Nat) : Int), .int .i64 i].toArray 24 (0, 0)), .blk b2 (.cells [.slice none 0 0, .int .i64 0, .int .i64 0, .int .i64 0].toArray 24 (0, 0))]))
  case atStart => exact ⟨0, hidden (by omega), rfl, Nat.zero_le _, hT⟩
  case round =>
    clear hT
    obtain ⟨k, hg, rfl, hkn, hT⟩ := hrel
    obtain ⟨vb, vk, S⟩ := hT.out
    by_cases hlt : k < l
    · obtain ⟨hat, hwk⟩ := hget.out k hlt
      have htk := hidden (show r.win.take (k + 1) = r.win.take k ++ [D.getD (r.at' k) 0] by rw [List.take_add_one, hwk]; rfl)
      have hlow := hidden (show Mild ((Ta.fresh m b).puts ((r.win.take k).map fun c => (c, true))) from by
        have hl5 : ((r.win.take k).map fun c => (c, true)).length ≤ 300 := by rw [List.length_map, List.length_take]; omega
        refine ⟨Ta.puts_fine _ (Ta.fresh_fine _ _ (by omega)), ?_, ?_, ?_⟩
        · rw [Ta.puts_e]; show b + _ ≤ _; omega
        · rw [Ta.puts_size]; show m ≤ _; omega
        · rw [Ta.puts_bytes, List.length_append, List.length_map]; show 0 + _ ≤ _; omega)
      have hsz := hidden (show ((Ta.fresh m b).puts ((r.win.take k).map fun c => (c, true))).size = m from Ta.puts_size _ _)
      have hx1 := hat1.out
      have hx2 := hat2.out
      clear hwk
      generalize hat' : r.at' k = at0 at *
      generalize hxe : D.getD at0 0 = x at *
      replace hxe := hidden hxe
      replace hat' := hidden hat'
      have hT1 := hidden hT.out
      go_upto_if 86 with (first | go_big_skip | ((with_reducible show Code.wp _ (Code.region _ _ true) _ _ _); refine St.regionLast S ?_; (repeat (first | (go_big_quiet_step (fail)) | (go_big_quiet_want; (first | refine quiet_ld S ?_ | refine quiet_ld8 S ?_ | refine quiet_ld0 ?_ | refine quiet_ldA S ?_ | refine quiet_b2sB S ?_ | refine quiet_b2sR S ?_ | refine quiet_ldc S ?_); go_big_quiet_on))); refine wpQuiet_nil ?_; clear S; intro wq S) | go_big_skip | (refine wpList_ld S ?_) | (refine wpList_ld8 S ?_) | (refine wpList_ld0 ?_) | (refine wpList_ldA S ?_) | (refine wpList_st8 S ?_; (clear S; intro ws S)) | (refine wpList_st S ?_; (clear S; intro ws S)) | (refine wpList_box S ?_; (clear S; intro nb wb hnb S)) | (refine wpList_alloc S ?_; (clear S; intro nb wb hnb S)) | (refine wpList_mk8 S ?_; (clear S; intro nb wb hnb S)) | (refine wpList_mk S ?_; (clear S; intro nb wb hnb S)) | (refine wpList_bs S ?_; (clear S; intro nb wb hnb S)) | (refine wpList_stA S ?_; (clear S; intro ws S; simp only [splice, List.take_zero, List.take_succ_cons, List.drop_succ_cons, List.drop_zero, List.drop_nil, List.length_cons, List.length_nil, Nat.reduceAdd, Nat.zero_add, List.nil_append, List.cons_append, List.append_nil] at S)) | (refine wpList_b2sB S ?_) | (refine wpList_b2sR S ?_) | (refine wpList_ldc S ?_))
      go_cut [7] (fun av w' => av = .int .i64 at0 ∧ Hid (TapeSt w [] w' tp ((Ta.fresh m b).puts ((r.win.take k).map fun c => (c, true))) [.row 5 1 (.slice (some ⟨bd, 0, none⟩) m c3) m (u8s D), .blk b1 (.cells [.slice (some ⟨bd, 0, none⟩) m c3, .int .i64 b, .int .i64 ((b + l : Nat) : Int), .int .i64 i].toArray 24 (0, 0)), .blk b2 (.cells [.slice none 0 0, .int .i64 0, .int .i64 0, .int .i64 0].toArray 24 (0, 0))]))
      case first =>
        by_cases h5 : l < m
        · have e5 := hidden (hx1 h5 k hlt)
          have hbb : ((b : Int) + (l : Int) - (b : Int) == (m : Int)) = false := by simp; omega
          clear hx1 hx2
          go_wp2_with (first | go_big_skip | ((with_reducible show Code.wp _ (Code.region _ _ true) _ _ _); refine St.regionLast S ?_; (repeat (first | (go_big_quiet_step (fail)) | (go_big_quiet_want; (first | refine quiet_ld S ?_ | refine quiet_ld8 S ?_ | refine quiet_ld0 ?_ | refine quiet_ldA S ?_ | refine quiet_b2sB S ?_ | refine quiet_b2sR S ?_ | refine quiet_ldc S ?_); go_big_quiet_on))); refine wpQuiet_nil ?_; clear S; intro wq S) | go_big_skip | (refine wpList_ld S ?_) | (refine wpList_ld8 S ?_) | (refine wpList_ld0 ?_) | (refine wpList_ldA S ?_) | (refine wpList_st8 S ?_; (clear S; intro ws S)) | (refine wpList_st S ?_; (clear S; intro ws S)) | (refine wpList_box S ?_; (clear S; intro nb wb hnb S)) | (refine wpList_alloc S ?_; (clear S; intro nb wb hnb S)) | (refine wpList_mk8 S ?_; (clear S; intro nb wb hnb S)) | (refine wpList_mk S ?_; (clear S; intro nb wb hnb S)) | (refine wpList_bs S ?_; (clear S; intro nb wb hnb S)) | (refine wpList_stA S ?_; (clear S; intro ws S; simp only [splice, List.take_zero, List.take_succ_cons, List.drop_succ_cons, List.drop_zero, List.drop_nil, List.length_cons, List.length_nil, Nat.reduceAdd, Nat.zero_add, List.nil_append, List.cons_append, List.append_nil] at S)) | (refine wpList_b2sB S ?_) | (refine wpList_b2sR S ?_) | (refine wpList_ldc S ?_))
          go_meet
          refine ⟨?_, hidden ⟨_, _, S⟩⟩
          rw [← hat'.out, e5.out]
        · have e5 := hidden (hx2 h5 k)
          have hbb : ((b : Int) + (l : Int) - (b : Int) == (m : Int)) = true := by simp; omega
          clear hx1 hx2
          go_wp2_with (first | go_big_skip | ((with_reducible show Code.wp _ (Code.region _ _ true) _ _ _); refine St.regionLast S ?_; (repeat (first | (go_big_quiet_step (fail)) | (go_big_quiet_want; (first | refine quiet_ld S ?_ | refine quiet_ld8 S ?_ | refine quiet_ld0 ?_ | refine quiet_ldA S ?_ | refine quiet_b2sB S ?_ | refine quiet_b2sR S ?_ | refine quiet_ldc S ?_); go_big_quiet_on))); refine wpQuiet_nil ?_; clear S; intro wq S) | go_big_skip | (refine wpList_ld S ?_) | (refine wpList_ld8 S ?_) | (refine wpList_ld0 ?_) | (refine wpList_ldA S ?_) | (refine wpList_st8 S ?_; (clear S; intro ws S)) | (refine wpList_st S ?_; (clear S; intro ws S)) | (refine wpList_box S ?_; (clear S; intro nb wb hnb S)) | (refine wpList_alloc S ?_; (clear S; intro nb wb hnb S)) | (refine wpList_mk8 S ?_; (clear S; intro nb wb hnb S)) | (refine wpList_mk S ?_; (clear S; intro nb wb hnb S)) | (refine wpList_bs S ?_; (clear S; intro nb wb hnb S)) | (refine wpList_stA S ?_; (clear S; intro ws S; simp only [splice, List.take_zero, List.take_succ_cons, List.drop_succ_cons, List.drop_zero, List.drop_nil, List.length_cons, List.length_nil, Nat.reduceAdd, Nat.zero_add, List.nil_append, List.cons_append, List.append_nil] at S)) | (refine wpList_b2sB S ?_) | (refine wpList_b2sR S ?_) | (refine wpList_ldc S ?_))
          go_meet
          refine ⟨?_, hidden ⟨_, _, S⟩⟩
          rw [← hat'.out, e5.out]
          simp
      case rest =>
      obtain ⟨rfl, hT2⟩ := hcut
      clear S hT hT1 hx1 hx2
      obtain ⟨vb2, vk2, S⟩ := hT2.out
      go_wp2_with (first | go_big_skip | (refine wpList_slcLH at0 (at0 + 1) ?_) | ((with_reducible show Code.wp _ (Code.region _ _ true) _ _ _); refine St.regionLast S ?_; (repeat (first | (go_big_quiet_step (fail)) | (go_big_quiet_want; (first | refine quiet_ld S ?_ | refine quiet_ld8 S ?_ | refine quiet_ld0 ?_ | refine quiet_ldA S ?_ | refine quiet_b2sB S ?_ | refine quiet_b2sR S ?_ | refine quiet_ldc S ?_); go_big_quiet_on))); refine wpQuiet_nil ?_; clear S; intro wq S) | go_big_skip | (refine wpList_ld S ?_) | (refine wpList_ld8 S ?_) | (refine wpList_ld0 ?_) | (refine wpList_ldA S ?_) | (refine wpList_st8 S ?_; (clear S; intro ws S)) | (refine wpList_st S ?_; (clear S; intro ws S)) | (refine wpList_box S ?_; (clear S; intro nb wb hnb S)) | (refine wpList_alloc S ?_; (clear S; intro nb wb hnb S)) | (refine wpList_mk8 S ?_; (clear S; intro nb wb hnb S)) | (refine wpList_mk S ?_; (clear S; intro nb wb hnb S)) | (refine wpList_bs S ?_; (clear S; intro nb wb hnb S)) | (refine wpList_stA S ?_; (clear S; intro ws S; simp only [splice, List.take_zero, List.take_succ_cons, List.drop_succ_cons, List.drop_zero, List.drop_nil, List.length_cons, List.length_nil, Nat.reduceAdd, Nat.zero_add, List.nil_append, List.cons_append, List.append_nil] at S)) | (refine wpList_b2sB S ?_) | (refine wpList_b2sR S ?_) | (refine wpList_ldc S ?_))
      have hseen : Seen w [] [.row 5 1 (.slice (some ⟨bd, 0, none⟩) m c3) m (u8s D), .blk b1 (.cells [.slice (some ⟨bd, 0, none⟩) m c3, .int .i64 b, .int .i64 ((b + l : Nat) : Int), .int .i64 i].toArray 24 (0, 0)), .blk b2 (.cells [.slice none 0 0, .int .i64 0, .int .i64 0, .int .i64 0].toArray 24 (0, 0))] (.slice (some (cutAt ⟨bd, 0, none⟩ at0 c3 1)) 1 (c3 - at0)) 1 [x] := by
        intro w' hM C
        have h := part_src (ad := ⟨bd, 0, none⟩) (o := at0) (m := 1) (c' := c3 - at0) rfl hc3 (hM.2 _ (.head _)) (u8s_one _) (by omega)
        have e1 : ((u8s D).drop at0).take 1 = u8s [x] := by
          have hlt' : at0 < D.length := by omega
          have hx2 : x = D[at0] := by rw [← hxe.out]; simp [List.getD, List.getElem?_eq_getElem hlt']
          rw [hx2]
          unfold u8s
          rw [← List.map_drop, ← List.map_take, List.drop_eq_getElem_cons hlt', List.take_succ_cons, List.take_zero]
        rw [e1] at h
        exact h
      clear S
      refine Calls.mono (tapeWrite tp _ [x] 1 (c3 - at0) _ _ w [] _ hT2.out hlow.out hseen (by omega)) ?_
      rintro e w4 ⟨rfl, hT3⟩
      rw [if_pos (by rw [hsz.out]; omega)] at hT3
      rw [show ([x].map fun c => (c, true)) = [(x, true)] from rfl] at hT3
      have e4 := congrArg (fun L => (Ta.fresh m b).puts (L.map fun c => (c, true))) htk.out
      simp only [List.map_append, Ta.puts_append, List.map_cons, List.map_nil] at e4
      rw [← e4] at hT3
      replace hT3 := hidden hT3
      clear e4 hseen hT2 htk hlow hsz hxe hat'
      have hS3 : ∃ z : Nat, z = 0 := ⟨_, rfl⟩
      go_wp2_with (first | go_big_skip | ((with_reducible show Code.wp _ (Code.region _ _ true) _ _ _); refine St.regionLast S ?_; (repeat (first | (go_big_quiet_step (fail)) | (go_big_quiet_want; (first | refine quiet_ld S ?_ | refine quiet_ld8 S ?_ | refine quiet_ld0 ?_ | refine quiet_ldA S ?_ | refine quiet_b2sB S ?_ | refine quiet_b2sR S ?_ | refine quiet_ldc S ?_); go_big_quiet_on))); refine wpQuiet_nil ?_; clear S; intro wq S) | go_big_skip | (refine wpList_ld S ?_) | (refine wpList_ld8 S ?_) | (refine wpList_ld0 ?_) | (refine wpList_ldA S ?_) | (refine wpList_st8 S ?_; (clear S; intro ws S)) | (refine wpList_st S ?_; (clear S; intro ws S)) | (refine wpList_box S ?_; (clear S; intro nb wb hnb S)) | (refine wpList_alloc S ?_; (clear S; intro nb wb hnb S)) | (refine wpList_mk8 S ?_; (clear S; intro nb wb hnb S)) | (refine wpList_mk S ?_; (clear S; intro nb wb hnb S)) | (refine wpList_bs S ?_; (clear S; intro nb wb hnb S)) | (refine wpList_stA S ?_; (clear S; intro ws S; simp only [splice, List.take_zero, List.take_succ_cons, List.drop_succ_cons, List.drop_zero, List.drop_nil, List.length_cons, List.length_nil, Nat.reduceAdd, Nat.zero_add, List.nil_append, List.cons_append, List.append_nil] at S)) | (refine wpList_b2sB S ?_) | (refine wpList_b2sR S ?_) | (refine wpList_ldc S ?_))
      go_roundg (gk - 1)
      case measure => have := hg.out; omega
      case rel => exact ⟨k + 1, hidden (by have := hg.out; omega), by go_num, by omega, hT3⟩
    · have hkl : k = l := by omega
      have hend := hidden (show r.win.take k = r.win from List.take_of_length_le (by omega))
      replace hkl := hidden hkl
      rw [hend.out] at hT
      go_wp2_with (first | go_big_skip | ((with_reducible show Code.wp _ (Code.region _ _ true) _ _ _); refine St.regionLast S ?_; (repeat (first | (go_big_quiet_step (fail)) | (go_big_quiet_want; (first | refine quiet_ld S ?_ | refine quiet_ld8 S ?_ | refine quiet_ld0 ?_ | refine quiet_ldA S ?_ | refine quiet_b2sB S ?_ | refine quiet_b2sR S ?_ | refine quiet_ldc S ?_); go_big_quiet_on))); refine wpQuiet_nil ?_; clear S; intro wq S) | go_big_skip | (refine wpList_ld S ?_) | (refine wpList_ld8 S ?_) | (refine wpList_ld0 ?_) | (refine wpList_ldA S ?_) | (refine wpList_st8 S ?_; (clear S; intro ws S)) | (refine wpList_st S ?_; (clear S; intro ws S)) | (refine wpList_box S ?_; (clear S; intro nb wb hnb S)) | (refine wpList_alloc S ?_; (clear S; intro nb wb hnb S)) | (refine wpList_mk8 S ?_; (clear S; intro nb wb hnb S)) | (refine wpList_mk S ?_; (clear S; intro nb wb hnb S)) | (refine wpList_bs S ?_; (clear S; intro nb wb hnb S)) | (refine wpList_stA S ?_; (clear S; intro ws S; simp only [splice, List.take_zero, List.take_succ_cons, List.drop_succ_cons, List.drop_zero, List.drop_nil, List.length_cons, List.length_nil, Nat.reduceAdd, Nat.zero_add, List.nil_append, List.cons_append, List.append_nil] at S)) | (refine wpList_b2sB S ?_) | (refine wpList_b2sR S ?_) | (refine wpList_ldc S ?_))
      refine ret_of (results_ct S) ?_
      refine hR.out _ _ ?_
      rw [hend.out] at S
      rw [← hre.out, hof.out, hlm]
      exact ⟨_, tp, rfl, _, _, S.sel (by repeat (first | exact Sel.nil | (apply Sel.cons; (repeat (first | exact Pull.head | apply Pull.tail)))))⟩
end Go.Proofs.YtbklhnpnkinadaaDoor
