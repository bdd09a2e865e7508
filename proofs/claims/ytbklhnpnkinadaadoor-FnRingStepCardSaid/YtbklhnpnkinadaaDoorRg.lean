/- The ring buffer of the library: what is small; a ring made smaller. -/
import Derived.Test.YtbklhnpnkinadaaDoorRa
namespace Go.Proofs.YtbklhnpnkinadaaDoor
open Go Go.RowKit Go.Vil
set_option linter.unusedSimpArgs false
set_option linter.unusedVariables false
set_option maxRecDepth 100000

theorem ringBegin (q m : Nat) (T : TypeId) (b e : Int) (N C : Nat) (ix : Int) (post : List Value) (w : World) (hM : Mem w [rHead q m T b e N C ix post]) :
    Calls Tryd.prog 58 #[.pointer (some ⟨q, 0, none⟩)] w fun e' w' => e' = .returned (.int .i64 b) ∧ St w [q] w' [rHead q m T b e N C ix post] := by
  have S : St w [q] w [rHead q m T b e N C ix post] := St.start hM
  clear hM
  refine Calls.cps ?_; intro R hR
  go_enter Tryd.func58, Tryd.ntmps58
  go_wp2_with (first | go_big_skip | ((with_reducible show Code.wp _ (Code.region _ _ true) _ _ _); refine St.regionLast S ?_; (repeat (first | (go_big_quiet_step (fail)) | (go_big_quiet_want; (first | refine quiet_ld S ?_ | refine quiet_ld8 S ?_ | refine quiet_ld0 ?_ | refine quiet_ldA S ?_ | refine quiet_b2sB S ?_ | refine quiet_b2sR S ?_ | refine quiet_ldc S ?_); go_big_quiet_on))); refine wpQuiet_nil ?_; clear S; intro wq S) | go_big_skip | (refine wpList_ld S ?_) | (refine wpList_ld8 S ?_) | (refine wpList_ld0 ?_) | (refine wpList_ldA S ?_) | (refine wpList_st8 S ?_; (clear S; intro ws S)) | (refine wpList_st S ?_; (clear S; intro ws S)) | (refine wpList_box S ?_; (clear S; intro nb wb hnb S)) | (refine wpList_alloc S ?_; (clear S; intro nb wb hnb S)) | (refine wpList_mk8 S ?_; (clear S; intro nb wb hnb S)) | (refine wpList_mk S ?_; (clear S; intro nb wb hnb S)) | (refine wpList_bs S ?_; (clear S; intro nb wb hnb S)) | (refine wpList_stA S ?_; (clear S; intro ws S; simp only [splice, List.take_zero, List.take_succ_cons, List.drop_succ_cons, List.drop_zero, List.drop_nil, List.length_cons, List.length_nil, Nat.reduceAdd, Nat.zero_add, List.nil_append, List.cons_append, List.append_nil] at S)) | (refine wpList_b2sB S ?_) | (refine wpList_b2sR S ?_) | (refine wpList_ldc S ?_))
  ((first | go_ret | go_ret2 | go_ret3 | go_end0 | skip); refine hR.out _ _ ?_)
  exact ⟨rfl, S⟩
theorem ringEnd (q m : Nat) (T : TypeId) (b e : Int) (N C : Nat) (ix : Int) (post : List Value) (w : World) (hM : Mem w [rHead q m T b e N C ix post]) :
    Calls Tryd.prog 59 #[.pointer (some ⟨q, 0, none⟩)] w fun e' w' => e' = .returned (.int .i64 e) ∧ St w [q] w' [rHead q m T b e N C ix post] := by
  have S : St w [q] w [rHead q m T b e N C ix post] := St.start hM
  clear hM
  refine Calls.cps ?_; intro R hR
  go_enter Tryd.func59, Tryd.ntmps59
  go_wp2_with (first | go_big_skip | ((with_reducible show Code.wp _ (Code.region _ _ true) _ _ _); refine St.regionLast S ?_; (repeat (first | (go_big_quiet_step (fail)) | (go_big_quiet_want; (first | refine quiet_ld S ?_ | refine quiet_ld8 S ?_ | refine quiet_ld0 ?_ | refine quiet_ldA S ?_ | refine quiet_b2sB S ?_ | refine quiet_b2sR S ?_ | refine quiet_ldc S ?_); go_big_quiet_on))); refine wpQuiet_nil ?_; clear S; intro wq S) | go_big_skip | (refine wpList_ld S ?_) | (refine wpList_ld8 S ?_) | (refine wpList_ld0 ?_) | (refine wpList_ldA S ?_) | (refine wpList_st8 S ?_; (clear S; intro ws S)) | (refine wpList_st S ?_; (clear S; intro ws S)) | (refine wpList_box S ?_; (clear S; intro nb wb hnb S)) | (refine wpList_alloc S ?_; (clear S; intro nb wb hnb S)) | (refine wpList_mk8 S ?_; (clear S; intro nb wb hnb S)) | (refine wpList_mk S ?_; (clear S; intro nb wb hnb S)) | (refine wpList_bs S ?_; (clear S; intro nb wb hnb S)) | (refine wpList_stA S ?_; (clear S; intro ws S; simp only [splice, List.take_zero, List.take_succ_cons, List.drop_succ_cons, List.drop_zero, List.drop_nil, List.length_cons, List.length_nil, Nat.reduceAdd, Nat.zero_add, List.nil_append, List.cons_append, List.append_nil] at S)) | (refine wpList_b2sB S ?_) | (refine wpList_b2sR S ?_) | (refine wpList_ldc S ?_))
  ((first | go_ret | go_ret2 | go_ret3 | go_end0 | skip); refine hR.out _ _ ?_)
  exact ⟨rfl, S⟩
theorem ringSize (q m : Nat) (T : TypeId) (b e : Int) (N C : Nat) (ix : Int) (post : List Value) (w : World) (hM : Mem w [rHead q m T b e N C ix post]) (hN : N ≤ 1073741824) :
    Calls Tryd.prog 60 #[.pointer (some ⟨q, 0, none⟩)] w fun e' w' => e' = .returned (.int .i64 N) ∧ St w [q] w' [rHead q m T b e N C ix post] := by
  have S : St w [q] w [rHead q m T b e N C ix post] := St.start hM
  clear hM
  refine Calls.cps ?_; intro R hR
  go_enter Tryd.func60, Tryd.ntmps60
  go_wp2_with (first | go_big_skip | ((with_reducible show Code.wp _ (Code.region _ _ true) _ _ _); refine St.regionLast S ?_; (repeat (first | (go_big_quiet_step (fail)) | (go_big_quiet_want; (first | refine quiet_ld S ?_ | refine quiet_ld8 S ?_ | refine quiet_ld0 ?_ | refine quiet_ldA S ?_ | refine quiet_b2sB S ?_ | refine quiet_b2sR S ?_ | refine quiet_ldc S ?_); go_big_quiet_on))); refine wpQuiet_nil ?_; clear S; intro wq S) | go_big_skip | (refine wpList_ld S ?_) | (refine wpList_ld8 S ?_) | (refine wpList_ld0 ?_) | (refine wpList_ldA S ?_) | (refine wpList_st8 S ?_; (clear S; intro ws S)) | (refine wpList_st S ?_; (clear S; intro ws S)) | (refine wpList_box S ?_; (clear S; intro nb wb hnb S)) | (refine wpList_alloc S ?_; (clear S; intro nb wb hnb S)) | (refine wpList_mk8 S ?_; (clear S; intro nb wb hnb S)) | (refine wpList_mk S ?_; (clear S; intro nb wb hnb S)) | (refine wpList_bs S ?_; (clear S; intro nb wb hnb S)) | (refine wpList_stA S ?_; (clear S; intro ws S; simp only [splice, List.take_zero, List.take_succ_cons, List.drop_succ_cons, List.drop_zero, List.drop_nil, List.length_cons, List.length_nil, Nat.reduceAdd, Nat.zero_add, List.nil_append, List.cons_append, List.append_nil] at S)) | (refine wpList_b2sB S ?_) | (refine wpList_b2sR S ?_) | (refine wpList_ldc S ?_))
  ((first | go_ret | go_ret2 | go_ret3 | go_end0 | skip); refine hR.out _ _ ?_)
  exact ⟨rfl, S⟩
theorem ringReset (q m : Nat) (T : TypeId) (b e z : Int) (N C : Nat) (ix : Int) (post : List Value) (w : World) (hM : Mem w [rHead q m T b e N C ix post]) :
    Calls Tryd.prog 56 #[.pointer (some ⟨q, 0, none⟩), .int .i64 z] w fun e' w' => e' = .returned (.tuple #[]) ∧ St w [q] w' [rHead q m T z z N C 0 post] := by
  have S : St w [q] w [rHead q m T b e N C ix post] := St.start hM
  clear hM
  refine Calls.cps ?_; intro R hR
  go_enter Tryd.func56, Tryd.ntmps56
  go_wp2_with (first | go_big_skip | ((with_reducible show Code.wp _ (Code.region _ _ true) _ _ _); refine St.regionLast S ?_; (repeat (first | (go_big_quiet_step (fail)) | (go_big_quiet_want; (first | refine quiet_ld S ?_ | refine quiet_ld8 S ?_ | refine quiet_ld0 ?_ | refine quiet_ldA S ?_ | refine quiet_b2sB S ?_ | refine quiet_b2sR S ?_ | refine quiet_ldc S ?_); go_big_quiet_on))); refine wpQuiet_nil ?_; clear S; intro wq S) | go_big_skip | (refine wpList_ld S ?_) | (refine wpList_ld8 S ?_) | (refine wpList_ld0 ?_) | (refine wpList_ldA S ?_) | (refine wpList_st8 S ?_; (clear S; intro ws S)) | (refine wpList_st S ?_; (clear S; intro ws S)) | (refine wpList_box S ?_; (clear S; intro nb wb hnb S)) | (refine wpList_alloc S ?_; (clear S; intro nb wb hnb S)) | (refine wpList_mk8 S ?_; (clear S; intro nb wb hnb S)) | (refine wpList_mk S ?_; (clear S; intro nb wb hnb S)) | (refine wpList_bs S ?_; (clear S; intro nb wb hnb S)) | (refine wpList_stA S ?_; (clear S; intro ws S; simp only [splice, List.take_zero, List.take_succ_cons, List.drop_succ_cons, List.drop_zero, List.drop_nil, List.length_cons, List.length_nil, Nat.reduceAdd, Nat.zero_add, List.nil_append, List.cons_append, List.append_nil] at S)) | (refine wpList_b2sB S ?_) | (refine wpList_b2sR S ?_) | (refine wpList_ldc S ?_))
  ((first | go_ret | go_ret2 | go_ret3 | go_end0 | skip); refine hR.out _ _ ?_)
  exact ⟨rfl, S⟩
set_option maxHeartbeats 800000 in
theorem ringDump (q m : Nat) (T : TypeId) (b e : Int) (l sl : List UInt8) (C : Nat) (ix : Int) (post : List Value) (w : World) (hM : Mem w [rHead q m T b e l.length C ix post, rBlk m l sl]) (hN : l.length ≤ 1073741824) :
    Calls Tryd.prog 57 #[.pointer (some ⟨q, 0, none⟩)] w fun e' w' => ∃ nb, e' = .returned (.slice (some ⟨nb, 0, none⟩) l.length l.length) ∧ St w [q, m] w' [.blk nb (.cells (u8s l).toArray 5 (0, 0)), rHead q m T b e l.length C ix post, rBlk m l sl] := by
  have S : St w [q, m] w [rHead q m T b e l.length C ix post, rBlk m l sl] := St.start hM
  clear hM
  obtain ⟨N, hNl⟩ : ∃ N, l.length = N := ⟨_, rfl⟩
  rw [hNl] at hN S ⊢
  replace hNl := hidden hNl
  refine Calls.cps ?_; intro R hR
  go_enter Tryd.func57, Tryd.ntmps57
  go_upto_region 2 with (first | (refine wpList_mk8 (ln := N) (cn := N) S ?_; (clear S; intro nb wb hnb S)) | ((with_reducible show Code.wp _ (Code.region _ _ true) _ _ _); refine St.regionLast S ?_; (repeat (first | (go_big_quiet_step (fail)) | (go_big_quiet_want; (first | refine quiet_ld S ?_ | refine quiet_ld8 S ?_ | refine quiet_ld0 ?_ | refine quiet_ldA S ?_ | refine quiet_b2sB S ?_ | refine quiet_b2sR S ?_ | refine quiet_ldc S ?_); go_big_quiet_on))); refine wpQuiet_nil ?_; clear S; intro wq S) | go_big_skip | (refine wpList_ld S ?_) | (refine wpList_ld8 S ?_) | (refine wpList_ld0 ?_) | (refine wpList_ldA S ?_) | (refine wpList_st8 S ?_; (clear S; intro ws S)) | (refine wpList_st S ?_; (clear S; intro ws S)) | (refine wpList_box S ?_; (clear S; intro nb wb hnb S)) | (refine wpList_alloc S ?_; (clear S; intro nb wb hnb S)) | (refine wpList_mk8 S ?_; (clear S; intro nb wb hnb S)) | (refine wpList_mk S ?_; (clear S; intro nb wb hnb S)) | (refine wpList_bs S ?_; (clear S; intro nb wb hnb S)) | (refine wpList_stA S ?_; (clear S; intro ws S; simp only [splice, List.take_zero, List.take_succ_cons, List.drop_succ_cons, List.drop_zero, List.drop_nil, List.length_cons, List.length_nil, Nat.reduceAdd, Nat.zero_add, List.nil_append, List.cons_append, List.append_nil] at S)) | (refine wpList_b2sB S ?_) | (refine wpList_b2sR S ?_) | (refine wpList_ldc S ?_))
  have hsrc : Src wb 1 (.slice (some ⟨m, 0, none⟩) N C) N (u8s l) := by
    refine St.srcIn (b := m) (o := 0) (n := N) (l := l ++ sl) S (by repeat (first | exact Pull.head | apply Pull.tail)) ?_ ?_
    · have := hNl.out; rw [List.length_append]; omega
    · have := hNl.out; rw [List.drop_zero, List.take_append_of_le_length (by omega), List.take_of_length_le (by omega)]
  go_wp2_with (first | (refine wpList_copyM S hsrc N ?_ (hfit := by rw [List.length_replicate]; omega); (clear S; intro ws S)) | ((with_reducible show Code.wp _ (Code.region _ _ true) _ _ _); refine St.regionLast S ?_; (repeat (first | (go_big_quiet_step (fail)) | (go_big_quiet_want; (first | refine quiet_ld S ?_ | refine quiet_ld8 S ?_ | refine quiet_ld0 ?_ | refine quiet_ldA S ?_ | refine quiet_b2sB S ?_ | refine quiet_b2sR S ?_ | refine quiet_ldc S ?_); go_big_quiet_on))); refine wpQuiet_nil ?_; clear S; intro wq S) | go_big_skip | (refine wpList_ld S ?_) | (refine wpList_ld8 S ?_) | (refine wpList_ld0 ?_) | (refine wpList_ldA S ?_) | (refine wpList_st8 S ?_; (clear S; intro ws S)) | (refine wpList_st S ?_; (clear S; intro ws S)) | (refine wpList_box S ?_; (clear S; intro nb wb hnb S)) | (refine wpList_alloc S ?_; (clear S; intro nb wb hnb S)) | (refine wpList_mk8 S ?_; (clear S; intro nb wb hnb S)) | (refine wpList_mk S ?_; (clear S; intro nb wb hnb S)) | (refine wpList_bs S ?_; (clear S; intro nb wb hnb S)) | (refine wpList_stA S ?_; (clear S; intro ws S; simp only [splice, List.take_zero, List.take_succ_cons, List.drop_succ_cons, List.drop_zero, List.drop_nil, List.length_cons, List.length_nil, Nat.reduceAdd, Nat.zero_add, List.nil_append, List.cons_append, List.append_nil] at S)) | (refine wpList_b2sB S ?_) | (refine wpList_b2sR S ?_) | (refine wpList_ldc S ?_))
  ((first | go_ret | go_ret2 | go_ret3 | go_end0 | skip); refine hR.out _ _ ?_)
  rw [List.take_of_length_le (Nat.le_of_eq hNl.out), splice_all _ _ (by rw [List.length_replicate]; exact hNl.out)] at S
  exact ⟨nb, rfl, S⟩

set_option maxHeartbeats 800000 in
theorem newRing (n : Nat) (b : Int) (w : World) (hn : n ≤ 1073741824) :
    Calls Tryd.prog 39 #[.int .i64 n, .int .i64 b] w fun e' w' => ∃ m, e' = .returned (.agg #[.int .i64 b, .int .i64 b, .slice (some ⟨m, 0, none⟩) n n, .int .i64 0]) ∧ St w [] w' [.blk m (.cells (u8s (List.replicate n 0)).toArray 5 (0, 0))] := by
  have S := St.begin w
  refine Calls.cps ?_; intro R hR
  go_enter Tryd.func39, Tryd.ntmps39
  go_wp2_with (first | (refine wpList_mk8 (ln := n) (cn := n) S ?_; (clear S; intro mb wb hmb S)) | ((with_reducible show Code.wp _ (Code.region _ _ true) _ _ _); refine St.regionLast S ?_; (repeat (first | (go_big_quiet_step (fail)) | (go_big_quiet_want; (first | refine quiet_ld S ?_ | refine quiet_ld8 S ?_ | refine quiet_ld0 ?_ | refine quiet_ldA S ?_ | refine quiet_b2sB S ?_ | refine quiet_b2sR S ?_ | refine quiet_ldc S ?_); go_big_quiet_on))); refine wpQuiet_nil ?_; clear S; intro wq S) | go_big_skip | (refine wpList_ld S ?_) | (refine wpList_ld8 S ?_) | (refine wpList_ld0 ?_) | (refine wpList_ldA S ?_) | (refine wpList_st8 S ?_; (clear S; intro ws S)) | (refine wpList_st S ?_; (clear S; intro ws S)) | (refine wpList_box S ?_; (clear S; intro nb wb hnb S)) | (refine wpList_alloc S ?_; (clear S; intro nb wb hnb S)) | (refine wpList_mk8 S ?_; (clear S; intro nb wb hnb S)) | (refine wpList_mk S ?_; (clear S; intro nb wb hnb S)) | (refine wpList_bs S ?_; (clear S; intro nb wb hnb S)) | (refine wpList_stA S ?_; (clear S; intro ws S; simp only [splice, List.take_zero, List.take_succ_cons, List.drop_succ_cons, List.drop_zero, List.drop_nil, List.length_cons, List.length_nil, Nat.reduceAdd, Nat.zero_add, List.nil_append, List.cons_append, List.append_nil] at S)) | (refine wpList_b2sB S ?_) | (refine wpList_b2sR S ?_) | (refine wpList_ldc S ?_))
  refine Calls.mono (ringReset nb mb 85 0 0 b n n 0 [] _ S.sel1) ?_
  rintro e w2 ⟨rfl, C⟩
  have S2 := S.call C; clear S C; simp only [List.cons_append, List.nil_append] at S2; have S := S2; clear S2
  go_wp2_with (first | go_big_skip | ((with_reducible show Code.wp _ (Code.region _ _ true) _ _ _); refine St.regionLast S ?_; (repeat (first | (go_big_quiet_step (fail)) | (go_big_quiet_want; (first | refine quiet_ld S ?_ | refine quiet_ld8 S ?_ | refine quiet_ld0 ?_ | refine quiet_ldA S ?_ | refine quiet_b2sB S ?_ | refine quiet_b2sR S ?_ | refine quiet_ldc S ?_); go_big_quiet_on))); refine wpQuiet_nil ?_; clear S; intro wq S) | go_big_skip | (refine wpList_ld S ?_) | (refine wpList_ld8 S ?_) | (refine wpList_ld0 ?_) | (refine wpList_ldA S ?_) | (refine wpList_st8 S ?_; (clear S; intro ws S)) | (refine wpList_st S ?_; (clear S; intro ws S)) | (refine wpList_box S ?_; (clear S; intro nb wb hnb S)) | (refine wpList_alloc S ?_; (clear S; intro nb wb hnb S)) | (refine wpList_mk8 S ?_; (clear S; intro nb wb hnb S)) | (refine wpList_mk S ?_; (clear S; intro nb wb hnb S)) | (refine wpList_bs S ?_; (clear S; intro nb wb hnb S)) | (refine wpList_stA S ?_; (clear S; intro ws S; simp only [splice, List.take_zero, List.take_succ_cons, List.drop_succ_cons, List.drop_zero, List.drop_nil, List.length_cons, List.length_nil, Nat.reduceAdd, Nat.zero_add, List.nil_append, List.cons_append, List.append_nil] at S)) | (refine wpList_b2sB S ?_) | (refine wpList_b2sR S ?_) | (refine wpList_ldc S ?_))
  refine ret_of (results_c S) ?_
  refine hR.out _ _ ?_
  exact ⟨_, rfl, S.sel (by repeat (first | exact Sel.nil | (apply Sel.cons; (repeat (first | exact Pull.head | apply Pull.tail)))))⟩
theorem zzRing (oa : Option Addr) (n c : Nat) (b e ix : Int) (w : World) :
    Calls Tryd.prog 34 #[.slice oa n c, .int .i64 b, .int .i64 e, .int .i64 ix] w fun e' w' => e' = .returned (.agg #[.int .i64 b, .int .i64 e, .slice oa n c, .int .i64 ix]) ∧ St w [] w' [] := by
  have S := St.begin w
  refine Calls.cps ?_; intro R hR
  go_enter Tryd.func34, Tryd.ntmps34
  go_wp2_with (first | go_big_skip | ((with_reducible show Code.wp _ (Code.region _ _ true) _ _ _); refine St.regionLast S ?_; (repeat (first | (go_big_quiet_step (fail)) | (go_big_quiet_want; (first | refine quiet_ld S ?_ | refine quiet_ld8 S ?_ | refine quiet_ld0 ?_ | refine quiet_ldA S ?_ | refine quiet_b2sB S ?_ | refine quiet_b2sR S ?_ | refine quiet_ldc S ?_); go_big_quiet_on))); refine wpQuiet_nil ?_; clear S; intro wq S) | go_big_skip | (refine wpList_ld S ?_) | (refine wpList_ld8 S ?_) | (refine wpList_ld0 ?_) | (refine wpList_ldA S ?_) | (refine wpList_st8 S ?_; (clear S; intro ws S)) | (refine wpList_st S ?_; (clear S; intro ws S)) | (refine wpList_box S ?_; (clear S; intro nb wb hnb S)) | (refine wpList_alloc S ?_; (clear S; intro nb wb hnb S)) | (refine wpList_mk8 S ?_; (clear S; intro nb wb hnb S)) | (refine wpList_mk S ?_; (clear S; intro nb wb hnb S)) | (refine wpList_bs S ?_; (clear S; intro nb wb hnb S)) | (refine wpList_stA S ?_; (clear S; intro ws S; simp only [splice, List.take_zero, List.take_succ_cons, List.drop_succ_cons, List.drop_zero, List.drop_nil, List.length_cons, List.length_nil, Nat.reduceAdd, Nat.zero_add, List.nil_append, List.cons_append, List.append_nil] at S)) | (refine wpList_b2sB S ?_) | (refine wpList_b2sR S ?_) | (refine wpList_ldc S ?_))
  refine ret_of (results_c S) ?_
  refine hR.out _ _ ?_
  exact ⟨rfl, S.sel (by repeat (first | exact Sel.nil | (apply Sel.cons; (repeat (first | exact Pull.head | apply Pull.tail)))))⟩
theorem zzRingParts (q m : Nat) (T : TypeId) (b e : Int) (N C : Nat) (ix : Int) (post : List Value) (w : World) (hM : Mem w [rHead q m T b e N C ix post]) :
    Calls Tryd.prog 36 #[.pointer (some ⟨q, 0, none⟩)] w fun e' w' => e' = .returned (.tuple #[.slice (some ⟨m, 0, none⟩) N C, .int .i64 b, .int .i64 e, .int .i64 ix]) ∧ St w [q] w' [rHead q m T b e N C ix post] := by
  have S : St w [q] w [rHead q m T b e N C ix post] := St.start hM
  clear hM
  refine Calls.cps ?_; intro R hR
  go_enter Tryd.func36, Tryd.ntmps36
  go_wp2_with (first | go_big_skip | ((with_reducible show Code.wp _ (Code.region _ _ true) _ _ _); refine St.regionLast S ?_; (repeat (first | (go_big_quiet_step (fail)) | (go_big_quiet_want; (first | refine quiet_ld S ?_ | refine quiet_ld8 S ?_ | refine quiet_ld0 ?_ | refine quiet_ldA S ?_ | refine quiet_b2sB S ?_ | refine quiet_b2sR S ?_ | refine quiet_ldc S ?_); go_big_quiet_on))); refine wpQuiet_nil ?_; clear S; intro wq S) | go_big_skip | (refine wpList_ld S ?_) | (refine wpList_ld8 S ?_) | (refine wpList_ld0 ?_) | (refine wpList_ldA S ?_) | (refine wpList_st8 S ?_; (clear S; intro ws S)) | (refine wpList_st S ?_; (clear S; intro ws S)) | (refine wpList_box S ?_; (clear S; intro nb wb hnb S)) | (refine wpList_alloc S ?_; (clear S; intro nb wb hnb S)) | (refine wpList_mk8 S ?_; (clear S; intro nb wb hnb S)) | (refine wpList_mk S ?_; (clear S; intro nb wb hnb S)) | (refine wpList_bs S ?_; (clear S; intro nb wb hnb S)) | (refine wpList_stA S ?_; (clear S; intro ws S; simp only [splice, List.take_zero, List.take_succ_cons, List.drop_succ_cons, List.drop_zero, List.drop_nil, List.length_cons, List.length_nil, Nat.reduceAdd, Nat.zero_add, List.nil_append, List.cons_append, List.append_nil] at S)) | (refine wpList_b2sB S ?_) | (refine wpList_b2sR S ?_) | (refine wpList_ldc S ?_))
  refine ret_of results_tttt ?_
  refine hR.out _ _ ?_
  exact ⟨rfl, S⟩
end Go.Proofs.YtbklhnpnkinadaaDoor
