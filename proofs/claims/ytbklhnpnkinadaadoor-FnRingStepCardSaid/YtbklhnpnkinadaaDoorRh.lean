/- The ring buffer of the library: what is refused. -/
import Derived.Test.YtbklhnpnkinadaaDoorRa
import Derived.Test.YtbklhnpnkinadaaDoorArr
namespace Go.Proofs.YtbklhnpnkinadaaDoor
open Go Go.RowKit Go.Vil
set_option linter.unusedSimpArgs false
set_option linter.unusedVariables false
set_option maxRecDepth 100000

theorem GErr.call {w w' : World} {bs bs' : List Nat} {L F : List Res} {g : Nat} {v : Value} (h : GErr w bs g v) (S : St w bs w' L)
    (hp : PullsF bs' L F := by repeat (first | exact PullsF.nil | (apply PullsF.cons; (repeat (first | exact PullF.head rfl | apply PullF.tail))))) : GErr w' bs' g v := by
  have hlt := World.block_lt_of_cell? w _ h.1
  refine ⟨S.chg.cell h.1 h.2, fun hm => ?_⟩
  obtain ⟨rs, h1, h2⟩ := hp.perm
  rw [← h1] at hm
  obtain ⟨r, hr, hrf⟩ := List.mem_filterMap.1 hm
  rcases S.org r (h2.mem_iff.2 (List.mem_append_left _ hr)) g hrf with h | h
  · exact absurd h (by have := ‹GErr w bs g v›; exact this.2)
  · exact absurd hlt (Nat.not_lt.2 h)
/-- The errors of a ring buffer. -/
structure Errs (w : World) (bs : List Nat) (ev0 ev1 : Value) : Prop where
  e0 : GErr w bs 0 ev0
  e1 : GErr w bs 1 ev1
  i0 : ∃ t p, ev0 = .iface t p
  i1 : ∃ t p, ev1 = .iface t p
theorem Errs.call {w w' : World} {bs bs' : List Nat} {L F : List Res} {ev0 ev1 : Value} (h : Errs w bs ev0 ev1) (S : St w bs w' L)
    (hp : PullsF bs' L F := by repeat (first | exact PullsF.nil | (apply PullsF.cons; (repeat (first | exact PullF.head rfl | apply PullF.tail))))) : Errs w' bs' ev0 ev1 :=
  ⟨h.e0.call S hp, h.e1.call S hp, h.i0, h.i1⟩

set_option maxHeartbeats 800000 in
theorem ringRead0 (q m : Nat) (T : TypeId) (b e : Int) (N C : Nat) (ix : Int) (post : List Value) (oa : Option Addr) (n c : Nat) (z : Int) (ev : Value) (w : World)
    (hM : Mem w [rHead q m T b e N C ix post]) (hb : -1152921504606846976 ≤ b ∧ b ≤ 1152921504606846976) (he : -1152921504606846976 ≤ e ∧ e ≤ 1152921504606846976) (hz : -1152921504606846976 ≤ z ∧ z ≤ 1152921504606846976) (h : z < b ∨ e < z) (hE : GErr w [q] 0 ev) :
    Calls Tryd.prog 49 #[.pointer (some ⟨q, 0, none⟩), .slice oa n c, .int .i64 z] w fun e' w' =>
      e' = .returned (.tuple #[.int .i64 0, ev]) ∧ St w [q] w' [rHead q m T b e N C ix post] := by
  have S : St w [q] w [rHead q m T b e N C ix post] := St.start hM
  clear hM
  obtain ⟨hb1, hb2⟩ := hb
  obtain ⟨he1, he2⟩ := he
  obtain ⟨hz1, hz2⟩ := hz
  replace hE := hidden hE
  refine Calls.cps ?_; intro R hR
  go_enter Tryd.func49, Tryd.ntmps49
  by_cases c1 : e < z
  · have hbb : decide (e < z) = true := decide_eq_true c1
    clear h
    go_wp2_with (first | (refine wpList_ldE S hE.out.1 hE.out.2 ?_) | go_big_skip | ((with_reducible show Code.wp _ (Code.region _ _ true) _ _ _); refine St.regionLast S ?_; (repeat (first | (go_big_quiet_want; refine quiet_ldE S hE.out.1 hE.out.2 ?_; go_big_quiet_on) | (first | (go_big_quiet_step (fail)) | (go_big_quiet_want; (first | refine quiet_ld S ?_ | refine quiet_ld8 S ?_ | refine quiet_ld0 ?_ | refine quiet_ldA S ?_ | refine quiet_b2sB S ?_ | refine quiet_b2sR S ?_ | refine quiet_ldc S ?_); go_big_quiet_on)))); refine wpQuiet_nil ?_; clear S; intro wq S) | go_big_skip | (refine wpList_ld S ?_) | (refine wpList_ld8 S ?_) | (refine wpList_ld0 ?_) | (refine wpList_ldA S ?_) | (refine wpList_st8 S ?_; (clear S; intro ws S)) | (refine wpList_st S ?_; (clear S; intro ws S)) | (refine wpList_box S ?_; (clear S; intro nb wb hnb S)) | (refine wpList_alloc S ?_; (clear S; intro nb wb hnb S)) | (refine wpList_mk8 S ?_; (clear S; intro nb wb hnb S)) | (refine wpList_mk S ?_; (clear S; intro nb wb hnb S)) | (refine wpList_bs S ?_; (clear S; intro nb wb hnb S)) | (refine wpList_stA S ?_; (clear S; intro ws S; simp only [splice, List.take_zero, List.take_succ_cons, List.drop_succ_cons, List.drop_zero, List.drop_nil, List.length_cons, List.length_nil, Nat.reduceAdd, Nat.zero_add, List.nil_append, List.cons_append, List.append_nil] at S)) | (refine wpList_b2sB S ?_) | (refine wpList_b2sR S ?_) | (refine wpList_ldc S ?_))
    ((first | go_ret | go_ret2 | go_ret3 | go_end0 | skip); refine hR.out _ _ ?_)
    exact ⟨rfl, S⟩
  · have hbb : decide (e < z) = false := decide_eq_false c1
    have c2 : z < b := by omega
    have hbb2 : decide (z < b) = true := decide_eq_true c2
    clear h
    go_wp2_with (first | (refine wpList_ldE S hE.out.1 hE.out.2 ?_) | go_big_skip | ((with_reducible show Code.wp _ (Code.region _ _ true) _ _ _); refine St.regionLast S ?_; (repeat (first | (go_big_quiet_want; refine quiet_ldE S hE.out.1 hE.out.2 ?_; go_big_quiet_on) | (first | (go_big_quiet_step (fail)) | (go_big_quiet_want; (first | refine quiet_ld S ?_ | refine quiet_ld8 S ?_ | refine quiet_ld0 ?_ | refine quiet_ldA S ?_ | refine quiet_b2sB S ?_ | refine quiet_b2sR S ?_ | refine quiet_ldc S ?_); go_big_quiet_on)))); refine wpQuiet_nil ?_; clear S; intro wq S) | go_big_skip | (refine wpList_ld S ?_) | (refine wpList_ld8 S ?_) | (refine wpList_ld0 ?_) | (refine wpList_ldA S ?_) | (refine wpList_st8 S ?_; (clear S; intro ws S)) | (refine wpList_st S ?_; (clear S; intro ws S)) | (refine wpList_box S ?_; (clear S; intro nb wb hnb S)) | (refine wpList_alloc S ?_; (clear S; intro nb wb hnb S)) | (refine wpList_mk8 S ?_; (clear S; intro nb wb hnb S)) | (refine wpList_mk S ?_; (clear S; intro nb wb hnb S)) | (refine wpList_bs S ?_; (clear S; intro nb wb hnb S)) | (refine wpList_stA S ?_; (clear S; intro ws S; simp only [splice, List.take_zero, List.take_succ_cons, List.drop_succ_cons, List.drop_zero, List.drop_nil, List.length_cons, List.length_nil, Nat.reduceAdd, Nat.zero_add, List.nil_append, List.cons_append, List.append_nil] at S)) | (refine wpList_b2sB S ?_) | (refine wpList_b2sR S ?_) | (refine wpList_ldc S ?_))
    ((first | go_ret | go_ret2 | go_ret3 | go_end0 | skip); refine hR.out _ _ ?_)
    exact ⟨rfl, S⟩

set_option maxHeartbeats 800000 in
theorem ringWriteAt0 (q m : Nat) (T : TypeId) (b e : Int) (N C : Nat) (ix : Int) (post : List Value) (oa : Option Addr) (n c : Nat) (z : Int) (ev : Value) (w : World)
    (hM : Mem w [rHead q m T b e N C ix post]) (hb : -1152921504606846976 ≤ b ∧ b ≤ 1152921504606846976) (he : -1152921504606846976 ≤ e ∧ e ≤ 1152921504606846976) (hz : -1152921504606846976 ≤ z ∧ z ≤ 1152921504606846976) (hn : n ≤ 1073741824) (h : z < b ∨ e < z + n) (hE : GErr w [q] 0 ev) :
    Calls Tryd.prog 50 #[.pointer (some ⟨q, 0, none⟩), .slice oa n c, .int .i64 z] w fun e' w' =>
      e' = .returned (.tuple #[.int .i64 0, ev]) ∧ St w [q] w' [rHead q m T b e N C ix post] := by
  have S : St w [q] w [rHead q m T b e N C ix post] := St.start hM
  clear hM
  obtain ⟨hb1, hb2⟩ := hb
  obtain ⟨he1, he2⟩ := he
  obtain ⟨hz1, hz2⟩ := hz
  replace hE := hidden hE
  refine Calls.cps ?_; intro R hR
  go_enter Tryd.func50, Tryd.ntmps50
  by_cases c1 : e < z + n
  · have hbb : decide (e < z + n) = true := decide_eq_true c1
    clear h
    go_wp2_with (first | (refine wpList_ldE S hE.out.1 hE.out.2 ?_) | go_big_skip | ((with_reducible show Code.wp _ (Code.region _ _ true) _ _ _); refine St.regionLast S ?_; (repeat (first | (go_big_quiet_want; refine quiet_ldE S hE.out.1 hE.out.2 ?_; go_big_quiet_on) | (first | (go_big_quiet_step (fail)) | (go_big_quiet_want; (first | refine quiet_ld S ?_ | refine quiet_ld8 S ?_ | refine quiet_ld0 ?_ | refine quiet_ldA S ?_ | refine quiet_b2sB S ?_ | refine quiet_b2sR S ?_ | refine quiet_ldc S ?_); go_big_quiet_on)))); refine wpQuiet_nil ?_; clear S; intro wq S) | go_big_skip | (refine wpList_ld S ?_) | (refine wpList_ld8 S ?_) | (refine wpList_ld0 ?_) | (refine wpList_ldA S ?_) | (refine wpList_st8 S ?_; (clear S; intro ws S)) | (refine wpList_st S ?_; (clear S; intro ws S)) | (refine wpList_box S ?_; (clear S; intro nb wb hnb S)) | (refine wpList_alloc S ?_; (clear S; intro nb wb hnb S)) | (refine wpList_mk8 S ?_; (clear S; intro nb wb hnb S)) | (refine wpList_mk S ?_; (clear S; intro nb wb hnb S)) | (refine wpList_bs S ?_; (clear S; intro nb wb hnb S)) | (refine wpList_stA S ?_; (clear S; intro ws S; simp only [splice, List.take_zero, List.take_succ_cons, List.drop_succ_cons, List.drop_zero, List.drop_nil, List.length_cons, List.length_nil, Nat.reduceAdd, Nat.zero_add, List.nil_append, List.cons_append, List.append_nil] at S)) | (refine wpList_b2sB S ?_) | (refine wpList_b2sR S ?_) | (refine wpList_ldc S ?_))
    ((first | go_ret | go_ret2 | go_ret3 | go_end0 | skip); refine hR.out _ _ ?_)
    exact ⟨rfl, S⟩
  · have hbb : decide (e < z + n) = false := decide_eq_false c1
    have c2 : z < b := by omega
    have hbb2 : decide (z < b) = true := decide_eq_true c2
    clear h
    go_wp2_with (first | (refine wpList_ldE S hE.out.1 hE.out.2 ?_) | go_big_skip | ((with_reducible show Code.wp _ (Code.region _ _ true) _ _ _); refine St.regionLast S ?_; (repeat (first | (go_big_quiet_want; refine quiet_ldE S hE.out.1 hE.out.2 ?_; go_big_quiet_on) | (first | (go_big_quiet_step (fail)) | (go_big_quiet_want; (first | refine quiet_ld S ?_ | refine quiet_ld8 S ?_ | refine quiet_ld0 ?_ | refine quiet_ldA S ?_ | refine quiet_b2sB S ?_ | refine quiet_b2sR S ?_ | refine quiet_ldc S ?_); go_big_quiet_on)))); refine wpQuiet_nil ?_; clear S; intro wq S) | go_big_skip | (refine wpList_ld S ?_) | (refine wpList_ld8 S ?_) | (refine wpList_ld0 ?_) | (refine wpList_ldA S ?_) | (refine wpList_st8 S ?_; (clear S; intro ws S)) | (refine wpList_st S ?_; (clear S; intro ws S)) | (refine wpList_box S ?_; (clear S; intro nb wb hnb S)) | (refine wpList_alloc S ?_; (clear S; intro nb wb hnb S)) | (refine wpList_mk8 S ?_; (clear S; intro nb wb hnb S)) | (refine wpList_mk S ?_; (clear S; intro nb wb hnb S)) | (refine wpList_bs S ?_; (clear S; intro nb wb hnb S)) | (refine wpList_stA S ?_; (clear S; intro ws S; simp only [splice, List.take_zero, List.take_succ_cons, List.drop_succ_cons, List.drop_zero, List.drop_nil, List.length_cons, List.length_nil, Nat.reduceAdd, Nat.zero_add, List.nil_append, List.cons_append, List.append_nil] at S)) | (refine wpList_b2sB S ?_) | (refine wpList_b2sR S ?_) | (refine wpList_ldc S ?_))
    ((first | go_ret | go_ret2 | go_ret3 | go_end0 | skip); refine hR.out _ _ ?_)
    exact ⟨rfl, S⟩

set_option maxHeartbeats 800000 in
theorem ringSlice0 (q m : Nat) (T : TypeId) (b e : Int) (N C : Nat) (ix : Int) (post : List Value) (z n : Int) (ev : Value) (w : World)
    (hM : Mem w [rHead q m T b e N C ix post]) (hb : -1152921504606846976 ≤ b ∧ b ≤ 1152921504606846976) (he : -1152921504606846976 ≤ e ∧ e ≤ 1152921504606846976) (hz : -1152921504606846976 ≤ z ∧ z ≤ 1152921504606846976) (h : z < b ∨ e < z) (hE : GErr w [q] 0 ev) :
    Calls Tryd.prog 51 #[.pointer (some ⟨q, 0, none⟩), .int .i64 z, .int .i64 n] w fun e' w' =>
      e' = .returned (.tuple #[.slice none 0 0, ev]) ∧ St w [q] w' [rHead q m T b e N C ix post] := by
  have S : St w [q] w [rHead q m T b e N C ix post] := St.start hM
  clear hM
  obtain ⟨hb1, hb2⟩ := hb
  obtain ⟨he1, he2⟩ := he
  obtain ⟨hz1, hz2⟩ := hz
  replace hE := hidden hE
  refine Calls.cps ?_; intro R hR
  go_enter Tryd.func51, Tryd.ntmps51
  by_cases c1 : e < z
  · have hbb : decide (e < z) = true := decide_eq_true c1
    clear h
    go_wp2_with (first | (refine wpList_ldE S hE.out.1 hE.out.2 ?_) | go_big_skip | ((with_reducible show Code.wp _ (Code.region _ _ true) _ _ _); refine St.regionLast S ?_; (repeat (first | (go_big_quiet_want; refine quiet_ldE S hE.out.1 hE.out.2 ?_; go_big_quiet_on) | (first | (go_big_quiet_step (fail)) | (go_big_quiet_want; (first | refine quiet_ld S ?_ | refine quiet_ld8 S ?_ | refine quiet_ld0 ?_ | refine quiet_ldA S ?_ | refine quiet_b2sB S ?_ | refine quiet_b2sR S ?_ | refine quiet_ldc S ?_); go_big_quiet_on)))); refine wpQuiet_nil ?_; clear S; intro wq S) | go_big_skip | (refine wpList_ld S ?_) | (refine wpList_ld8 S ?_) | (refine wpList_ld0 ?_) | (refine wpList_ldA S ?_) | (refine wpList_st8 S ?_; (clear S; intro ws S)) | (refine wpList_st S ?_; (clear S; intro ws S)) | (refine wpList_box S ?_; (clear S; intro nb wb hnb S)) | (refine wpList_alloc S ?_; (clear S; intro nb wb hnb S)) | (refine wpList_mk8 S ?_; (clear S; intro nb wb hnb S)) | (refine wpList_mk S ?_; (clear S; intro nb wb hnb S)) | (refine wpList_bs S ?_; (clear S; intro nb wb hnb S)) | (refine wpList_stA S ?_; (clear S; intro ws S; simp only [splice, List.take_zero, List.take_succ_cons, List.drop_succ_cons, List.drop_zero, List.drop_nil, List.length_cons, List.length_nil, Nat.reduceAdd, Nat.zero_add, List.nil_append, List.cons_append, List.append_nil] at S)) | (refine wpList_b2sB S ?_) | (refine wpList_b2sR S ?_) | (refine wpList_ldc S ?_))
    ((first | go_ret | go_ret2 | go_ret3 | go_end0 | skip); refine hR.out _ _ ?_)
    exact ⟨rfl, S⟩
  · have hbb : decide (e < z) = false := decide_eq_false c1
    have c2 : z < b := by omega
    have hbb2 : decide (z < b) = true := decide_eq_true c2
    clear h
    go_wp2_with (first | (refine wpList_ldE S hE.out.1 hE.out.2 ?_) | go_big_skip | ((with_reducible show Code.wp _ (Code.region _ _ true) _ _ _); refine St.regionLast S ?_; (repeat (first | (go_big_quiet_want; refine quiet_ldE S hE.out.1 hE.out.2 ?_; go_big_quiet_on) | (first | (go_big_quiet_step (fail)) | (go_big_quiet_want; (first | refine quiet_ld S ?_ | refine quiet_ld8 S ?_ | refine quiet_ld0 ?_ | refine quiet_ldA S ?_ | refine quiet_b2sB S ?_ | refine quiet_b2sR S ?_ | refine quiet_ldc S ?_); go_big_quiet_on)))); refine wpQuiet_nil ?_; clear S; intro wq S) | go_big_skip | (refine wpList_ld S ?_) | (refine wpList_ld8 S ?_) | (refine wpList_ld0 ?_) | (refine wpList_ldA S ?_) | (refine wpList_st8 S ?_; (clear S; intro ws S)) | (refine wpList_st S ?_; (clear S; intro ws S)) | (refine wpList_box S ?_; (clear S; intro nb wb hnb S)) | (refine wpList_alloc S ?_; (clear S; intro nb wb hnb S)) | (refine wpList_mk8 S ?_; (clear S; intro nb wb hnb S)) | (refine wpList_mk S ?_; (clear S; intro nb wb hnb S)) | (refine wpList_bs S ?_; (clear S; intro nb wb hnb S)) | (refine wpList_stA S ?_; (clear S; intro ws S; simp only [splice, List.take_zero, List.take_succ_cons, List.drop_succ_cons, List.drop_zero, List.drop_nil, List.length_cons, List.length_nil, Nat.reduceAdd, Nat.zero_add, List.nil_append, List.cons_append, List.append_nil] at S)) | (refine wpList_b2sB S ?_) | (refine wpList_b2sR S ?_) | (refine wpList_ldc S ?_))
    ((first | go_ret | go_ret2 | go_ret3 | go_end0 | skip); refine hR.out _ _ ?_)
    exact ⟨rfl, S⟩

set_option maxHeartbeats 800000 in
theorem ringEqual0 (q m : Nat) (T : TypeId) (b e : Int) (N C : Nat) (ix : Int) (post : List Value) (oa : Option Addr) (n c : Nat) (z : Int) (w : World)
    (hM : Mem w [rHead q m T b e N C ix post]) (hb : -1152921504606846976 ≤ b ∧ b ≤ 1152921504606846976) (he : -1152921504606846976 ≤ e ∧ e ≤ 1152921504606846976) (hz : -1152921504606846976 ≤ z ∧ z ≤ 1152921504606846976) (hn : n ≤ 1073741824) (h : z < b ∨ e < z + n) :
    Calls Tryd.prog 52 #[.pointer (some ⟨q, 0, none⟩), .slice oa n c, .int .i64 z] w fun e' w' =>
      e' = .returned (.bool false) ∧ St w [q] w' [rHead q m T b e N C ix post] := by
  have S : St w [q] w [rHead q m T b e N C ix post] := St.start hM
  clear hM
  obtain ⟨hb1, hb2⟩ := hb
  obtain ⟨he1, he2⟩ := he
  obtain ⟨hz1, hz2⟩ := hz
  refine Calls.cps ?_; intro R hR
  go_enter Tryd.func52, Tryd.ntmps52
  by_cases c1 : e < z + n
  · have hbb : decide (e < z + n) = true := decide_eq_true c1
    clear h
    go_wp2_with (first | go_big_skip | ((with_reducible show Code.wp _ (Code.region _ _ true) _ _ _); refine St.regionLast S ?_; (repeat (first | (go_big_quiet_step (fail)) | (go_big_quiet_want; (first | refine quiet_ld S ?_ | refine quiet_ld8 S ?_ | refine quiet_ld0 ?_ | refine quiet_ldA S ?_ | refine quiet_b2sB S ?_ | refine quiet_b2sR S ?_ | refine quiet_ldc S ?_); go_big_quiet_on))); refine wpQuiet_nil ?_; clear S; intro wq S) | go_big_skip | (refine wpList_ld S ?_) | (refine wpList_ld8 S ?_) | (refine wpList_ld0 ?_) | (refine wpList_ldA S ?_) | (refine wpList_st8 S ?_; (clear S; intro ws S)) | (refine wpList_st S ?_; (clear S; intro ws S)) | (refine wpList_box S ?_; (clear S; intro nb wb hnb S)) | (refine wpList_alloc S ?_; (clear S; intro nb wb hnb S)) | (refine wpList_mk8 S ?_; (clear S; intro nb wb hnb S)) | (refine wpList_mk S ?_; (clear S; intro nb wb hnb S)) | (refine wpList_bs S ?_; (clear S; intro nb wb hnb S)) | (refine wpList_stA S ?_; (clear S; intro ws S; simp only [splice, List.take_zero, List.take_succ_cons, List.drop_succ_cons, List.drop_zero, List.drop_nil, List.length_cons, List.length_nil, Nat.reduceAdd, Nat.zero_add, List.nil_append, List.cons_append, List.append_nil] at S)) | (refine wpList_b2sB S ?_) | (refine wpList_b2sR S ?_) | (refine wpList_ldc S ?_))
    ((first | go_ret | go_ret2 | go_ret3 | go_end0 | skip); refine hR.out _ _ ?_)
    exact ⟨rfl, S⟩
  · have hbb : decide (e < z + n) = false := decide_eq_false c1
    have c2 : z < b := by omega
    have hbb2 : decide (z < b) = true := decide_eq_true c2
    clear h
    go_wp2_with (first | go_big_skip | ((with_reducible show Code.wp _ (Code.region _ _ true) _ _ _); refine St.regionLast S ?_; (repeat (first | (go_big_quiet_step (fail)) | (go_big_quiet_want; (first | refine quiet_ld S ?_ | refine quiet_ld8 S ?_ | refine quiet_ld0 ?_ | refine quiet_ldA S ?_ | refine quiet_b2sB S ?_ | refine quiet_b2sR S ?_ | refine quiet_ldc S ?_); go_big_quiet_on))); refine wpQuiet_nil ?_; clear S; intro wq S) | go_big_skip | (refine wpList_ld S ?_) | (refine wpList_ld8 S ?_) | (refine wpList_ld0 ?_) | (refine wpList_ldA S ?_) | (refine wpList_st8 S ?_; (clear S; intro ws S)) | (refine wpList_st S ?_; (clear S; intro ws S)) | (refine wpList_box S ?_; (clear S; intro nb wb hnb S)) | (refine wpList_alloc S ?_; (clear S; intro nb wb hnb S)) | (refine wpList_mk8 S ?_; (clear S; intro nb wb hnb S)) | (refine wpList_mk S ?_; (clear S; intro nb wb hnb S)) | (refine wpList_bs S ?_; (clear S; intro nb wb hnb S)) | (refine wpList_stA S ?_; (clear S; intro ws S; simp only [splice, List.take_zero, List.take_succ_cons, List.drop_succ_cons, List.drop_zero, List.drop_nil, List.length_cons, List.length_nil, Nat.reduceAdd, Nat.zero_add, List.nil_append, List.cons_append, List.append_nil] at S)) | (refine wpList_b2sB S ?_) | (refine wpList_b2sR S ?_) | (refine wpList_ldc S ?_))
    ((first | go_ret | go_ret2 | go_ret3 | go_end0 | skip); refine hR.out _ _ ?_)
    exact ⟨rfl, S⟩

set_option maxHeartbeats 800000 in
theorem ringMove0 (q m : Nat) (T : TypeId) (b e : Int) (N C : Nat) (ix : Int) (post : List Value) (z : Int) (n : Nat) (w : World)
    (hM : Mem w [rHead q m T b e N C ix post]) (hb : -1152921504606846976 ≤ b ∧ b ≤ 1152921504606846976) (he : -1152921504606846976 ≤ e ∧ e ≤ 1152921504606846976) (hz : -1152921504606846976 ≤ z ∧ z ≤ 1152921504606846976) (hn : n ≤ 1073741824) (h : z < b ∨ e < z + n) :
    Calls Tryd.prog 53 #[.pointer (some ⟨q, 0, none⟩), .int .i64 z, .int .i64 n] w fun e' w' =>
      e' = .returned (.int .i64 (-1)) ∧ St w [q] w' [rHead q m T b e N C ix post] := by
  have S : St w [q] w [rHead q m T b e N C ix post] := St.start hM
  clear hM
  obtain ⟨hb1, hb2⟩ := hb
  obtain ⟨he1, he2⟩ := he
  obtain ⟨hz1, hz2⟩ := hz
  refine Calls.cps ?_; intro R hR
  go_enter Tryd.func53, Tryd.ntmps53
  by_cases c1 : e < z + n
  · have hbb : decide (e < z + n) = true := decide_eq_true c1
    clear h
    go_wp2_with (first | go_big_skip | ((with_reducible show Code.wp _ (Code.region _ _ true) _ _ _); refine St.regionLast S ?_; (repeat (first | (go_big_quiet_step (fail)) | (go_big_quiet_want; (first | refine quiet_ld S ?_ | refine quiet_ld8 S ?_ | refine quiet_ld0 ?_ | refine quiet_ldA S ?_ | refine quiet_b2sB S ?_ | refine quiet_b2sR S ?_ | refine quiet_ldc S ?_); go_big_quiet_on))); refine wpQuiet_nil ?_; clear S; intro wq S) | go_big_skip | (refine wpList_ld S ?_) | (refine wpList_ld8 S ?_) | (refine wpList_ld0 ?_) | (refine wpList_ldA S ?_) | (refine wpList_st8 S ?_; (clear S; intro ws S)) | (refine wpList_st S ?_; (clear S; intro ws S)) | (refine wpList_box S ?_; (clear S; intro nb wb hnb S)) | (refine wpList_alloc S ?_; (clear S; intro nb wb hnb S)) | (refine wpList_mk8 S ?_; (clear S; intro nb wb hnb S)) | (refine wpList_mk S ?_; (clear S; intro nb wb hnb S)) | (refine wpList_bs S ?_; (clear S; intro nb wb hnb S)) | (refine wpList_stA S ?_; (clear S; intro ws S; simp only [splice, List.take_zero, List.take_succ_cons, List.drop_succ_cons, List.drop_zero, List.drop_nil, List.length_cons, List.length_nil, Nat.reduceAdd, Nat.zero_add, List.nil_append, List.cons_append, List.append_nil] at S)) | (refine wpList_b2sB S ?_) | (refine wpList_b2sR S ?_) | (refine wpList_ldc S ?_))
    ((first | go_ret | go_ret2 | go_ret3 | go_end0 | skip); refine hR.out _ _ ?_)
    exact ⟨rfl, S⟩
  · have hbb : decide (e < z + n) = false := decide_eq_false c1
    have c2 : z < b := by omega
    have hbb2 : decide (z < b) = true := decide_eq_true c2
    clear h
    go_wp2_with (first | go_big_skip | ((with_reducible show Code.wp _ (Code.region _ _ true) _ _ _); refine St.regionLast S ?_; (repeat (first | (go_big_quiet_step (fail)) | (go_big_quiet_want; (first | refine quiet_ld S ?_ | refine quiet_ld8 S ?_ | refine quiet_ld0 ?_ | refine quiet_ldA S ?_ | refine quiet_b2sB S ?_ | refine quiet_b2sR S ?_ | refine quiet_ldc S ?_); go_big_quiet_on))); refine wpQuiet_nil ?_; clear S; intro wq S) | go_big_skip | (refine wpList_ld S ?_) | (refine wpList_ld8 S ?_) | (refine wpList_ld0 ?_) | (refine wpList_ldA S ?_) | (refine wpList_st8 S ?_; (clear S; intro ws S)) | (refine wpList_st S ?_; (clear S; intro ws S)) | (refine wpList_box S ?_; (clear S; intro nb wb hnb S)) | (refine wpList_alloc S ?_; (clear S; intro nb wb hnb S)) | (refine wpList_mk8 S ?_; (clear S; intro nb wb hnb S)) | (refine wpList_mk S ?_; (clear S; intro nb wb hnb S)) | (refine wpList_bs S ?_; (clear S; intro nb wb hnb S)) | (refine wpList_stA S ?_; (clear S; intro ws S; simp only [splice, List.take_zero, List.take_succ_cons, List.drop_succ_cons, List.drop_zero, List.drop_nil, List.length_cons, List.length_nil, Nat.reduceAdd, Nat.zero_add, List.nil_append, List.cons_append, List.append_nil] at S)) | (refine wpList_b2sB S ?_) | (refine wpList_b2sR S ?_) | (refine wpList_ldc S ?_))
    ((first | go_ret | go_ret2 | go_ret3 | go_end0 | skip); refine hR.out _ _ ?_)
    exact ⟨rfl, S⟩

theorem wrongNilR (w : World) : Calls Tryd.prog 48 #[.nilIface] w fun e w' => e = .returned (.int .i64 0) ∧ St w [] w' [] := by
  have S := St.begin w
  refine Calls.cps ?_; intro R hR
  go_enter Tryd.func48, Tryd.ntmps48
  go_wp2_with (first | go_big_skip | ((with_reducible show Code.wp _ (Code.region _ _ true) _ _ _); refine St.regionLast S ?_; (repeat (first | (go_big_quiet_step (fail)) | (go_big_quiet_want; (first | refine quiet_ld S ?_ | refine quiet_ld8 S ?_ | refine quiet_ld0 ?_ | refine quiet_ldA S ?_ | refine quiet_b2sB S ?_ | refine quiet_b2sR S ?_ | refine quiet_ldc S ?_); go_big_quiet_on))); refine wpQuiet_nil ?_; clear S; intro wq S) | go_big_skip | (refine wpList_ld S ?_) | (refine wpList_ld8 S ?_) | (refine wpList_ld0 ?_) | (refine wpList_ldA S ?_) | (refine wpList_st8 S ?_; (clear S; intro ws S)) | (refine wpList_st S ?_; (clear S; intro ws S)) | (refine wpList_box S ?_; (clear S; intro nb wb hnb S)) | (refine wpList_alloc S ?_; (clear S; intro nb wb hnb S)) | (refine wpList_mk8 S ?_; (clear S; intro nb wb hnb S)) | (refine wpList_mk S ?_; (clear S; intro nb wb hnb S)) | (refine wpList_bs S ?_; (clear S; intro nb wb hnb S)) | (refine wpList_stA S ?_; (clear S; intro ws S; simp only [splice, List.take_zero, List.take_succ_cons, List.drop_succ_cons, List.drop_zero, List.drop_nil, List.length_cons, List.length_nil, Nat.reduceAdd, Nat.zero_add, List.nil_append, List.cons_append, List.append_nil] at S)) | (refine wpList_b2sB S ?_) | (refine wpList_b2sR S ?_) | (refine wpList_ldc S ?_))
  refine hR.out _ _ ?_
  exact ⟨rfl, S⟩
theorem wrongErrR (v : Value) (w : World) (h : ∃ t p, v = .iface t p) : Calls Tryd.prog 48 #[v] w fun e w' => e = .returned (.int .i64 1) ∧ St w [] w' [] := by
  obtain ⟨t, p, rfl⟩ := h
  have S := St.begin w
  refine Calls.cps ?_; intro R hR
  go_enter Tryd.func48, Tryd.ntmps48
  go_wp2_with (first | go_big_skip | ((with_reducible show Code.wp _ (Code.region _ _ true) _ _ _); refine St.regionLast S ?_; (repeat (first | (go_big_quiet_step (fail)) | (go_big_quiet_want; (first | refine quiet_ld S ?_ | refine quiet_ld8 S ?_ | refine quiet_ld0 ?_ | refine quiet_ldA S ?_ | refine quiet_b2sB S ?_ | refine quiet_b2sR S ?_ | refine quiet_ldc S ?_); go_big_quiet_on))); refine wpQuiet_nil ?_; clear S; intro wq S) | go_big_skip | (refine wpList_ld S ?_) | (refine wpList_ld8 S ?_) | (refine wpList_ld0 ?_) | (refine wpList_ldA S ?_) | (refine wpList_st8 S ?_; (clear S; intro ws S)) | (refine wpList_st S ?_; (clear S; intro ws S)) | (refine wpList_box S ?_; (clear S; intro nb wb hnb S)) | (refine wpList_alloc S ?_; (clear S; intro nb wb hnb S)) | (refine wpList_mk8 S ?_; (clear S; intro nb wb hnb S)) | (refine wpList_mk S ?_; (clear S; intro nb wb hnb S)) | (refine wpList_bs S ?_; (clear S; intro nb wb hnb S)) | (refine wpList_stA S ?_; (clear S; intro ws S; simp only [splice, List.take_zero, List.take_succ_cons, List.drop_succ_cons, List.drop_zero, List.drop_nil, List.length_cons, List.length_nil, Nat.reduceAdd, Nat.zero_add, List.nil_append, List.cons_append, List.append_nil] at S)) | (refine wpList_b2sB S ?_) | (refine wpList_b2sR S ?_) | (refine wpList_ldc S ?_))
  refine hR.out _ _ ?_
  exact ⟨rfl, S⟩
end Go.Proofs.YtbklhnpnkinadaaDoor
