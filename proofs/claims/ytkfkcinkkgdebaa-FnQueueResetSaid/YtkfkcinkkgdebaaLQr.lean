/- Behind a reset a queue is as if it were new. -/
import Derived.Test.YtkfkcinkkgdebaaQs
namespace Go.Proofs.Ytkfkcinkkgdebaa
open Go Go.RowKit Go.Vil
set_option linter.unusedSimpArgs false
set_option linter.unusedVariables false
set_option maxRecDepth 100000

theorem ans_small {x : Qu} (hg : x.Good) {op : QOp} (hp : Plain6 op) : (qStep x op).2.data.length ≤ x.cap := by
  obtain ⟨arr, hr⟩ := hg
  have hk := hp.1
  have hold : ∀ b m, x.old = b :: m → b.p.length ≤ x.cap := by
    intro b m ho
    have h1 := (hr.right_le (by rw [ho]; simp)).1
    have h2 := (hr.okO b (by rw [ho]; exact List.mem_cons_self)).1
    unfold Qu.right at h1
    rw [ho, sz_cons] at h1
    omega
  unfold qStep
  split
  · cases h : x.push op.data with
    | mk x' o => cases o <;> exact Nat.zero_le _
  split
  · cases ho : x.old with
    | nil => exact Nat.zero_le _
    | cons b m => exact hold b m ho
  split
  · cases ho : x.old with
    | nil => exact Nat.zero_le _
    | cons b m => exact hold b m ho
  rw [if_neg (by omega), if_neg (by omega)]
  repeat' split
  all_goals exact Nat.zero_le _
theorem run_small : ∀ (l : List QOp) (x : Qu), x.Good → qFine x l → (∀ op ∈ l, Plain6 op) → ∀ an ∈ qRun x l, an.data.length ≤ 1073741824
  | [], x, _, _, _ => fun an h => by cases h
  | op :: l, x, hg, hf, hp => fun an h => by
    have hp1 := hp op List.mem_cons_self
    rcases List.mem_cons.1 h with rfl | h
    · exact Nat.le_trans (ans_small hg hp1) hf.2.1
    · exact run_small l _ (qStep_good hg hf.2.1 op (fun _ => hp1.2)) hf.2.2.2 (fun o ho => hp o (List.mem_cons_of_mem _ ho)) an h
def resetOps : List QOp := [⟨7, [], 0⟩, ⟨6, [], 0⟩]
def resetCells : List (List Value) := [[.int .i64 7, .slice none 0 0, .int .i64 0], [.int .i64 6, .slice none 0 0, .int .i64 0]]
theorem reset_end (x : Qu) : qEnd x resetOps = Qu.fresh x.cap x.max := by
  have h7 : (qStep x ⟨7, [], 0⟩).1 = x.reset := by unfold qStep; simp
  have h6 : ∀ y : Qu, (qStep y ⟨6, [], 0⟩).1 = y := by intro y; unfold qStep; simp
  show (qStep (qStep x ⟨7, [], 0⟩).1 ⟨6, [], 0⟩).1 = _
  rw [h6, h7]; exact Qu.reset_fresh x
theorem reset_run (x : Qu) : qRun x resetOps = [⟨0, 0, []⟩, ⟨0, x.cap, []⟩] := by
  have h7 : qStep x ⟨7, [], 0⟩ = (x.reset, ⟨0, 0, []⟩) := by unfold qStep; simp
  have h6 : ∀ y : Qu, qStep y ⟨6, [], 0⟩ = (y, ⟨0, y.cap, []⟩) := by intro y; unfold qStep; simp
  simp only [resetOps, qRun, h7, h6]
  rfl
/-- All that is asked of the two runs. -/
structure ResetFacts (cap most now : Nat) (q m : List QOp) : Prop where
  fine : qFine (Qu.fresh cap most) (q ++ resetOps ++ m)
  fine2 : qFine (Qu.fresh now most) m
  le : now ≤ 65536
  run : qRun (Qu.fresh cap most) (q ++ resetOps ++ m) = qRun (Qu.fresh cap most) (q ++ resetOps) ++ qRun (Qu.fresh now most) m
  last : (qRun (Qu.fresh cap most) (q ++ resetOps ++ m))[q.length + 1]? = some ⟨0, now, []⟩
  small : ∀ an ∈ qRun (Qu.fresh now most) m, an.data.length ≤ 1073741824
  kinds : ∀ op ∈ q ++ resetOps ++ m, op.kind ≤ 7
  tot : Go.Proofs.Ytkfkcinkkgdebaa.total (q ++ resetOps ++ m) ≤ 262144
theorem reset_facts {cap most : Nat} {q m : List QOp} (hq : Asked cap most q) (hm : Asked cap most m) : ∃ now, ResetFacts cap most now q m := by
  have hc := hq.cap
  have hmo := hq.most
  obtain ⟨f1, f2, f3, f4⟩ := hq.fine
  have hpr : ∀ op ∈ resetOps, Plain6 op := by
    intro op hop
    simp only [resetOps, List.mem_cons, List.not_mem_nil, or_false] at hop
    rcases hop with rfl | rfl
    · exact ⟨by simp, by simp⟩
    · exact ⟨by simp, by simp⟩
  have hp : ∀ op ∈ q ++ resetOps ++ m, Plain6 op := by
    intro op hop
    rcases List.mem_append.1 hop with hop | hop
    · exact (List.mem_append.1 hop).elim (hq.plain op) (hpr op)
    · exact hm.plain op hop
  have ha1 := hq.asks
  have ha2 := hm.asks
  have har : asks resetOps = 0 := by simp [asks, resetOps]
  have htr : Go.Proofs.Ytkfkcinkkgdebaa.total resetOps = 0 := by simp [Go.Proofs.Ytkfkcinkkgdebaa.total, resetOps]
  have hn : (qEnd (Qu.fresh cap most) q).cap ≤ 65536 := by have := f3.cap; omega
  have hend : qEnd (Qu.fresh cap most) (q ++ resetOps) = Qu.fresh (qEnd (Qu.fresh cap most) q).cap most := by rw [qEnd_append, reset_end, f4]
  have hrun : qRun (Qu.fresh cap most) (q ++ resetOps ++ m) = qRun (Qu.fresh cap most) (q ++ resetOps) ++ qRun (Qu.fresh (qEnd (Qu.fresh cap most) q).cap most) m := by rw [qRun_append, hend]
  have hf2 := (fine_of m (Qu.fresh (qEnd (Qu.fresh cap most) q).cap most) _ 0 hm.plain (Qu.fresh_good _ _) (Qu.fresh_bnd _ _) hn (by show most ≤ _; omega) (by omega)).1
  refine ⟨(qEnd (Qu.fresh cap most) q).cap, ?_, hf2, hn, hrun, ?_, ?_, ?_, ?_⟩
  · exact (fine_of _ (Qu.fresh cap most) cap 0 hp (Qu.fresh_good _ _) (Qu.fresh_bnd _ _) (by omega) (by show most ≤ _; omega) (by rw [asks_append, asks_append, har]; omega)).1
  · rw [hrun, List.getElem?_append_left (by rw [qRun_length, List.length_append]; show _ < _ + 2; omega), qRun_append, List.getElem?_append_right (by rw [qRun_length]; omega), qRun_length, reset_run, show q.length + 1 - q.length = 1 by omega]
    rfl
  · exact run_small m _ (Qu.fresh_good _ _) hf2 hm.plain
  · intro op hop
    have := (hp op hop).1
    omega
  · have e : ∀ a b : List QOp, Go.Proofs.Ytkfkcinkkgdebaa.total (a ++ b) = Go.Proofs.Ytkfkcinkkgdebaa.total a + Go.Proofs.Ytkfkcinkkgdebaa.total b := fun a b => by unfold Go.Proofs.Ytkfkcinkkgdebaa.total; rw [List.map_append, List.sum_append]
    rw [e, e, htr]
    have := hq.total
    have := hm.total
    omega

set_option maxHeartbeats 12800000 in
theorem lawQueueReset (cap most : Int) (v u : Value) (ops more : List QOp) (w : World) (h : Arr OpV 3 w v ops) (h' : Arr OpV 3 w u more) :
    Calls Try.prog 6 #[.int .i64 cap, .int .i64 most, v, u] w fun e w' => e = .returned (.bool true) ∧ Chg [] w w' := by
  have S := St.begin w
  replace h := hidden h
  replace h' := hidden h'
  refine Calls.cps ?_; intro R hR
  go_enter Try.func6, Try.ntmps6
  go_wp2_with (first | go_big_skip | ((with_reducible show Code.wp _ (Code.region _ _ true) _ _ _); refine St.regionLast S ?_; (repeat (first | (go_big_quiet_step (fail)) | (go_big_quiet_want; (first | refine quiet_ld S ?_ | refine quiet_ld8 S ?_ | refine quiet_ld0 ?_ | refine quiet_ldA S ?_ | refine quiet_b2sB S ?_ | refine quiet_b2sR S ?_ | refine quiet_ldc S ?_); go_big_quiet_on))); refine wpQuiet_nil ?_; clear S; intro wq S) | go_big_skip | (refine wpList_ld S ?_) | (refine wpList_ld8 S ?_) | (refine wpList_ld0 ?_) | (refine wpList_ldA S ?_) | (refine wpList_st8 S ?_; (clear S; intro ws S)) | (refine wpList_st S ?_; (clear S; intro ws S)) | (refine wpList_box S ?_; (clear S; intro nb wb hnb S)) | (refine wpList_alloc S ?_; (clear S; intro nb wb hnb S)) | (refine wpList_mk8 S ?_; (clear S; intro nb wb hnb S)) | (refine wpList_mk S ?_; (clear S; intro nb wb hnb S)) | (refine wpList_bs S ?_; (clear S; intro nb wb hnb S)) | (refine wpList_stA S ?_; (clear S; intro ws S; simp only [splice, List.take_zero, List.take_succ_cons, List.drop_succ_cons, List.drop_zero, List.drop_nil, List.length_cons, List.length_nil, Nat.reduceAdd, Nat.zero_add, List.nil_append, List.cons_append, List.append_nil] at S)) | (refine wpList_b2sB S ?_) | (refine wpList_b2sR S ?_) | (refine wpList_ldc S ?_))
  refine Calls.mono (fits6 v ops _ (h.out.on S.chg fun _ _ h => h.on S.chg)) ?_
  rintro e w2 ⟨b, rfl, hb, C⟩
  have S2 := S.call C; clear S C; simp only [List.cons_append, List.nil_append] at S2; have S := S2; clear S2
  cases b with
  | false =>
    go_wp2_with (first | go_big_skip | ((with_reducible show Code.wp _ (Code.region _ _ true) _ _ _); refine St.regionLast S ?_; (repeat (first | (go_big_quiet_step (fail)) | (go_big_quiet_want; (first | refine quiet_ld S ?_ | refine quiet_ld8 S ?_ | refine quiet_ld0 ?_ | refine quiet_ldA S ?_ | refine quiet_b2sB S ?_ | refine quiet_b2sR S ?_ | refine quiet_ldc S ?_); go_big_quiet_on))); refine wpQuiet_nil ?_; clear S; intro wq S) | go_big_skip | (refine wpList_ld S ?_) | (refine wpList_ld8 S ?_) | (refine wpList_ld0 ?_) | (refine wpList_ldA S ?_) | (refine wpList_st8 S ?_; (clear S; intro ws S)) | (refine wpList_st S ?_; (clear S; intro ws S)) | (refine wpList_box S ?_; (clear S; intro nb wb hnb S)) | (refine wpList_alloc S ?_; (clear S; intro nb wb hnb S)) | (refine wpList_mk8 S ?_; (clear S; intro nb wb hnb S)) | (refine wpList_mk S ?_; (clear S; intro nb wb hnb S)) | (refine wpList_bs S ?_; (clear S; intro nb wb hnb S)) | (refine wpList_stA S ?_; (clear S; intro ws S; simp only [splice, List.take_zero, List.take_succ_cons, List.drop_succ_cons, List.drop_zero, List.drop_nil, List.length_cons, List.length_nil, Nat.reduceAdd, Nat.zero_add, List.nil_append, List.cons_append, List.append_nil] at S)) | (refine wpList_b2sB S ?_) | (refine wpList_b2sR S ?_) | (refine wpList_ldc S ?_))
    ((first | go_ret | go_ret2 | go_ret3 | go_end0 | skip); refine hR.out _ _ ?_)
    exact ⟨rfl, S.chg⟩
  | true =>
    obtain ⟨hf1, hf2⟩ := hb rfl
    replace hf2 := hidden hf2
    clear hb
    go_wp2_with (first | go_big_skip | ((with_reducible show Code.wp _ (Code.region _ _ true) _ _ _); refine St.regionLast S ?_; (repeat (first | (go_big_quiet_step (fail)) | (go_big_quiet_want; (first | refine quiet_ld S ?_ | refine quiet_ld8 S ?_ | refine quiet_ld0 ?_ | refine quiet_ldA S ?_ | refine quiet_b2sB S ?_ | refine quiet_b2sR S ?_ | refine quiet_ldc S ?_); go_big_quiet_on))); refine wpQuiet_nil ?_; clear S; intro wq S) | go_big_skip | (refine wpList_ld S ?_) | (refine wpList_ld8 S ?_) | (refine wpList_ld0 ?_) | (refine wpList_ldA S ?_) | (refine wpList_st8 S ?_; (clear S; intro ws S)) | (refine wpList_st S ?_; (clear S; intro ws S)) | (refine wpList_box S ?_; (clear S; intro nb wb hnb S)) | (refine wpList_alloc S ?_; (clear S; intro nb wb hnb S)) | (refine wpList_mk8 S ?_; (clear S; intro nb wb hnb S)) | (refine wpList_mk S ?_; (clear S; intro nb wb hnb S)) | (refine wpList_bs S ?_; (clear S; intro nb wb hnb S)) | (refine wpList_stA S ?_; (clear S; intro ws S; simp only [splice, List.take_zero, List.take_succ_cons, List.drop_succ_cons, List.drop_zero, List.drop_nil, List.length_cons, List.length_nil, Nat.reduceAdd, Nat.zero_add, List.nil_append, List.cons_append, List.append_nil] at S)) | (refine wpList_b2sB S ?_) | (refine wpList_b2sR S ?_) | (refine wpList_ldc S ?_))
    refine Calls.mono (fits6 u more _ (h'.out.on S.chg fun _ _ h => h.on S.chg)) ?_
    rintro e w2 ⟨b, rfl, hb, C⟩
    have S2 := S.call C; clear S C; simp only [List.cons_append, List.nil_append] at S2; have S := S2; clear S2
    cases b with
    | false =>
      go_wp2_with (first | go_big_skip | ((with_reducible show Code.wp _ (Code.region _ _ true) _ _ _); refine St.regionLast S ?_; (repeat (first | (go_big_quiet_step (fail)) | (go_big_quiet_want; (first | refine quiet_ld S ?_ | refine quiet_ld8 S ?_ | refine quiet_ld0 ?_ | refine quiet_ldA S ?_ | refine quiet_b2sB S ?_ | refine quiet_b2sR S ?_ | refine quiet_ldc S ?_); go_big_quiet_on))); refine wpQuiet_nil ?_; clear S; intro wq S) | go_big_skip | (refine wpList_ld S ?_) | (refine wpList_ld8 S ?_) | (refine wpList_ld0 ?_) | (refine wpList_ldA S ?_) | (refine wpList_st8 S ?_; (clear S; intro ws S)) | (refine wpList_st S ?_; (clear S; intro ws S)) | (refine wpList_box S ?_; (clear S; intro nb wb hnb S)) | (refine wpList_alloc S ?_; (clear S; intro nb wb hnb S)) | (refine wpList_mk8 S ?_; (clear S; intro nb wb hnb S)) | (refine wpList_mk S ?_; (clear S; intro nb wb hnb S)) | (refine wpList_bs S ?_; (clear S; intro nb wb hnb S)) | (refine wpList_stA S ?_; (clear S; intro ws S; simp only [splice, List.take_zero, List.take_succ_cons, List.drop_succ_cons, List.drop_zero, List.drop_nil, List.length_cons, List.length_nil, Nat.reduceAdd, Nat.zero_add, List.nil_append, List.cons_append, List.append_nil] at S)) | (refine wpList_b2sB S ?_) | (refine wpList_b2sR S ?_) | (refine wpList_ldc S ?_))
      ((first | go_ret | go_ret2 | go_ret3 | go_end0 | skip); refine hR.out _ _ ?_)
      exact ⟨rfl, S.chg⟩
    | true =>
      obtain ⟨hg1, hg2⟩ := hb rfl
      replace hg2 := hidden hg2
      clear hb
      go_wp2_with (first | go_big_skip | ((with_reducible show Code.wp _ (Code.region _ _ true) _ _ _); refine St.regionLast S ?_; (repeat (first | (go_big_quiet_step (fail)) | (go_big_quiet_want; (first | refine quiet_ld S ?_ | refine quiet_ld8 S ?_ | refine quiet_ld0 ?_ | refine quiet_ldA S ?_ | refine quiet_b2sB S ?_ | refine quiet_b2sR S ?_ | refine quiet_ldc S ?_); go_big_quiet_on))); refine wpQuiet_nil ?_; clear S; intro wq S) | go_big_skip | (refine wpList_ld S ?_) | (refine wpList_ld8 S ?_) | (refine wpList_ld0 ?_) | (refine wpList_ldA S ?_) | (refine wpList_st8 S ?_; (clear S; intro ws S)) | (refine wpList_st S ?_; (clear S; intro ws S)) | (refine wpList_box S ?_; (clear S; intro nb wb hnb S)) | (refine wpList_alloc S ?_; (clear S; intro nb wb hnb S)) | (refine wpList_mk8 S ?_; (clear S; intro nb wb hnb S)) | (refine wpList_mk S ?_; (clear S; intro nb wb hnb S)) | (refine wpList_bs S ?_; (clear S; intro nb wb hnb S)) | (refine wpList_stA S ?_; (clear S; intro ws S; simp only [splice, List.take_zero, List.take_succ_cons, List.drop_succ_cons, List.drop_zero, List.drop_nil, List.length_cons, List.length_nil, Nat.reduceAdd, Nat.zero_add, List.nil_append, List.cons_append, List.append_nil] at S)) | (refine wpList_b2sB S ?_) | (refine wpList_b2sR S ?_) | (refine wpList_ldc S ?_))
      refine Calls.mono (small6 v ops cap most _ (h.out.on S.chg fun _ _ h => h.on S.chg) hf2.out hf1) ?_
      rintro e w3 ⟨b, rfl, hb, C⟩
      have S2 := S.call C; clear S C; simp only [List.cons_append, List.nil_append] at S2; have S := S2; clear S2
      cases b with
      | false =>
        go_wp2_with (first | go_big_skip | ((with_reducible show Code.wp _ (Code.region _ _ true) _ _ _); refine St.regionLast S ?_; (repeat (first | (go_big_quiet_step (fail)) | (go_big_quiet_want; (first | refine quiet_ld S ?_ | refine quiet_ld8 S ?_ | refine quiet_ld0 ?_ | refine quiet_ldA S ?_ | refine quiet_b2sB S ?_ | refine quiet_b2sR S ?_ | refine quiet_ldc S ?_); go_big_quiet_on))); refine wpQuiet_nil ?_; clear S; intro wq S) | go_big_skip | (refine wpList_ld S ?_) | (refine wpList_ld8 S ?_) | (refine wpList_ld0 ?_) | (refine wpList_ldA S ?_) | (refine wpList_st8 S ?_; (clear S; intro ws S)) | (refine wpList_st S ?_; (clear S; intro ws S)) | (refine wpList_box S ?_; (clear S; intro nb wb hnb S)) | (refine wpList_alloc S ?_; (clear S; intro nb wb hnb S)) | (refine wpList_mk8 S ?_; (clear S; intro nb wb hnb S)) | (refine wpList_mk S ?_; (clear S; intro nb wb hnb S)) | (refine wpList_bs S ?_; (clear S; intro nb wb hnb S)) | (refine wpList_stA S ?_; (clear S; intro ws S; simp only [splice, List.take_zero, List.take_succ_cons, List.drop_succ_cons, List.drop_zero, List.drop_nil, List.length_cons, List.length_nil, Nat.reduceAdd, Nat.zero_add, List.nil_append, List.cons_append, List.append_nil] at S)) | (refine wpList_b2sB S ?_) | (refine wpList_b2sR S ?_) | (refine wpList_ldc S ?_))
        ((first | go_ret | go_ret2 | go_ret3 | go_end0 | skip); refine hR.out _ _ ?_)
        exact ⟨rfl, S.chg⟩
      | true =>
        have hsm := hb rfl
        clear hb
        go_wp2_with (first | go_big_skip | ((with_reducible show Code.wp _ (Code.region _ _ true) _ _ _); refine St.regionLast S ?_; (repeat (first | (go_big_quiet_step (fail)) | (go_big_quiet_want; (first | refine quiet_ld S ?_ | refine quiet_ld8 S ?_ | refine quiet_ld0 ?_ | refine quiet_ldA S ?_ | refine quiet_b2sB S ?_ | refine quiet_b2sR S ?_ | refine quiet_ldc S ?_); go_big_quiet_on))); refine wpQuiet_nil ?_; clear S; intro wq S) | go_big_skip | (refine wpList_ld S ?_) | (refine wpList_ld8 S ?_) | (refine wpList_ld0 ?_) | (refine wpList_ldA S ?_) | (refine wpList_st8 S ?_; (clear S; intro ws S)) | (refine wpList_st S ?_; (clear S; intro ws S)) | (refine wpList_box S ?_; (clear S; intro nb wb hnb S)) | (refine wpList_alloc S ?_; (clear S; intro nb wb hnb S)) | (refine wpList_mk8 S ?_; (clear S; intro nb wb hnb S)) | (refine wpList_mk S ?_; (clear S; intro nb wb hnb S)) | (refine wpList_bs S ?_; (clear S; intro nb wb hnb S)) | (refine wpList_stA S ?_; (clear S; intro ws S; simp only [splice, List.take_zero, List.take_succ_cons, List.drop_succ_cons, List.drop_zero, List.drop_nil, List.length_cons, List.length_nil, Nat.reduceAdd, Nat.zero_add, List.nil_append, List.cons_append, List.append_nil] at S)) | (refine wpList_b2sB S ?_) | (refine wpList_b2sR S ?_) | (refine wpList_ldc S ?_))
        refine Calls.mono (small6 u more cap most _ (h'.out.on S.chg fun _ _ h => h.on S.chg) hg2.out hg1) ?_
        rintro e w3 ⟨b, rfl, hb, C⟩
        have S2 := S.call C; clear S C; simp only [List.cons_append, List.nil_append] at S2; have S := S2; clear S2
        cases b with
        | false =>
          go_wp2_with (first | go_big_skip | ((with_reducible show Code.wp _ (Code.region _ _ true) _ _ _); refine St.regionLast S ?_; (repeat (first | (go_big_quiet_step (fail)) | (go_big_quiet_want; (first | refine quiet_ld S ?_ | refine quiet_ld8 S ?_ | refine quiet_ld0 ?_ | refine quiet_ldA S ?_ | refine quiet_b2sB S ?_ | refine quiet_b2sR S ?_ | refine quiet_ldc S ?_); go_big_quiet_on))); refine wpQuiet_nil ?_; clear S; intro wq S) | go_big_skip | (refine wpList_ld S ?_) | (refine wpList_ld8 S ?_) | (refine wpList_ld0 ?_) | (refine wpList_ldA S ?_) | (refine wpList_st8 S ?_; (clear S; intro ws S)) | (refine wpList_st S ?_; (clear S; intro ws S)) | (refine wpList_box S ?_; (clear S; intro nb wb hnb S)) | (refine wpList_alloc S ?_; (clear S; intro nb wb hnb S)) | (refine wpList_mk8 S ?_; (clear S; intro nb wb hnb S)) | (refine wpList_mk S ?_; (clear S; intro nb wb hnb S)) | (refine wpList_bs S ?_; (clear S; intro nb wb hnb S)) | (refine wpList_stA S ?_; (clear S; intro ws S; simp only [splice, List.take_zero, List.take_succ_cons, List.drop_succ_cons, List.drop_zero, List.drop_nil, List.length_cons, List.length_nil, Nat.reduceAdd, Nat.zero_add, List.nil_append, List.cons_append, List.append_nil] at S)) | (refine wpList_b2sB S ?_) | (refine wpList_b2sR S ?_) | (refine wpList_ldc S ?_))
          ((first | go_ret | go_ret2 | go_ret3 | go_end0 | skip); refine hR.out _ _ ?_)
          exact ⟨rfl, S.chg⟩
        | true =>
          have hsm' := hb rfl
          clear hb
          obtain ⟨⟨hc0, hm0⟩, hA⟩ := asked_of hsm
          obtain ⟨_, hB⟩ := asked_of hsm'
          have hl60 := hsm.2.2.2.2.1
          have hl61 := hsm'.2.2.2.2.1
          clear hsm hsm'
          obtain ⟨cap, rfl⟩ := Int.eq_ofNat_of_zero_le hc0
          obtain ⟨most, rfl⟩ := Int.eq_ofNat_of_zero_le hm0
          simp only [Int.ofNat_eq_natCast, Int.toNat_natCast] at hA hB
          have hcap := hA.cap
          have hmost := hA.most
          have hlen := hA.len
          have hlenm := hB.len
          obtain ⟨now, hF⟩ := reset_facts hA hB
          clear hA hB
          replace hF := hidden hF
          clear hc0 hm0 hf1 hf2 hg1 hg2
          go_wp2_with (first | go_big_skip | ((with_reducible show Code.wp _ (Code.region _ _ true) _ _ _); refine St.regionLast S ?_; (repeat (first | (go_big_quiet_step (fail)) | (go_big_quiet_want; (first | refine quiet_ld S ?_ | refine quiet_ld8 S ?_ | refine quiet_ld0 ?_ | refine quiet_ldA S ?_ | refine quiet_b2sB S ?_ | refine quiet_b2sR S ?_ | refine quiet_ldc S ?_); go_big_quiet_on))); refine wpQuiet_nil ?_; clear S; intro wq S) | go_big_skip | (refine wpList_ld S ?_) | (refine wpList_ld8 S ?_) | (refine wpList_ld0 ?_) | (refine wpList_ldA S ?_) | (refine wpList_st8 S ?_; (clear S; intro ws S)) | (refine wpList_st S ?_; (clear S; intro ws S)) | (refine wpList_box S ?_; (clear S; intro nb wb hnb S)) | (refine wpList_alloc S ?_; (clear S; intro nb wb hnb S)) | (refine wpList_mk8 S ?_; (clear S; intro nb wb hnb S)) | (refine wpList_mk S ?_; (clear S; intro nb wb hnb S)) | (refine wpList_bs S ?_; (clear S; intro nb wb hnb S)) | (refine wpList_stA S ?_; (clear S; intro ws S; simp only [splice, List.take_zero, List.take_succ_cons, List.drop_succ_cons, List.drop_zero, List.drop_nil, List.length_cons, List.length_nil, Nat.reduceAdd, Nat.zero_add, List.nil_append, List.cons_append, List.append_nil] at S)) | (refine wpList_b2sB S ?_) | (refine wpList_b2sR S ?_) | (refine wpList_ldc S ?_))
          refine Calls.mono (asked6R v ops _ (h.out.on S.chg fun _ _ h => h.on S.chg) hl60) ?_
          rintro e w4 ⟨qv, css, rfl, hq, C⟩
          have hchg := hidden S.chg
          clear S
          have S := C
          clear C
          generalize asked ops = q at *
          obtain ⟨oq, cq, rfl, hcq⟩ : ∃ oq cq, qv = .slice oq q.length cq ∧ q.length ≤ cq := by
            obtain ⟨oq, cq, h1, h2, _⟩ := row_shape (by decide) (S.mem.2 _ List.mem_cons_self)
            exact ⟨oq, cq, h1, h2⟩
          replace hq := hidden hq
          go_wp2_with (first | go_big_skip | (refine wpList_appB S ?_; (clear S; intro va wa hva S)) | go_big_skip | (refine wpList_ld S ?_) | (refine wpList_ld8 S ?_) | (refine wpList_ld0 ?_) | (refine wpList_ldA S ?_) | (refine wpList_st8 S ?_; (clear S; intro ws S)) | (refine wpList_st S ?_; (clear S; intro ws S)) | (refine wpList_box S ?_; (clear S; intro nb wb hnb S)) | (refine wpList_alloc S ?_; (clear S; intro nb wb hnb S)) | (refine wpList_mk8 S ?_; (clear S; intro nb wb hnb S)) | (refine wpList_mk S ?_; (clear S; intro nb wb hnb S)) | (refine wpList_bs S ?_; (clear S; intro nb wb hnb S)) | (refine wpList_stA S ?_; (clear S; intro ws S; simp only [splice, List.take_zero, List.take_succ_cons, List.drop_succ_cons, List.drop_zero, List.drop_nil, List.length_cons, List.length_nil, Nat.reduceAdd, Nat.zero_add, List.nil_append, List.cons_append, List.append_nil] at S)) | (refine wpList_b2sB S ?_) | (refine wpList_b2sR S ?_) | (refine wpList_ldc S ?_))
          have hE : Each (fun x cs => OpV w3 x cs ∧ cs.length = 3) (q ++ resetOps) (css ++ resetCells) :=
            hq.out.append ⟨⟨⟨none, 0, 0, rfl, Src.nil w3 1 0, Nat.le_refl _⟩, rfl⟩, ⟨⟨none, 0, 0, rfl, Src.nil w3 1 0, Nat.le_refl _⟩, rfl⟩, trivial⟩
          have S2 : St w3 [] wa [.row 28 3 va (q ++ resetOps).length (css ++ resetCells).flatten] := by
            rw [List.flatten_append, List.length_append]; exact S.sel (by repeat (first | exact Sel.nil | (apply Sel.cons; (repeat (first | exact Pull.head | apply Pull.tail)))))
          have hRl : (q ++ resetOps).length = q.length + 2 := by rw [List.length_append]; rfl
          clear S
          have hsw := hidden (hchg.out.trans S2.chg)
          refine Calls.mono (asked6R u more _ (h'.out.on hsw.out fun _ _ h => h.on hsw.out) hl61) ?_
          rintro e w6 ⟨mv, cssm, rfl, hm, C⟩
          generalize asked more = m at *
          have S3 := S2.call C
          simp only [List.cons_append, List.nil_append] at S3
          have hR6 := ops_arr hE S3 (.tail .head)
          have hM6 := ops_arr hm C .head
          have hchg2 := hidden (hchg.out.trans S3.chg)
          clear S2 S3 C hE hm hq hsw hchg h h' hva
          have hF2 := hF.out
          generalize hRR : q ++ resetOps = R at *
          obtain ⟨oR, cR, cssR, rfl, hcR, hER, hSR⟩ := hR6
          obtain ⟨oM, cM, cssM, rfl, hcM, hEM, hSM⟩ := hM6
          have hR6 : Arr OpV 3 w6 (.slice oR R.length cR) R := ⟨oR, cR, cssR, rfl, hcR, hER, hSR⟩
          have hM6 : Arr OpV 3 w6 (.slice oM m.length cM) m := ⟨oM, cM, cssM, rfl, hcM, hEM, hSM⟩
          replace hR6 := hidden hR6
          replace hM6 := hidden hM6
          replace hER := hidden hER
          replace hEM := hidden hEM
          replace hSR := hidden hSR
          replace hSM := hidden hSM
          clear hF
          have hF := hidden hF2
          clear hF2
          have hR1 : R.length ≤ 122 := by omega
          have hR2 : 2 ≤ R.length := by omega
          replace hRl := hidden hRl
          have S := St.begin w6
          go_upto_region 6 with (first | go_big_skip | go_big_skip | (refine wpList_ld S ?_) | (refine wpList_ld8 S ?_) | (refine wpList_ld0 ?_) | (refine wpList_ldA S ?_) | (refine wpList_st8 S ?_; (clear S; intro ws S)) | (refine wpList_st S ?_; (clear S; intro ws S)) | (refine wpList_box S ?_; (clear S; intro nb wb hnb S)) | (refine wpList_alloc S ?_; (clear S; intro nb wb hnb S)) | (refine wpList_mk8 S ?_; (clear S; intro nb wb hnb S)) | (refine wpList_mk S ?_; (clear S; intro nb wb hnb S)) | (refine wpList_bs S ?_; (clear S; intro nb wb hnb S)) | (refine wpList_stA S ?_; (clear S; intro ws S; simp only [splice, List.take_zero, List.take_succ_cons, List.drop_succ_cons, List.drop_zero, List.drop_nil, List.length_cons, List.length_nil, Nat.reduceAdd, Nat.zero_add, List.nil_append, List.cons_append, List.append_nil] at S)) | (refine wpList_b2sB S ?_) | (refine wpList_b2sR S ?_) | (refine wpList_ldc S ?_))
          go_wp2_with (first | go_big_skip | (refine wpList_bs (len := 0) (parts := []) (size := 3) S ?_; (clear S; intro nb wb hnb S); have S := S.toRow (n := 0) (cap := 0) 3 .head rfl (Nat.le_refl _) (by simp [maxLen])) | (refine wpList_app S (hSR.out.on S.chg) ?_; (clear S; intro va wa hva S)) | (refine wpList_app S (hSM.out.on S.chg) ?_; (clear S; intro va wa hva S)) | go_big_skip | (refine wpList_ld S ?_) | (refine wpList_ld8 S ?_) | (refine wpList_ld0 ?_) | (refine wpList_ldA S ?_) | (refine wpList_st8 S ?_; (clear S; intro ws S)) | (refine wpList_st S ?_; (clear S; intro ws S)) | (refine wpList_box S ?_; (clear S; intro nb wb hnb S)) | (refine wpList_alloc S ?_; (clear S; intro nb wb hnb S)) | (refine wpList_mk8 S ?_; (clear S; intro nb wb hnb S)) | (refine wpList_mk S ?_; (clear S; intro nb wb hnb S)) | (refine wpList_bs S ?_; (clear S; intro nb wb hnb S)) | (refine wpList_stA S ?_; (clear S; intro ws S; simp only [splice, List.take_zero, List.take_succ_cons, List.drop_succ_cons, List.drop_zero, List.drop_nil, List.length_cons, List.length_nil, Nat.reduceAdd, Nat.zero_add, List.nil_append, List.cons_append, List.append_nil] at S)) | (refine wpList_b2sB S ?_) | (refine wpList_b2sR S ?_) | (refine wpList_ldc S ?_))
          have hE : Each (fun x cs => OpV w6 x cs ∧ cs.length = 3) (R ++ m) (cssR ++ cssM) := hER.out.append hEM.out
          have hQl : (R ++ m).length = R.length + m.length := List.length_append
          have S2 : St w6 [] wa [.row 28 3 va (R ++ m).length (cssR ++ cssM).flatten] := by
            rw [List.flatten_append, hQl]
            have e : 0 + R.length + m.length = R.length + m.length := by omega
            rw [e] at S
            exact S.sel (by repeat (first | exact Sel.nil | (apply Sel.cons; (repeat (first | exact Pull.head | apply Pull.tail)))))
          clear S hva
          have hF1 := hF.out.fine
          have hF3 := hF.out.run
          have hF4 := hF.out.last
          have hF5 := hF.out.kinds
          have hF6 := hF.out.tot
          rw [hRR] at hF1 hF3 hF4 hF5 hF6
          have hq := ops_arr hE S2 .head
          have hchg3 := hidden (hchg2.out.trans S2.chg)
          have hM7 := hidden (hM6.out.on S2.chg fun _ _ h => h.on S2.chg)
          clear S2 hE hER hEM hSR hSM hM6 hR6 hRR
          generalize R ++ m = Q at *
          obtain ⟨oq, cq, rfl, hcq⟩ := hq.shape
          replace hq := hidden hq
          replace hF4 := hidden hF4
          replace hF5 := hidden hF5
          replace hF3 := hidden hF3
          have hQ4 : Q.length ≤ 400 := by omega
          replace hQl := hidden hQl
          refine Calls.mono (queueRun _ Q cap most _ hq.out hF5.out hQ4 hF6 (by omega) (by omega) hF1) ?_
          clear hF1 hF6
          rintro e w7 ⟨ov, rfl, hans, C⟩
          have hchg4 := hidden (hchg3.out.trans C)
          have hM8 := hidden (hM7.out.on C fun _ _ h => h.on C)
          clear C hM7 hq hchg3
          have S := St.begin w7
          obtain ⟨oA, cA, rfl, hcA⟩ := hans.shape
          rw [qRun_length] at hans hcA
          rw [qRun_length, hQl.out]
          rw [hQl.out] at hans hcA
          obtain ⟨ad, rfl⟩ := hans.some (by decide) (by rw [qRun_length, hQl.out]; omega)
          obtain ⟨cs, ⟨oa2, c2, rfl, _⟩, _, hcell⟩ := hans.get (q.length + 1) _ hF4.out
          have g1 := hcell 1 _ rfl
          rw [show q.length + 1 = R.length - 1 by have := hRl.out; omega] at g1
          clear hcell hF4
          have hix : ((R.length : Int) - 1).toNat = R.length - 1 := by omega
          have hnow := hF.out.le
          replace hans := hidden hans
          have hbb : (((R.length : Int) + (m.length : Int)) != (R.length : Int) + (m.length : Int)) = false := bne_self_eq_false _
          go_wp2_with (first | go_big_skip | (refine wpList_ldc S ?_) | go_big_skip | (refine wpList_ld S ?_) | (refine wpList_ld8 S ?_) | (refine wpList_ld0 ?_) | (refine wpList_ldA S ?_) | (refine wpList_st8 S ?_; (clear S; intro ws S)) | (refine wpList_st S ?_; (clear S; intro ws S)) | (refine wpList_box S ?_; (clear S; intro nb wb hnb S)) | (refine wpList_alloc S ?_; (clear S; intro nb wb hnb S)) | (refine wpList_mk8 S ?_; (clear S; intro nb wb hnb S)) | (refine wpList_mk S ?_; (clear S; intro nb wb hnb S)) | (refine wpList_bs S ?_; (clear S; intro nb wb hnb S)) | (refine wpList_stA S ?_; (clear S; intro ws S; simp only [splice, List.take_zero, List.take_succ_cons, List.drop_succ_cons, List.drop_zero, List.drop_nil, List.length_cons, List.length_nil, Nat.reduceAdd, Nat.zero_add, List.nil_append, List.cons_append, List.append_nil] at S)) | (refine wpList_b2sB S ?_) | (refine wpList_b2sR S ?_) | (refine wpList_ldc S ?_))
          have hmt : total m ≤ 262144 := by
            have := hF.out.tot
            have e : total (q ++ resetOps ++ m) = total (q ++ resetOps) + total m := by unfold total; rw [List.map_append, List.sum_append]
            omega
          have hmk : ∀ op ∈ m, op.kind ≤ 7 := fun op hop => hF.out.kinds op (List.mem_append_right _ hop)
          refine Calls.mono (queueRun _ m now most _ (hM8.out.on S.chg fun _ _ h => h.on S.chg) hmk (by omega) hmt hnow (by omega) hF.out.fine2) ?_
          clear hmk
          rintro e w8 ⟨ov, rfl, hans2, C⟩
          have hans1 := hans.out.on (S.chg.trans C) fun _ _ h => h.on (S.chg.trans C)
          have hchg5 := hidden (hchg4.out.trans (S.chg.trans C))
          clear S C hans hM8 hchg4 g1
          have S := St.begin w8
          obtain ⟨oB, cB, rfl, hcB⟩ := hans2.shape
          have hdr := hans1.dropN R.length (cA - R.length) (by omega) (by omega) (cutAt ad R.length cA 3) (fun hlt => by unfold cutAt; rw [if_neg (by omega)])
          rw [hF3.out, List.drop_left' (qRun_length R _)] at hdr
          have hsmall := hF.out.small
          have hll : (qRun (Qu.fresh now most) m).length = m.length := qRun_length _ _
          rw [show R.length + m.length - R.length = (qRun (Qu.fresh now most) m).length by rw [hll]; omega] at hdr
          have hsame := hidden (quSame (some (cutAt ad R.length cA 3)) oB (cA - R.length) cB (qRun (Qu.fresh now most) m) w8 hdr hans2 (by omega) hsmall)
          rw [hll] at hsame ⊢
          clear hdr hans1 hans2 hsmall hll hF hF3 hcA
          go_upto_region 11 with (first | go_big_skip | go_big_skip | (refine wpList_ld S ?_) | (refine wpList_ld8 S ?_) | (refine wpList_ld0 ?_) | (refine wpList_ldA S ?_) | (refine wpList_st8 S ?_; (clear S; intro ws S)) | (refine wpList_st S ?_; (clear S; intro ws S)) | (refine wpList_box S ?_; (clear S; intro nb wb hnb S)) | (refine wpList_alloc S ?_; (clear S; intro nb wb hnb S)) | (refine wpList_mk8 S ?_; (clear S; intro nb wb hnb S)) | (refine wpList_mk S ?_; (clear S; intro nb wb hnb S)) | (refine wpList_bs S ?_; (clear S; intro nb wb hnb S)) | (refine wpList_stA S ?_; (clear S; intro ws S; simp only [splice, List.take_zero, List.take_succ_cons, List.drop_succ_cons, List.drop_zero, List.drop_nil, List.length_cons, List.length_nil, Nat.reduceAdd, Nat.zero_add, List.nil_append, List.cons_append, List.append_nil] at S)) | (refine wpList_b2sB S ?_) | (refine wpList_b2sR S ?_) | (refine wpList_ldc S ?_))
          go_wp2_with (first | go_big_skip | (refine wpList_slcT (size := 3) R.length ?_) | go_big_skip | (refine wpList_ld S ?_) | (refine wpList_ld8 S ?_) | (refine wpList_ld0 ?_) | (refine wpList_ldA S ?_) | (refine wpList_st8 S ?_; (clear S; intro ws S)) | (refine wpList_st S ?_; (clear S; intro ws S)) | (refine wpList_box S ?_; (clear S; intro nb wb hnb S)) | (refine wpList_alloc S ?_; (clear S; intro nb wb hnb S)) | (refine wpList_mk8 S ?_; (clear S; intro nb wb hnb S)) | (refine wpList_mk S ?_; (clear S; intro nb wb hnb S)) | (refine wpList_bs S ?_; (clear S; intro nb wb hnb S)) | (refine wpList_stA S ?_; (clear S; intro ws S; simp only [splice, List.take_zero, List.take_succ_cons, List.drop_succ_cons, List.drop_zero, List.drop_nil, List.length_cons, List.length_nil, Nat.reduceAdd, Nat.zero_add, List.nil_append, List.cons_append, List.append_nil] at S)) | (refine wpList_b2sB S ?_) | (refine wpList_b2sR S ?_) | (refine wpList_ldc S ?_))
          refine Calls.mono hsame.out ?_
          rintro e w9 ⟨rfl, C⟩
          have S2 := S.call C; clear S C; simp only [List.cons_append, List.nil_append] at S2; have S := S2; clear S2
          go_wp2_with (first | go_big_skip | go_big_skip | (refine wpList_ld S ?_) | (refine wpList_ld8 S ?_) | (refine wpList_ld0 ?_) | (refine wpList_ldA S ?_) | (refine wpList_st8 S ?_; (clear S; intro ws S)) | (refine wpList_st S ?_; (clear S; intro ws S)) | (refine wpList_box S ?_; (clear S; intro nb wb hnb S)) | (refine wpList_alloc S ?_; (clear S; intro nb wb hnb S)) | (refine wpList_mk8 S ?_; (clear S; intro nb wb hnb S)) | (refine wpList_mk S ?_; (clear S; intro nb wb hnb S)) | (refine wpList_bs S ?_; (clear S; intro nb wb hnb S)) | (refine wpList_stA S ?_; (clear S; intro ws S; simp only [splice, List.take_zero, List.take_succ_cons, List.drop_succ_cons, List.drop_zero, List.drop_nil, List.length_cons, List.length_nil, Nat.reduceAdd, Nat.zero_add, List.nil_append, List.cons_append, List.append_nil] at S)) | (refine wpList_b2sB S ?_) | (refine wpList_b2sR S ?_) | (refine wpList_ldc S ?_))
          refine Calls.mono (quLives _) ?_
          rintro e w10 ⟨rfl, C⟩
          have S2 := S.call C; clear S C; simp only [List.cons_append, List.nil_append] at S2; have S := S2; clear S2
          go_wp2_with (first | go_big_skip | ((with_reducible show Code.wp _ (Code.region _ _ true) _ _ _); refine St.regionLast S ?_; (repeat (first | (go_big_quiet_step (fail)) | (go_big_quiet_want; (first | refine quiet_ld S ?_ | refine quiet_ld8 S ?_ | refine quiet_ld0 ?_ | refine quiet_ldA S ?_ | refine quiet_b2sB S ?_ | refine quiet_b2sR S ?_ | refine quiet_ldc S ?_); go_big_quiet_on))); refine wpQuiet_nil ?_; clear S; intro wq S) | go_big_skip | (refine wpList_ld S ?_) | (refine wpList_ld8 S ?_) | (refine wpList_ld0 ?_) | (refine wpList_ldA S ?_) | (refine wpList_st8 S ?_; (clear S; intro ws S)) | (refine wpList_st S ?_; (clear S; intro ws S)) | (refine wpList_box S ?_; (clear S; intro nb wb hnb S)) | (refine wpList_alloc S ?_; (clear S; intro nb wb hnb S)) | (refine wpList_mk8 S ?_; (clear S; intro nb wb hnb S)) | (refine wpList_mk S ?_; (clear S; intro nb wb hnb S)) | (refine wpList_bs S ?_; (clear S; intro nb wb hnb S)) | (refine wpList_stA S ?_; (clear S; intro ws S; simp only [splice, List.take_zero, List.take_succ_cons, List.drop_succ_cons, List.drop_zero, List.drop_nil, List.length_cons, List.length_nil, Nat.reduceAdd, Nat.zero_add, List.nil_append, List.cons_append, List.append_nil] at S)) | (refine wpList_b2sB S ?_) | (refine wpList_b2sR S ?_) | (refine wpList_ldc S ?_))
          ((first | go_ret | go_ret2 | go_ret3 | go_end0 | skip); refine hR.out _ _ ?_)
          exact ⟨rfl, hchg5.out.trans S.chg⟩
theorem rowQueueReset {H : Type} {enc : TypeId × Value → H} {base base' base2 base2' : Nat} {spare spare2 : Nat → Bool} {held held2 : Bool} {r r2 : Reach} {d d2 : DataW H} {ps ps2 : List MemPlace} {X0 X1 X2 X3 : Prop} (a0 a1 : Int) (v u : Value) (W : World) (_ : X0) (_ : X1)
    (hval : Value.okWide Try.prog W r base' 22 v) (hd : DataW.Trod enc Try.prog W base spare held 22 v d ps) (_ : X2)
    (hval2 : Value.okWide Try.prog W r2 base2' 22 u) (hd2 : DataW.Trod enc Try.prog W base2 spare2 held2 22 u d2 ps2) (_ : X3) :
    Calls Try.prog 6 #[.int .i64 a0, .int .i64 a1, v, u] W fun e w' => e = .returned (.bool true) ∧ Below W.heap.size W w' := by
  obtain ⟨ops, h⟩ := open_qops hval hd
  obtain ⟨more, h2⟩ := open_qops hval2 hd2
  exact Calls.mono (lawQueueReset a0 a1 v u ops more W h h2) fun e w' ⟨h1, h2⟩ => ⟨h1, h2.below⟩
end Go.Proofs.Ytkfkcinkkgdebaa
