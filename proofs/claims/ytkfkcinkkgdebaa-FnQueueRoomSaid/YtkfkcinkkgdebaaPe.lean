/- An answer that is none to a push, beside the list: what lies at an index; all kinds. -/
import Derived.Test.YtkfkcinkkgdebaaPd
namespace Go.Proofs.Ytkfkcinkkgdebaa
open Go Go.RowKit Go.Vil
set_option linter.unusedSimpArgs false
set_option linter.unusedVariables false
set_option maxRecDepth 100000

set_option maxHeartbeats 3200000 in
theorem ansAtSome3 (l : Nat) (T : TypeId) (ev : Value) (s : SL) (css : List (List Value)) (dv : Value) (ix nm : Int) (oa : Option Addr) (ca : Nat) (p : Nat × List UInt8) (F : List Res) (w0 w : World)
    (S : St w0 [] w (.blk l (.cells (listCells ev s).toArray T (0, 0)) :: .orow 41 2 ev s.ents.length css.flatten :: F)) (hE : Ents w0 s.ents css) (hs : Small s) (hat : atP s.ents ix = some p)
    (hsa : Src w0 1 (.slice oa p.2.length ca) p.2.length (u8s p.2)) :
    Calls Try.prog 37 #[.pointer (some ⟨l, 0, none⟩), .agg #[.int .i64 3, dv, .int .i64 ix], .agg #[.int .i64 0, .int .i64 nm, .slice oa p.2.length ca]] w (AnsEnd l T s F w0) := by
  have hpl : p.2.length < 16382 := (hs.2.2.2 p (List.mem_of_find?_eq_some hat)).2
  replace hE := hidden hE
  replace hs := hidden hs
  replace hat := hidden hat
  replace hsa := hidden hsa
  refine Calls.cps ?_; intro R hR
  go_enter Try.func37, Try.ntmps37
  go_upto_region 14 with (first | go_big_skip | ((with_reducible show Code.wp _ (Code.region _ _ true) _ _ _); refine St.regionLast S ?_; (repeat (first | (go_big_quiet_step (fail)) | (go_big_quiet_want; (first | refine quiet_ld S ?_ | refine quiet_ld8 S ?_ | refine quiet_ld0 ?_ | refine quiet_ldA S ?_ | refine quiet_b2sB S ?_ | refine quiet_b2sR S ?_ | refine quiet_ldc S ?_); go_big_quiet_on))); refine wpQuiet_nil ?_; clear S; intro wq S) | go_big_skip | (refine wpList_ld S ?_) | (refine wpList_ld8 S ?_) | (refine wpList_ld0 ?_) | (refine wpList_ldA S ?_) | (refine wpList_st8 S ?_; (clear S; intro ws S)) | (refine wpList_st S ?_; (clear S; intro ws S)) | (refine wpList_box S ?_; (clear S; intro nb wb hnb S)) | (refine wpList_alloc S ?_; (clear S; intro nb wb hnb S)) | (refine wpList_mk8 S ?_; (clear S; intro nb wb hnb S)) | (refine wpList_mk S ?_; (clear S; intro nb wb hnb S)) | (refine wpList_bs S ?_; (clear S; intro nb wb hnb S)) | (refine wpList_stA S ?_; (clear S; intro ws S; simp only [splice, List.take_zero, List.take_succ_cons, List.drop_succ_cons, List.drop_zero, List.drop_nil, List.length_cons, List.length_nil, Nat.reduceAdd, Nat.zero_add, List.nil_append, List.cons_append, List.append_nil] at S)) | (refine wpList_b2sB S ?_) | (refine wpList_b2sR S ?_) | (refine wpList_ldc S ?_))
  go_wp2_with (first | go_big_skip | go_big_skip | (refine wpList_ld S ?_) | (refine wpList_ld8 S ?_) | (refine wpList_ld0 ?_) | (refine wpList_ldA S ?_) | (refine wpList_st8 S ?_; (clear S; intro ws S)) | (refine wpList_st S ?_; (clear S; intro ws S)) | (refine wpList_box S ?_; (clear S; intro nb wb hnb S)) | (refine wpList_alloc S ?_; (clear S; intro nb wb hnb S)) | (refine wpList_mk8 S ?_; (clear S; intro nb wb hnb S)) | (refine wpList_mk S ?_; (clear S; intro nb wb hnb S)) | (refine wpList_bs S ?_; (clear S; intro nb wb hnb S)) | (refine wpList_stA S ?_; (clear S; intro ws S; simp only [splice, List.take_zero, List.take_succ_cons, List.drop_succ_cons, List.drop_zero, List.drop_nil, List.length_cons, List.length_nil, Nat.reduceAdd, Nat.zero_add, List.nil_append, List.cons_append, List.append_nil] at S)) | (refine wpList_b2sB S ?_) | (refine wpList_b2sR S ?_) | (refine wpList_ldc S ?_))
  have hL : ListAt _ l s := listAt_of S (hE.out.on S.chg) (.tail (.tail .head)) (.tail (.tail (.tail .head)))
  refine Calls.mono (specAt l s ix _ hL hs.out) ?_
  clear hL
  rintro e2 w2 ⟨hA, C⟩
  unfold AtEnd at hA
  rw [hat.out] at hA
  obtain ⟨ob, cb, rfl, hsb⟩ := hA
  have hsa2 := hidden (hsa.out.on S.chg)
  have S0 := S.same C.chg
  have hsb2 := hidden (hsb.on C.chg)
  replace hsa2 := hidden (hsa2.out.on C.chg)
  clear S C hsb
  have k1 := S0.cell (i := 0) (hp := .tail .head) rfl
  have k2 := S0.cell (i := 0) (hp := .head) rfl
  have k3 := S0.cell (i := 2) (hp := .head) rfl
  replace S0 := hidden S0
  have S := St.begin w2
  go_wp2_with (first | go_big_skip | (refine wpList_ldc S ?_) | go_big_skip | (refine wpList_ld S ?_) | (refine wpList_ld8 S ?_) | (refine wpList_ld0 ?_) | (refine wpList_ldA S ?_) | (refine wpList_st8 S ?_; (clear S; intro ws S)) | (refine wpList_st S ?_; (clear S; intro ws S)) | (refine wpList_box S ?_; (clear S; intro nb wb hnb S)) | (refine wpList_alloc S ?_; (clear S; intro nb wb hnb S)) | (refine wpList_mk8 S ?_; (clear S; intro nb wb hnb S)) | (refine wpList_mk S ?_; (clear S; intro nb wb hnb S)) | (refine wpList_bs S ?_; (clear S; intro nb wb hnb S)) | (refine wpList_stA S ?_; (clear S; intro ws S; simp only [splice, List.take_zero, List.take_succ_cons, List.drop_succ_cons, List.drop_zero, List.drop_nil, List.length_cons, List.length_nil, Nat.reduceAdd, Nat.zero_add, List.nil_append, List.cons_append, List.append_nil] at S)) | (refine wpList_b2sB S ?_) | (refine wpList_b2sR S ?_) | (refine wpList_ldc S ?_))
  refine Calls.mono (sameBytes (.bool true) (.bool true) p.2 p.2 oa ob ca cb _ (hsa2.out.on S.chg) (hsb2.out.on S.chg) (by omega)) ?_
  rintro e2 w3 ⟨rfl, C⟩
  have S2 := S.same C.chg
  clear S C
  have S := S2
  clear S2
  have hbt : decide (p.2 = p.2) = true := by simp
  rw [hbt]
  clear hbt
  go_wp2_with (first | go_big_skip | ((with_reducible show Code.wp _ (Code.region _ _ true) _ _ _); refine St.regionLast S ?_; (repeat (first | (go_big_quiet_step (fail)) | (go_big_quiet_want; (first | refine quiet_ld S ?_ | refine quiet_ld8 S ?_ | refine quiet_ld0 ?_ | refine quiet_ldA S ?_ | refine quiet_b2sB S ?_ | refine quiet_b2sR S ?_ | refine quiet_ldc S ?_); go_big_quiet_on))); refine wpQuiet_nil ?_; clear S; intro wq S) | go_big_skip | (refine wpList_ld S ?_) | (refine wpList_ld8 S ?_) | (refine wpList_ld0 ?_) | (refine wpList_ldA S ?_) | (refine wpList_st8 S ?_; (clear S; intro ws S)) | (refine wpList_st S ?_; (clear S; intro ws S)) | (refine wpList_box S ?_; (clear S; intro nb wb hnb S)) | (refine wpList_alloc S ?_; (clear S; intro nb wb hnb S)) | (refine wpList_mk8 S ?_; (clear S; intro nb wb hnb S)) | (refine wpList_mk S ?_; (clear S; intro nb wb hnb S)) | (refine wpList_bs S ?_; (clear S; intro nb wb hnb S)) | (refine wpList_stA S ?_; (clear S; intro ws S; simp only [splice, List.take_zero, List.take_succ_cons, List.drop_succ_cons, List.drop_zero, List.drop_nil, List.length_cons, List.length_nil, Nat.reduceAdd, Nat.zero_add, List.nil_append, List.cons_append, List.append_nil] at S)) | (refine wpList_b2sB S ?_) | (refine wpList_b2sR S ?_) | (refine wpList_ldc S ?_))
  ((first | go_ret | go_ret2 | go_ret3 | go_end0 | skip); refine hR.out _ _ ?_)
  refine ⟨ev, css, rfl, hE.out, ?_⟩
  have S := S0.out.same S.chg
  exact S.sel (.cons (.tail (.tail .head)) (.cons (.tail (.tail .head)) (.weaken (.weaken (.refl _)))))

set_option maxHeartbeats 3200000 in
theorem ansAtSome4 (l : Nat) (T : TypeId) (ev : Value) (s : SL) (css : List (List Value)) (dv av : Value) (ix nm : Int) (p : Nat × List UInt8) (F : List Res) (w0 w : World)
    (S : St w0 [] w (.blk l (.cells (listCells ev s).toArray T (0, 0)) :: .orow 41 2 ev s.ents.length css.flatten :: F)) (hE : Ents w0 s.ents css) (hs : Small s) (hat : atP s.ents ix = some p) :
    Calls Try.prog 37 #[.pointer (some ⟨l, 0, none⟩), .agg #[.int .i64 4, dv, .int .i64 ix], .agg #[.int .i64 0, .int .i64 nm, av]] w (AnsEnd l T s F w0) := by
  replace hE := hidden hE
  replace hs := hidden hs
  replace hat := hidden hat
  refine Calls.cps ?_; intro R hR
  go_enter Try.func37, Try.ntmps37
  go_upto_region 14 with (first | go_big_skip | ((with_reducible show Code.wp _ (Code.region _ _ true) _ _ _); refine St.regionLast S ?_; (repeat (first | (go_big_quiet_step (fail)) | (go_big_quiet_want; (first | refine quiet_ld S ?_ | refine quiet_ld8 S ?_ | refine quiet_ld0 ?_ | refine quiet_ldA S ?_ | refine quiet_b2sB S ?_ | refine quiet_b2sR S ?_ | refine quiet_ldc S ?_); go_big_quiet_on))); refine wpQuiet_nil ?_; clear S; intro wq S) | go_big_skip | (refine wpList_ld S ?_) | (refine wpList_ld8 S ?_) | (refine wpList_ld0 ?_) | (refine wpList_ldA S ?_) | (refine wpList_st8 S ?_; (clear S; intro ws S)) | (refine wpList_st S ?_; (clear S; intro ws S)) | (refine wpList_box S ?_; (clear S; intro nb wb hnb S)) | (refine wpList_alloc S ?_; (clear S; intro nb wb hnb S)) | (refine wpList_mk8 S ?_; (clear S; intro nb wb hnb S)) | (refine wpList_mk S ?_; (clear S; intro nb wb hnb S)) | (refine wpList_bs S ?_; (clear S; intro nb wb hnb S)) | (refine wpList_stA S ?_; (clear S; intro ws S; simp only [splice, List.take_zero, List.take_succ_cons, List.drop_succ_cons, List.drop_zero, List.drop_nil, List.length_cons, List.length_nil, Nat.reduceAdd, Nat.zero_add, List.nil_append, List.cons_append, List.append_nil] at S)) | (refine wpList_b2sB S ?_) | (refine wpList_b2sR S ?_) | (refine wpList_ldc S ?_))
  go_wp2_with (first | go_big_skip | go_big_skip | (refine wpList_ld S ?_) | (refine wpList_ld8 S ?_) | (refine wpList_ld0 ?_) | (refine wpList_ldA S ?_) | (refine wpList_st8 S ?_; (clear S; intro ws S)) | (refine wpList_st S ?_; (clear S; intro ws S)) | (refine wpList_box S ?_; (clear S; intro nb wb hnb S)) | (refine wpList_alloc S ?_; (clear S; intro nb wb hnb S)) | (refine wpList_mk8 S ?_; (clear S; intro nb wb hnb S)) | (refine wpList_mk S ?_; (clear S; intro nb wb hnb S)) | (refine wpList_bs S ?_; (clear S; intro nb wb hnb S)) | (refine wpList_stA S ?_; (clear S; intro ws S; simp only [splice, List.take_zero, List.take_succ_cons, List.drop_succ_cons, List.drop_zero, List.drop_nil, List.length_cons, List.length_nil, Nat.reduceAdd, Nat.zero_add, List.nil_append, List.cons_append, List.append_nil] at S)) | (refine wpList_b2sB S ?_) | (refine wpList_b2sR S ?_) | (refine wpList_ldc S ?_))
  have hL : ListAt _ l s := listAt_of S (hE.out.on S.chg) (.tail (.tail .head)) (.tail (.tail (.tail .head)))
  refine Calls.mono (specAt l s ix _ hL hs.out) ?_
  clear hL
  rintro e2 w2 ⟨hA, C⟩
  unfold AtEnd at hA
  rw [hat.out] at hA
  obtain ⟨ob, cb, rfl, hsb⟩ := hA
  have S2 := S.same C.chg
  clear S C hsb
  have S := S2
  clear S2
  go_wp2_with (first | go_big_skip | ((with_reducible show Code.wp _ (Code.region _ _ true) _ _ _); refine St.regionLast S ?_; (repeat (first | (go_big_quiet_step (fail)) | (go_big_quiet_want; (first | refine quiet_ld S ?_ | refine quiet_ld8 S ?_ | refine quiet_ld0 ?_ | refine quiet_ldA S ?_ | refine quiet_b2sB S ?_ | refine quiet_b2sR S ?_ | refine quiet_ldc S ?_); go_big_quiet_on))); refine wpQuiet_nil ?_; clear S; intro wq S) | go_big_skip | (refine wpList_ld S ?_) | (refine wpList_ld8 S ?_) | (refine wpList_ld0 ?_) | (refine wpList_ldA S ?_) | (refine wpList_st8 S ?_; (clear S; intro ws S)) | (refine wpList_st S ?_; (clear S; intro ws S)) | (refine wpList_box S ?_; (clear S; intro nb wb hnb S)) | (refine wpList_alloc S ?_; (clear S; intro nb wb hnb S)) | (refine wpList_mk8 S ?_; (clear S; intro nb wb hnb S)) | (refine wpList_mk S ?_; (clear S; intro nb wb hnb S)) | (refine wpList_bs S ?_; (clear S; intro nb wb hnb S)) | (refine wpList_stA S ?_; (clear S; intro ws S; simp only [splice, List.take_zero, List.take_succ_cons, List.drop_succ_cons, List.drop_zero, List.drop_nil, List.length_cons, List.length_nil, Nat.reduceAdd, Nat.zero_add, List.nil_append, List.cons_append, List.append_nil] at S)) | (refine wpList_b2sB S ?_) | (refine wpList_b2sR S ?_) | (refine wpList_ldc S ?_))
  ((first | go_ret | go_ret2 | go_ret3 | go_end0 | skip); refine hR.out _ _ ?_)
  refine ⟨ev, css, rfl, hE.out, ?_⟩
  exact S.sel (.cons (.tail (.tail (.tail .head))) (.cons (.tail (.tail (.tail .head))) (.weaken (.weaken (.weaken (.refl _))))))

/-- All kinds. -/
theorem ansAll (l : Nat) (T : TypeId) (ev : Value) (s : SL) (css : List (List Value)) (dv : Value) (op : QOp) (an : QAns) (oa : Option Addr) (ca : Nat) (F : List Res) (w0 w : World)
    (S : St w0 [] w (.blk l (.cells (listCells ev s).toArray T (0, 0)) :: .orow 41 2 ev s.ents.length css.flatten :: F)) (hE : Ents w0 s.ents css) (hs : Small s)
    (hsa : Src w0 1 (.slice oa an.data.length ca) an.data.length (u8s an.data)) (hk : op.kind = 1 ∨ op.kind = 2 ∨ op.kind = 3 ∨ op.kind = 4 ∨ op.kind = 5 ∨ op.kind = 6 ∨ op.kind = 7)
    (hl : op.kind = 1 → s.lost = false) (h34 : op.kind = 3 ∨ op.kind = 4 → op.index ≤ 0 ∨ ∃ e, atP s.ents op.index = some e) (hok : okAns s op an) :
    Calls Try.prog 37 #[.pointer (some ⟨l, 0, none⟩), .agg #[.int .i64 op.kind, dv, .int .i64 op.index], .agg #[.int .i64 an.fault, .int .i64 an.number, .slice oa an.data.length ca]] w (AnsEnd l T (answered s op.kind) F w0) := by
  obtain ⟨k, d, ix⟩ := op
  obtain ⟨ft, nm, dt⟩ := an
  obtain ⟨o12, o34, o5, o6, o7⟩ := hok
  simp only at *
  rcases hk with rfl | rfl | rfl | rfl | rfl | rfl | rfl
  · obtain ⟨g1, g2⟩ := o12 (.inl rfl)
    have hl := hl rfl
    cases he : s.ents with
    | nil =>
      obtain rfl := g1 he
      have : answered s 1 = s := by
        unfold answered
        rw [if_pos rfl]
        split
        · rfl
        · cases s with
          | mk a b c d e => simp only at he; rw [he]; rfl
      rw [this]
      exact ansNone 1 (.inl rfl) l T ev s css dv _ ix nm F w0 w S hE he
    | cons e m =>
      obtain ⟨rfl, g3⟩ := g2 e m he
      obtain rfl := g3 hl
      have : answered s 1 = { s with ents := m } := by unfold answered; rw [if_pos rfl, hl, he]; rfl
      rw [this]
      exact ansPop l T ev s css dv ix nm oa ca e m F w0 w S hE he hs hl hsa
  · obtain ⟨g1, g2⟩ := o12 (.inr rfl)
    have : answered s 2 = s := by unfold answered; rw [if_neg (by decide), if_neg (by decide)]
    rw [this]
    cases he : s.ents with
    | nil =>
      obtain rfl := g1 he
      exact ansNone 2 (.inr rfl) l T ev s css dv _ ix nm F w0 w S hE he
    | cons e m =>
      obtain ⟨rfl, g3⟩ := g2 e m he
      cases hl' : s.lost with
      | true => exact ansLost l T ev s css dv _ ix nm F w0 w S hE (by rw [he]; simp) hs hl'
      | false =>
        obtain rfl := g3 hl'
        exact ansPeek l T ev s css dv ix nm oa ca e m F w0 w S hE he hs hl' hsa
  · obtain ⟨g1, g2⟩ := o34 (.inl rfl)
    have : answered s 3 = s := by unfold answered; rw [if_neg (by decide), if_neg (by decide)]
    rw [this]
    cases hat : atP s.ents ix with
    | none =>
      have hix : ix ≤ 0 := by
        rcases h34 (.inl rfl) with h | ⟨e, he⟩
        · exact h
        · rw [hat] at he; cases he
      obtain rfl := g2 hix
      exact ansAtNone 3 (.inl rfl) l T ev s css dv _ ix nm F w0 w S hE hs hat hix
    | some p =>
      obtain ⟨rfl, g3⟩ := g1 p hat
      obtain rfl := g3 rfl
      exact ansAtSome3 l T ev s css dv ix nm oa ca p F w0 w S hE hs hat hsa
  · obtain ⟨g1, g2⟩ := o34 (.inr rfl)
    have : answered s 4 = s := by unfold answered; rw [if_neg (by decide), if_neg (by decide)]
    rw [this]
    cases hat : atP s.ents ix with
    | none =>
      have hix : ix ≤ 0 := by
        rcases h34 (.inr rfl) with h | ⟨e, he⟩
        · exact h
        · rw [hat] at he; cases he
      obtain rfl := g2 hix
      exact ansAtNone 4 (.inr rfl) l T ev s css dv _ ix nm F w0 w S hE hs hat hix
    | some p =>
      obtain ⟨rfl, g3⟩ := g1 p hat
      exact ansAtSome4 l T ev s css dv _ ix nm p F w0 w S hE hs hat
  · obtain ⟨rfl, g2⟩ := o5 rfl
    have : answered s 5 = s := by unfold answered; rw [if_neg (by decide), if_neg (by decide)]
    rw [this]
    exact ansLen l T ev s css dv _ ix nm F w0 w S hE hs g2
  · obtain ⟨rfl, rfl⟩ := o6 rfl
    have : answered s 6 = s := by unfold answered; rw [if_neg (by decide), if_neg (by decide)]
    rw [this]
    exact ansCap l T ev s css dv _ ix F w0 w S hE hs
  · obtain rfl := o7 rfl
    have : answered s 7 = { s with ents := [], lost := false } := by unfold answered; rw [if_neg (by decide), if_pos rfl]
    rw [this]
    exact ansReset l T ev s css dv _ ix nm F w0 w S
end Go.Proofs.Ytkfkcinkkgdebaa
