/- An answer that is none to a push, beside the list. -/
import Derived.Test.YtkfkcinkkgdebaaPb
namespace Go.Proofs.Ytkfkcinkkgdebaa
open Go Go.RowKit Go.Vil
set_option linter.unusedSimpArgs false
set_option linter.unusedVariables false
set_option maxRecDepth 100000

/-- What is left behind: the list as it goes on, and true. -/
def AnsEnd (l : Nat) (T : TypeId) (s : SL) (F : List Res) (w0 : World) (e : Ending) (w' : World) : Prop := ∃ ev' css', e = .returned (.bool true) ∧ Ents w0 s.ents css' ∧
  St w0 [] w' (.blk l (.cells (listCells ev' s).toArray T (0, 0)) :: .orow 41 2 ev' s.ents.length css'.flatten :: F)

set_option maxHeartbeats 1600000 in
theorem ansNone (k : Int) (hk : k = 1 ∨ k = 2) (l : Nat) (T : TypeId) (ev : Value) (s : SL) (css : List (List Value)) (dv av : Value) (ix nm : Int) (F : List Res) (w0 w : World)
    (S : St w0 [] w (.blk l (.cells (listCells ev s).toArray T (0, 0)) :: .orow 41 2 ev s.ents.length css.flatten :: F)) (hE : Ents w0 s.ents css) (he : s.ents = []) :
    Calls Try.prog 37 #[.pointer (some ⟨l, 0, none⟩), .agg #[.int .i64 k, dv, .int .i64 ix], .agg #[.int .i64 1, .int .i64 nm, av]] w (AnsEnd l T s F w0) := by
  obtain ⟨oe, ce, rfl, hce⟩ := S.orowShape (.tail .head)
  have hl0 : s.ents.length = 0 := by rw [he]; rfl
  have hl0' := hidden hl0
  replace he := hidden he
  replace hE := hidden hE
  unfold listCells at S
  rw [hl0] at S
  clear hl0 hce
  refine Calls.cps ?_; intro R hR
  go_enter Try.func37, Try.ntmps37
  rcases hk with rfl | rfl <;> (
    go_wp2_with (first | go_big_skip | ((with_reducible show Code.wp _ (Code.region _ _ true) _ _ _); refine St.regionLast S ?_; (repeat (first | (go_big_quiet_step (fail)) | (go_big_quiet_want; (first | refine quiet_ld S ?_ | refine quiet_ld8 S ?_ | refine quiet_ld0 ?_ | refine quiet_ldA S ?_ | refine quiet_b2sB S ?_ | refine quiet_b2sR S ?_ | refine quiet_ldc S ?_); go_big_quiet_on))); refine wpQuiet_nil ?_; clear S; intro wq S) | go_big_skip | (refine wpList_ld S ?_) | (refine wpList_ld8 S ?_) | (refine wpList_ld0 ?_) | (refine wpList_ldA S ?_) | (refine wpList_st8 S ?_; (clear S; intro ws S)) | (refine wpList_st S ?_; (clear S; intro ws S)) | (refine wpList_box S ?_; (clear S; intro nb wb hnb S)) | (refine wpList_alloc S ?_; (clear S; intro nb wb hnb S)) | (refine wpList_mk8 S ?_; (clear S; intro nb wb hnb S)) | (refine wpList_mk S ?_; (clear S; intro nb wb hnb S)) | (refine wpList_bs S ?_; (clear S; intro nb wb hnb S)) | (refine wpList_stA S ?_; (clear S; intro ws S; simp only [splice, List.take_zero, List.take_succ_cons, List.drop_succ_cons, List.drop_zero, List.drop_nil, List.length_cons, List.length_nil, Nat.reduceAdd, Nat.zero_add, List.nil_append, List.cons_append, List.append_nil] at S)) | (refine wpList_b2sB S ?_) | (refine wpList_b2sR S ?_) | (refine wpList_ldc S ?_))
    ((first | go_ret | go_ret2 | go_ret3 | go_end0 | skip); refine hR.out _ _ ?_)
    refine ⟨.slice oe 0 ce, css, rfl, hE.out, ?_⟩
    rw [hl0'.out]
    exact S.sel (.cons (.tail (.tail .head)) (.cons (.tail (.tail .head)) (.weaken (.weaken (.refl _))))))

/-- Kinds 1 and 2 where there is something, and which one is the oldest is said. -/
theorem ents_shape {w0 : World} {s : SL} {css : List (List Value)} (hE : Ents w0 s.ents css) {e : Nat × List UInt8} {m : List (Nat × List UInt8)} (he : s.ents = e :: m) :
    ∃ oa c csm, css = [.int .i64 (e.1 : Nat), .slice oa e.2.length c] :: csm ∧ Src w0 1 (.slice oa e.2.length c) e.2.length (u8s e.2) ∧ e.2.length ≤ c ∧ Ents w0 m csm := by
  rw [he] at hE
  unfold Ents at hE
  cases css with
  | nil => exact absurd hE (by simp [Each])
  | cons cs csm =>
    obtain ⟨⟨⟨oa, c, rfl, h1, h2⟩, _⟩, h4⟩ := hE
    exact ⟨oa, c, csm, rfl, h1, h2, h4⟩

set_option maxHeartbeats 3200000 in
theorem ansLost (l : Nat) (T : TypeId) (ev : Value) (s : SL) (css : List (List Value)) (dv av : Value) (ix nm : Int) (F : List Res) (w0 w : World)
    (S : St w0 [] w (.blk l (.cells (listCells ev s).toArray T (0, 0)) :: .orow 41 2 ev s.ents.length css.flatten :: F)) (hE : Ents w0 s.ents css) (hn : s.ents ≠ []) (hs : Small s) (hl : s.lost = true) :
    Calls Try.prog 37 #[.pointer (some ⟨l, 0, none⟩), .agg #[.int .i64 2, dv, .int .i64 ix], .agg #[.int .i64 0, .int .i64 nm, av]] w (AnsEnd l T s F w0) := by
  obtain ⟨oe, ce, rfl, hce⟩ := S.orowShape (.tail .head)
  have hlen := hs.1
  have hn0 : 0 < s.ents.length := List.length_pos_iff.2 hn
  have hbb : ((s.ents.length : Int) == 0) = false := by (simp only [beq_eq_false_iff_ne, ne_eq]; omega)
  have hl1 := hidden hl
  replace hE := hidden hE
  clear hn
  refine Calls.cps ?_; intro R hR
  go_enter Try.func37, Try.ntmps37
  unfold listCells at S
  rw [hl] at S
  clear hl
  go_wp2_with (first | go_big_skip | ((with_reducible show Code.wp _ (Code.region _ _ true) _ _ _); refine St.regionLast S ?_; (repeat (first | (go_big_quiet_step (fail)) | (go_big_quiet_want; (first | refine quiet_ld S ?_ | refine quiet_ld8 S ?_ | refine quiet_ld0 ?_ | refine quiet_ldA S ?_ | refine quiet_b2sB S ?_ | refine quiet_b2sR S ?_ | refine quiet_ldc S ?_); go_big_quiet_on))); refine wpQuiet_nil ?_; clear S; intro wq S) | go_big_skip | (refine wpList_ld S ?_) | (refine wpList_ld8 S ?_) | (refine wpList_ld0 ?_) | (refine wpList_ldA S ?_) | (refine wpList_st8 S ?_; (clear S; intro ws S)) | (refine wpList_st S ?_; (clear S; intro ws S)) | (refine wpList_box S ?_; (clear S; intro nb wb hnb S)) | (refine wpList_alloc S ?_; (clear S; intro nb wb hnb S)) | (refine wpList_mk8 S ?_; (clear S; intro nb wb hnb S)) | (refine wpList_mk S ?_; (clear S; intro nb wb hnb S)) | (refine wpList_bs S ?_; (clear S; intro nb wb hnb S)) | (refine wpList_stA S ?_; (clear S; intro ws S; simp only [splice, List.take_zero, List.take_succ_cons, List.drop_succ_cons, List.drop_zero, List.drop_nil, List.length_cons, List.length_nil, Nat.reduceAdd, Nat.zero_add, List.nil_append, List.cons_append, List.append_nil] at S)) | (refine wpList_b2sB S ?_) | (refine wpList_b2sR S ?_) | (refine wpList_ldc S ?_))
  ((first | go_ret | go_ret2 | go_ret3 | go_end0 | skip); refine hR.out _ _ ?_)
  refine ⟨.slice oe s.ents.length ce, css, rfl, hE.out, ?_⟩
  unfold listCells
  rw [hl1.out]
  exact S.sel (.cons (.tail (.tail .head)) (.cons (.tail (.tail .head)) (.weaken (.weaken (.refl _)))))

set_option maxHeartbeats 3200000 in
theorem ansPeek (l : Nat) (T : TypeId) (ev : Value) (s : SL) (css : List (List Value)) (dv : Value) (ix nm : Int) (oa : Option Addr) (ca : Nat) (e : Nat × List UInt8) (m : List (Nat × List UInt8)) (F : List Res) (w0 w : World)
    (S : St w0 [] w (.blk l (.cells (listCells ev s).toArray T (0, 0)) :: .orow 41 2 ev s.ents.length css.flatten :: F)) (hE : Ents w0 s.ents css) (he : s.ents = e :: m) (hs : Small s) (hl : s.lost = false)
    (hsa : Src w0 1 (.slice oa e.2.length ca) e.2.length (u8s e.2)) :
    Calls Try.prog 37 #[.pointer (some ⟨l, 0, none⟩), .agg #[.int .i64 2, dv, .int .i64 ix], .agg #[.int .i64 0, .int .i64 nm, .slice oa e.2.length ca]] w (AnsEnd l T s F w0) := by
  obtain ⟨ob, cb, csm, rfl, hsb, hcb, hEm⟩ := ents_shape hE he
  have hne : e.2.length ≤ 16382 := by have := (hs.2.2.2 e (by rw [he]; exact List.mem_cons_self)).2; omega
  have hne1 : e.1 ≤ 1073741824 := (hs.2.2.2 e (by rw [he]; exact List.mem_cons_self)).1
  have hhd := S.orowSrc (.tail .head) hE.one
  obtain ⟨oe, ce, rfl, hce⟩ := S.orowShape (.tail .head)
  have hlen := hs.1
  have hn0 : 0 < s.ents.length := by rw [he]; simp
  have hbb : ((s.ents.length : Int) == 0) = false := by (simp only [beq_eq_false_iff_ne, ne_eq]; omega)
  have hl1 := hidden hl
  replace hE := hidden hE
  replace hsb := hidden hsb
  replace hsa := hidden hsa
  replace he := hidden he
  replace hEm := hidden hEm
  obtain ⟨ad, rfl⟩ : ∃ ad, oe = some ad := by
    cases oe with
    | some ad => exact ⟨ad, rfl⟩
    | none => have := (hhd.2.2 : _ ∧ _).2; simp at this
  refine Calls.cps ?_; intro R hR
  go_enter Try.func37, Try.ntmps37
  unfold listCells at S
  rw [hl] at S
  clear hl
  go_wp2_with (first | go_big_skip | (refine wpList_ldO0 S ?_ (cs := [.int .i64 (e.1 : Nat), .slice ob e.2.length cb]) rfl ⟨csm.flatten, rfl⟩ rfl) | go_big_skip | (refine wpList_ld S ?_) | (refine wpList_ld8 S ?_) | (refine wpList_ld0 ?_) | (refine wpList_ldA S ?_) | (refine wpList_st8 S ?_; (clear S; intro ws S)) | (refine wpList_st S ?_; (clear S; intro ws S)) | (refine wpList_box S ?_; (clear S; intro nb wb hnb S)) | (refine wpList_alloc S ?_; (clear S; intro nb wb hnb S)) | (refine wpList_mk8 S ?_; (clear S; intro nb wb hnb S)) | (refine wpList_mk S ?_; (clear S; intro nb wb hnb S)) | (refine wpList_bs S ?_; (clear S; intro nb wb hnb S)) | (refine wpList_stA S ?_; (clear S; intro ws S; simp only [splice, List.take_zero, List.take_succ_cons, List.drop_succ_cons, List.drop_zero, List.drop_nil, List.length_cons, List.length_nil, Nat.reduceAdd, Nat.zero_add, List.nil_append, List.cons_append, List.append_nil] at S)) | (refine wpList_b2sB S ?_) | (refine wpList_b2sR S ?_) | (refine wpList_ldc S ?_))
  refine Calls.mono (sameBytes (.bool true) (.bool true) e.2 e.2 oa ob ca cb _ (hsa.out.on S.chg) (hsb.out.on S.chg) (by omega)) ?_
  rintro e2 w2 ⟨rfl, C⟩
  have S2 := S.same C.chg
  clear S C
  have S := S2
  clear S2
  have hbt : decide (e.2 = e.2) = true := by simp
  rw [hbt]
  clear hbt
  go_wp2_with (first | go_big_skip | ((with_reducible show Code.wp _ (Code.region _ _ true) _ _ _); refine St.regionLast S ?_; (repeat (first | (go_big_quiet_step (fail)) | (go_big_quiet_want; (first | refine quiet_ld S ?_ | refine quiet_ld8 S ?_ | refine quiet_ld0 ?_ | refine quiet_ldA S ?_ | refine quiet_b2sB S ?_ | refine quiet_b2sR S ?_ | refine quiet_ldc S ?_); go_big_quiet_on))); refine wpQuiet_nil ?_; clear S; intro wq S) | go_big_skip | (refine wpList_ld S ?_) | (refine wpList_ld8 S ?_) | (refine wpList_ld0 ?_) | (refine wpList_ldA S ?_) | (refine wpList_st8 S ?_; (clear S; intro ws S)) | (refine wpList_st S ?_; (clear S; intro ws S)) | (refine wpList_box S ?_; (clear S; intro nb wb hnb S)) | (refine wpList_alloc S ?_; (clear S; intro nb wb hnb S)) | (refine wpList_mk8 S ?_; (clear S; intro nb wb hnb S)) | (refine wpList_mk S ?_; (clear S; intro nb wb hnb S)) | (refine wpList_bs S ?_; (clear S; intro nb wb hnb S)) | (refine wpList_stA S ?_; (clear S; intro ws S; simp only [splice, List.take_zero, List.take_succ_cons, List.drop_succ_cons, List.drop_zero, List.drop_nil, List.length_cons, List.length_nil, Nat.reduceAdd, Nat.zero_add, List.nil_append, List.cons_append, List.append_nil] at S)) | (refine wpList_b2sB S ?_) | (refine wpList_b2sR S ?_) | (refine wpList_ldc S ?_))
  ((first | go_ret | go_ret2 | go_ret3 | go_end0 | skip); refine hR.out _ _ ?_)
  refine ⟨.slice (some ad) s.ents.length ce, _, rfl, hE.out, ?_⟩
  unfold listCells
  rw [hl1.out]
  exact S.sel (.cons (.tail (.tail (.tail .head))) (.cons (.tail (.tail (.tail .head))) (.weaken (.weaken (.weaken (.refl _))))))

set_option maxHeartbeats 3200000 in
theorem ansPop (l : Nat) (T : TypeId) (ev : Value) (s : SL) (css : List (List Value)) (dv : Value) (ix nm : Int) (oa : Option Addr) (ca : Nat) (e : Nat × List UInt8) (m : List (Nat × List UInt8)) (F : List Res) (w0 w : World)
    (S : St w0 [] w (.blk l (.cells (listCells ev s).toArray T (0, 0)) :: .orow 41 2 ev s.ents.length css.flatten :: F)) (hE : Ents w0 s.ents css) (he : s.ents = e :: m) (hs : Small s) (hl : s.lost = false)
    (hsa : Src w0 1 (.slice oa e.2.length ca) e.2.length (u8s e.2)) :
    Calls Try.prog 37 #[.pointer (some ⟨l, 0, none⟩), .agg #[.int .i64 1, dv, .int .i64 ix], .agg #[.int .i64 0, .int .i64 nm, .slice oa e.2.length ca]] w (AnsEnd l T { s with ents := m } F w0) := by
  obtain ⟨ob, cb, csm, rfl, hsb, hcb, hEm⟩ := ents_shape hE he
  have hne : e.2.length ≤ 16382 := by have := (hs.2.2.2 e (by rw [he]; exact List.mem_cons_self)).2; omega
  have hne1 : e.1 ≤ 1073741824 := (hs.2.2.2 e (by rw [he]; exact List.mem_cons_self)).1
  have hhd := S.orowSrc (.tail .head) hE.one
  obtain ⟨oe, ce, rfl, hce⟩ := S.orowShape (.tail .head)
  have hlen := hs.1
  have hn0 : 0 < s.ents.length := by rw [he]; simp
  have hnm := hidden (show s.ents.length - 1 = m.length by rw [he]; simp)
  have hbb : ((s.ents.length : Int) == 0) = false := by (simp only [beq_eq_false_iff_ne, ne_eq]; omega)
  have hl1 := hidden hl
  replace hE := hidden hE
  replace hsb := hidden hsb
  replace hsa := hidden hsa
  replace he := hidden he
  replace hEm := hidden hEm
  obtain ⟨ad, rfl⟩ : ∃ ad, oe = some ad := by
    cases oe with
    | some ad => exact ⟨ad, rfl⟩
    | none => have := (hhd.2.2 : _ ∧ _).2; simp at this
  refine Calls.cps ?_; intro R hR
  go_enter Try.func37, Try.ntmps37
  unfold listCells at S
  rw [hl] at S
  clear hl
  go_wp2_with (first | go_big_skip | (refine wpList_ldO0 S ?_ (cs := [.int .i64 (e.1 : Nat), .slice ob e.2.length cb]) rfl ⟨csm.flatten, rfl⟩ rfl) | go_big_skip | (refine wpList_ld S ?_) | (refine wpList_ld8 S ?_) | (refine wpList_ld0 ?_) | (refine wpList_ldA S ?_) | (refine wpList_st8 S ?_; (clear S; intro ws S)) | (refine wpList_st S ?_; (clear S; intro ws S)) | (refine wpList_box S ?_; (clear S; intro nb wb hnb S)) | (refine wpList_alloc S ?_; (clear S; intro nb wb hnb S)) | (refine wpList_mk8 S ?_; (clear S; intro nb wb hnb S)) | (refine wpList_mk S ?_; (clear S; intro nb wb hnb S)) | (refine wpList_bs S ?_; (clear S; intro nb wb hnb S)) | (refine wpList_stA S ?_; (clear S; intro ws S; simp only [splice, List.take_zero, List.take_succ_cons, List.drop_succ_cons, List.drop_zero, List.drop_nil, List.length_cons, List.length_nil, Nat.reduceAdd, Nat.zero_add, List.nil_append, List.cons_append, List.append_nil] at S)) | (refine wpList_b2sB S ?_) | (refine wpList_b2sR S ?_) | (refine wpList_ldc S ?_) | (refine wpList_slcOR S 1 ?_; (clear S; intro va wa hva S; obtain ⟨ov, cv, rfl, hcv⟩ := hva)))
  refine Calls.mono (sameBytes (.bool true) (.bool true) e.2 e.2 oa ob ca cb _ (hsa.out.on S.chg) (hsb.out.on S.chg) (by omega)) ?_
  rintro e2 w2 ⟨rfl, C⟩
  have S2 := S.same C.chg
  clear S C
  have S := S2
  clear S2
  have hbt : decide (e.2 = e.2) = true := by simp
  rw [hbt]
  clear hbt
  go_wp2_with (first | go_big_skip | ((with_reducible show Code.wp _ (Code.region _ _ true) _ _ _); refine St.regionLast S ?_; (repeat (first | (go_big_quiet_step (fail)) | (go_big_quiet_want; (first | refine quiet_ld S ?_ | refine quiet_ld8 S ?_ | refine quiet_ld0 ?_ | refine quiet_ldA S ?_ | refine quiet_b2sB S ?_ | refine quiet_b2sR S ?_ | refine quiet_ldc S ?_); go_big_quiet_on))); refine wpQuiet_nil ?_; clear S; intro wq S) | go_big_skip | (refine wpList_ld S ?_) | (refine wpList_ld8 S ?_) | (refine wpList_ld0 ?_) | (refine wpList_ldA S ?_) | (refine wpList_st8 S ?_; (clear S; intro ws S)) | (refine wpList_st S ?_; (clear S; intro ws S)) | (refine wpList_box S ?_; (clear S; intro nb wb hnb S)) | (refine wpList_alloc S ?_; (clear S; intro nb wb hnb S)) | (refine wpList_mk8 S ?_; (clear S; intro nb wb hnb S)) | (refine wpList_mk S ?_; (clear S; intro nb wb hnb S)) | (refine wpList_bs S ?_; (clear S; intro nb wb hnb S)) | (refine wpList_stA S ?_; (clear S; intro ws S; simp only [splice, List.take_zero, List.take_succ_cons, List.drop_succ_cons, List.drop_zero, List.drop_nil, List.length_cons, List.length_nil, Nat.reduceAdd, Nat.zero_add, List.nil_append, List.cons_append, List.append_nil] at S)) | (refine wpList_b2sB S ?_) | (refine wpList_b2sR S ?_) | (refine wpList_ldc S ?_))
  ((first | go_ret | go_ret2 | go_ret3 | go_end0 | skip); refine hR.out _ _ ?_)
  refine ⟨.slice ov (s.ents.length - 1) cv, csm, rfl, hEm.out, ?_⟩
  show St w0 [] w2 (.blk l (.cells [.slice ov (s.ents.length - 1) cv, .int .i64 s.cap, .int .i64 s.most, .bool s.lost, .bool s.ended].toArray T (0, 0)) :: .orow 41 2 (.slice ov (s.ents.length - 1) cv) m.length csm.flatten :: F)
  rw [hl1.out, ← hnm.out]
  exact S.sel (.cons (.tail (.tail (.tail (.tail .head)))) (.cons .head (.weaken (.weaken (.weaken (.refl _))))))

set_option maxHeartbeats 3200000 in
theorem ansLen (l : Nat) (T : TypeId) (ev : Value) (s : SL) (css : List (List Value)) (dv av : Value) (ix nm : Int) (F : List Res) (w0 w : World)
    (S : St w0 [] w (.blk l (.cells (listCells ev s).toArray T (0, 0)) :: .orow 41 2 ev s.ents.length css.flatten :: F)) (hE : Ents w0 s.ents css) (hs : Small s) (hnm : s.lost = false → nm = s.ents.length) :
    Calls Try.prog 37 #[.pointer (some ⟨l, 0, none⟩), .agg #[.int .i64 5, dv, .int .i64 ix], .agg #[.int .i64 0, .int .i64 nm, av]] w (AnsEnd l T s F w0) := by
  obtain ⟨oe, ce, rfl, hce⟩ := S.orowShape (.tail .head)
  have hlen := hs.1
  replace hE := hidden hE
  replace hnm := hidden hnm
  cases hl : s.lost with
  | true =>
    have hl1 := hidden hl
    refine Calls.cps ?_; intro R hR
    go_enter Try.func37, Try.ntmps37
    unfold listCells at S
    rw [hl] at S
    clear hl
    go_wp2_with (first | go_big_skip | ((with_reducible show Code.wp _ (Code.region _ _ true) _ _ _); refine St.regionLast S ?_; (repeat (first | (go_big_quiet_step (fail)) | (go_big_quiet_want; (first | refine quiet_ld S ?_ | refine quiet_ld8 S ?_ | refine quiet_ld0 ?_ | refine quiet_ldA S ?_ | refine quiet_b2sB S ?_ | refine quiet_b2sR S ?_ | refine quiet_ldc S ?_); go_big_quiet_on))); refine wpQuiet_nil ?_; clear S; intro wq S) | go_big_skip | (refine wpList_ld S ?_) | (refine wpList_ld8 S ?_) | (refine wpList_ld0 ?_) | (refine wpList_ldA S ?_) | (refine wpList_st8 S ?_; (clear S; intro ws S)) | (refine wpList_st S ?_; (clear S; intro ws S)) | (refine wpList_box S ?_; (clear S; intro nb wb hnb S)) | (refine wpList_alloc S ?_; (clear S; intro nb wb hnb S)) | (refine wpList_mk8 S ?_; (clear S; intro nb wb hnb S)) | (refine wpList_mk S ?_; (clear S; intro nb wb hnb S)) | (refine wpList_bs S ?_; (clear S; intro nb wb hnb S)) | (refine wpList_stA S ?_; (clear S; intro ws S; simp only [splice, List.take_zero, List.take_succ_cons, List.drop_succ_cons, List.drop_zero, List.drop_nil, List.length_cons, List.length_nil, Nat.reduceAdd, Nat.zero_add, List.nil_append, List.cons_append, List.append_nil] at S)) | (refine wpList_b2sB S ?_) | (refine wpList_b2sR S ?_) | (refine wpList_ldc S ?_))
    ((first | go_ret | go_ret2 | go_ret3 | go_end0 | skip); refine hR.out _ _ ?_)
    refine ⟨.slice oe s.ents.length ce, css, rfl, hE.out, ?_⟩
    unfold listCells
    rw [hl1.out]
    exact S.sel (.cons (.tail (.tail .head)) (.cons (.tail (.tail .head)) (.weaken (.weaken (.refl _)))))
  | false =>
    have hl1 := hidden hl
    obtain rfl := hnm.out hl
    refine Calls.cps ?_; intro R hR
    go_enter Try.func37, Try.ntmps37
    unfold listCells at S
    rw [hl] at S
    clear hl
    go_wp2_with (first | go_big_skip | ((with_reducible show Code.wp _ (Code.region _ _ true) _ _ _); refine St.regionLast S ?_; (repeat (first | (go_big_quiet_step (fail)) | (go_big_quiet_want; (first | refine quiet_ld S ?_ | refine quiet_ld8 S ?_ | refine quiet_ld0 ?_ | refine quiet_ldA S ?_ | refine quiet_b2sB S ?_ | refine quiet_b2sR S ?_ | refine quiet_ldc S ?_); go_big_quiet_on))); refine wpQuiet_nil ?_; clear S; intro wq S) | go_big_skip | (refine wpList_ld S ?_) | (refine wpList_ld8 S ?_) | (refine wpList_ld0 ?_) | (refine wpList_ldA S ?_) | (refine wpList_st8 S ?_; (clear S; intro ws S)) | (refine wpList_st S ?_; (clear S; intro ws S)) | (refine wpList_box S ?_; (clear S; intro nb wb hnb S)) | (refine wpList_alloc S ?_; (clear S; intro nb wb hnb S)) | (refine wpList_mk8 S ?_; (clear S; intro nb wb hnb S)) | (refine wpList_mk S ?_; (clear S; intro nb wb hnb S)) | (refine wpList_bs S ?_; (clear S; intro nb wb hnb S)) | (refine wpList_stA S ?_; (clear S; intro ws S; simp only [splice, List.take_zero, List.take_succ_cons, List.drop_succ_cons, List.drop_zero, List.drop_nil, List.length_cons, List.length_nil, Nat.reduceAdd, Nat.zero_add, List.nil_append, List.cons_append, List.append_nil] at S)) | (refine wpList_b2sB S ?_) | (refine wpList_b2sR S ?_) | (refine wpList_ldc S ?_))
    ((first | go_ret | go_ret2 | go_ret3 | go_end0 | skip); refine hR.out _ _ ?_)
    refine ⟨.slice oe s.ents.length ce, css, retB (by simp), hE.out, ?_⟩
    unfold listCells
    rw [hl1.out]
    exact S.sel (.cons (.tail (.tail .head)) (.cons (.tail (.tail .head)) (.weaken (.weaken (.refl _)))))

set_option maxHeartbeats 3200000 in
theorem ansCap (l : Nat) (T : TypeId) (ev : Value) (s : SL) (css : List (List Value)) (dv av : Value) (ix : Int) (F : List Res) (w0 w : World)
    (S : St w0 [] w (.blk l (.cells (listCells ev s).toArray T (0, 0)) :: .orow 41 2 ev s.ents.length css.flatten :: F)) (hE : Ents w0 s.ents css) (hs : Small s) :
    Calls Try.prog 37 #[.pointer (some ⟨l, 0, none⟩), .agg #[.int .i64 6, dv, .int .i64 ix], .agg #[.int .i64 0, .int .i64 s.cap, av]] w (AnsEnd l T s F w0) := by
  replace hE := hidden hE
  refine Calls.cps ?_; intro R hR
  go_enter Try.func37, Try.ntmps37
  unfold listCells at S
  go_wp2_with (first | go_big_skip | ((with_reducible show Code.wp _ (Code.region _ _ true) _ _ _); refine St.regionLast S ?_; (repeat (first | (go_big_quiet_step (fail)) | (go_big_quiet_want; (first | refine quiet_ld S ?_ | refine quiet_ld8 S ?_ | refine quiet_ld0 ?_ | refine quiet_ldA S ?_ | refine quiet_b2sB S ?_ | refine quiet_b2sR S ?_ | refine quiet_ldc S ?_); go_big_quiet_on))); refine wpQuiet_nil ?_; clear S; intro wq S) | go_big_skip | (refine wpList_ld S ?_) | (refine wpList_ld8 S ?_) | (refine wpList_ld0 ?_) | (refine wpList_ldA S ?_) | (refine wpList_st8 S ?_; (clear S; intro ws S)) | (refine wpList_st S ?_; (clear S; intro ws S)) | (refine wpList_box S ?_; (clear S; intro nb wb hnb S)) | (refine wpList_alloc S ?_; (clear S; intro nb wb hnb S)) | (refine wpList_mk8 S ?_; (clear S; intro nb wb hnb S)) | (refine wpList_mk S ?_; (clear S; intro nb wb hnb S)) | (refine wpList_bs S ?_; (clear S; intro nb wb hnb S)) | (refine wpList_stA S ?_; (clear S; intro ws S; simp only [splice, List.take_zero, List.take_succ_cons, List.drop_succ_cons, List.drop_zero, List.drop_nil, List.length_cons, List.length_nil, Nat.reduceAdd, Nat.zero_add, List.nil_append, List.cons_append, List.append_nil] at S)) | (refine wpList_b2sB S ?_) | (refine wpList_b2sR S ?_) | (refine wpList_ldc S ?_))
  ((first | go_ret | go_ret2 | go_ret3 | go_end0 | skip); refine hR.out _ _ ?_)
  refine ⟨ev, css, retB (by simp), hE.out, ?_⟩
  unfold listCells
  exact S.sel (.cons (.tail (.tail .head)) (.cons (.tail (.tail .head)) (.weaken (.weaken (.refl _)))))

set_option maxHeartbeats 3200000 in
theorem ansReset (l : Nat) (T : TypeId) (ev : Value) (s : SL) (css : List (List Value)) (dv av : Value) (ix nm : Int) (F : List Res) (w0 w : World)
    (S : St w0 [] w (.blk l (.cells (listCells ev s).toArray T (0, 0)) :: .orow 41 2 ev s.ents.length css.flatten :: F)) :
    Calls Try.prog 37 #[.pointer (some ⟨l, 0, none⟩), .agg #[.int .i64 7, dv, .int .i64 ix], .agg #[.int .i64 0, .int .i64 nm, av]] w (AnsEnd l T { s with ents := [], lost := false } F w0) := by
  refine Calls.cps ?_; intro R hR
  go_enter Try.func37, Try.ntmps37
  unfold listCells at S
  go_wp2_with (first | go_big_skip | ((with_reducible show Code.wp _ (Code.region _ _ true) _ _ _); refine St.regionLast S ?_; (repeat (first | (go_big_quiet_step (fail)) | (go_big_quiet_want; (first | refine quiet_ld S ?_ | refine quiet_ld8 S ?_ | refine quiet_ld0 ?_ | refine quiet_ldA S ?_ | refine quiet_b2sB S ?_ | refine quiet_b2sR S ?_ | refine quiet_ldc S ?_); go_big_quiet_on))); refine wpQuiet_nil ?_; clear S; intro wq S) | go_big_skip | (refine wpList_ld S ?_) | (refine wpList_ld8 S ?_) | (refine wpList_ld0 ?_) | (refine wpList_ldA S ?_) | (refine wpList_st8 S ?_; (clear S; intro ws S)) | (refine wpList_st S ?_; (clear S; intro ws S)) | (refine wpList_box S ?_; (clear S; intro nb wb hnb S)) | (refine wpList_alloc S ?_; (clear S; intro nb wb hnb S)) | (refine wpList_mk8 S ?_; (clear S; intro nb wb hnb S)) | (refine wpList_mk S ?_; (clear S; intro nb wb hnb S)) | (refine wpList_bs S ?_; (clear S; intro nb wb hnb S)) | (refine wpList_stA S ?_; (clear S; intro ws S; simp only [splice, List.take_zero, List.take_succ_cons, List.drop_succ_cons, List.drop_zero, List.drop_nil, List.length_cons, List.length_nil, Nat.reduceAdd, Nat.zero_add, List.nil_append, List.cons_append, List.append_nil] at S)) | (refine wpList_b2sB S ?_) | (refine wpList_b2sR S ?_) | (refine wpList_ldc S ?_))
  ((first | go_ret | go_ret2 | go_ret3 | go_end0 | skip); refine hR.out _ _ ?_)
  have S := S.nilORow 41 2
  refine ⟨.slice none 0 0, [], rfl, trivial, ?_⟩
  unfold listCells
  exact S.sel (.cons (.tail (.tail (.tail .head))) (.cons .head (.weaken (.weaken (.weaken (.refl _))))))

set_option maxHeartbeats 3200000 in
theorem ansAtNone (k : Int) (hk : k = 3 ∨ k = 4) (l : Nat) (T : TypeId) (ev : Value) (s : SL) (css : List (List Value)) (dv av : Value) (ix nm : Int) (F : List Res) (w0 w : World)
    (S : St w0 [] w (.blk l (.cells (listCells ev s).toArray T (0, 0)) :: .orow 41 2 ev s.ents.length css.flatten :: F)) (hE : Ents w0 s.ents css) (hs : Small s) (hat : atP s.ents ix = none) (hix : ix ≤ 0) :
    Calls Try.prog 37 #[.pointer (some ⟨l, 0, none⟩), .agg #[.int .i64 k, dv, .int .i64 ix], .agg #[.int .i64 1, .int .i64 nm, av]] w (AnsEnd l T s F w0) := by
  replace hE := hidden hE
  replace hs := hidden hs
  replace hat := hidden hat
  have hix2 : ¬ 0 < ix := by omega
  refine Calls.cps ?_; intro R hR
  go_enter Try.func37, Try.ntmps37
  rcases hk with rfl | rfl <;> (
    go_upto_region 14 with (first | go_big_skip | ((with_reducible show Code.wp _ (Code.region _ _ true) _ _ _); refine St.regionLast S ?_; (repeat (first | (go_big_quiet_step (fail)) | (go_big_quiet_want; (first | refine quiet_ld S ?_ | refine quiet_ld8 S ?_ | refine quiet_ld0 ?_ | refine quiet_ldA S ?_ | refine quiet_b2sB S ?_ | refine quiet_b2sR S ?_ | refine quiet_ldc S ?_); go_big_quiet_on))); refine wpQuiet_nil ?_; clear S; intro wq S) | go_big_skip | (refine wpList_ld S ?_) | (refine wpList_ld8 S ?_) | (refine wpList_ld0 ?_) | (refine wpList_ldA S ?_) | (refine wpList_st8 S ?_; (clear S; intro ws S)) | (refine wpList_st S ?_; (clear S; intro ws S)) | (refine wpList_box S ?_; (clear S; intro nb wb hnb S)) | (refine wpList_alloc S ?_; (clear S; intro nb wb hnb S)) | (refine wpList_mk8 S ?_; (clear S; intro nb wb hnb S)) | (refine wpList_mk S ?_; (clear S; intro nb wb hnb S)) | (refine wpList_bs S ?_; (clear S; intro nb wb hnb S)) | (refine wpList_stA S ?_; (clear S; intro ws S; simp only [splice, List.take_zero, List.take_succ_cons, List.drop_succ_cons, List.drop_zero, List.drop_nil, List.length_cons, List.length_nil, Nat.reduceAdd, Nat.zero_add, List.nil_append, List.cons_append, List.append_nil] at S)) | (refine wpList_b2sB S ?_) | (refine wpList_b2sR S ?_) | (refine wpList_ldc S ?_))
    go_wp2_with (first | go_big_skip | go_big_skip | (refine wpList_ld S ?_) | (refine wpList_ld8 S ?_) | (refine wpList_ld0 ?_) | (refine wpList_ldA S ?_) | (refine wpList_st8 S ?_; (clear S; intro ws S)) | (refine wpList_st S ?_; (clear S; intro ws S)) | (refine wpList_box S ?_; (clear S; intro nb wb hnb S)) | (refine wpList_alloc S ?_; (clear S; intro nb wb hnb S)) | (refine wpList_mk8 S ?_; (clear S; intro nb wb hnb S)) | (refine wpList_mk S ?_; (clear S; intro nb wb hnb S)) | (refine wpList_bs S ?_; (clear S; intro nb wb hnb S)) | (refine wpList_stA S ?_; (clear S; intro ws S; simp only [splice, List.take_zero, List.take_succ_cons, List.drop_succ_cons, List.drop_zero, List.drop_nil, List.length_cons, List.length_nil, Nat.reduceAdd, Nat.zero_add, List.nil_append, List.cons_append, List.append_nil] at S)) | (refine wpList_b2sB S ?_) | (refine wpList_b2sR S ?_) | (refine wpList_ldc S ?_))
    have hL : ListAt _ l s := listAt_of S (hE.out.on S.chg) (.tail (.tail .head)) (.tail (.tail (.tail .head)))
    refine Calls.mono (specAt l s ix _ hL hs.out) ?_
    clear hL
    rintro e2 w2 ⟨hA, C⟩
    unfold AtEnd at hA
    rw [hat.out] at hA
    subst hA
    have S2 := S.same C.chg
    clear S C
    have S := S2
    clear S2
    go_wp2_with (first | go_big_skip | ((with_reducible show Code.wp _ (Code.region _ _ true) _ _ _); refine St.regionLast S ?_; (repeat (first | (go_big_quiet_step (fail)) | (go_big_quiet_want; (first | refine quiet_ld S ?_ | refine quiet_ld8 S ?_ | refine quiet_ld0 ?_ | refine quiet_ldA S ?_ | refine quiet_b2sB S ?_ | refine quiet_b2sR S ?_ | refine quiet_ldc S ?_); go_big_quiet_on))); refine wpQuiet_nil ?_; clear S; intro wq S) | go_big_skip | (refine wpList_ld S ?_) | (refine wpList_ld8 S ?_) | (refine wpList_ld0 ?_) | (refine wpList_ldA S ?_) | (refine wpList_st8 S ?_; (clear S; intro ws S)) | (refine wpList_st S ?_; (clear S; intro ws S)) | (refine wpList_box S ?_; (clear S; intro nb wb hnb S)) | (refine wpList_alloc S ?_; (clear S; intro nb wb hnb S)) | (refine wpList_mk8 S ?_; (clear S; intro nb wb hnb S)) | (refine wpList_mk S ?_; (clear S; intro nb wb hnb S)) | (refine wpList_bs S ?_; (clear S; intro nb wb hnb S)) | (refine wpList_stA S ?_; (clear S; intro ws S; simp only [splice, List.take_zero, List.take_succ_cons, List.drop_succ_cons, List.drop_zero, List.drop_nil, List.length_cons, List.length_nil, Nat.reduceAdd, Nat.zero_add, List.nil_append, List.cons_append, List.append_nil] at S)) | (refine wpList_b2sB S ?_) | (refine wpList_b2sR S ?_) | (refine wpList_ldc S ?_))
    ((first | go_ret | go_ret2 | go_ret3 | go_end0 | skip); refine hR.out _ _ ?_)
    refine ⟨ev, css, rfl, hE.out, ?_⟩
    exact S.sel (.cons (.tail (.tail (.tail .head))) (.cons (.tail (.tail (.tail .head))) (.weaken (.weaken (.weaken (.refl _)))))))
end Go.Proofs.Ytkfkcinkkgdebaa
