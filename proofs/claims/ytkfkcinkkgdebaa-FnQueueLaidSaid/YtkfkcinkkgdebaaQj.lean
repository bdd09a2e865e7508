/- An operation of a queue: pushes. -/
import Derived.Test.YtkfkcinkkgdebaaQi
namespace Go.Proofs.Ytkfkcinkkgdebaa
open Go Go.RowKit Go.Vil
set_option linter.unusedSimpArgs false
set_option linter.unusedVariables false
set_option maxRecDepth 100000

theorem push_none {x : Qu} {d : List UInt8} : (x.push d).2 = none → (x.push d).1 = x := by
  unfold Qu.push
  split
  · intro h; cases h
  · split
    · intro h; cases h
    · split
      · intro _; rfl
      · intro h; cases h
/-- How an operation ends. -/
def DoEnd (q m hb : Nat) (w : World) (p : Qu × QAns) (e : Ending) (w' : World) : Prop :=
  ∃ (dv : Value) (m' : Nat) (arr' sl' h' : List UInt8), e = .returned (.agg #[.int .i64 p.2.fault, .int .i64 p.2.number, dv]) ∧ h'.length = 5 ∧ p.1.Rep arr' ∧ St w [q, m, hb] w' (.row 5 1 dv p.2.data.length (u8s p.2.data) :: qMem q m' hb p.1 arr' sl' h')
/-- An answer without bytes. -/
theorem doEnd_bare {q m hb : Nat} {w w' : World} {p : Qu × QAns} {e : Ending} (hd : p.2.data = []) (h : ∃ (m' : Nat) (arr' sl' h' : List UInt8), e = .returned (.agg #[.int .i64 p.2.fault, .int .i64 p.2.number, .slice none 0 0]) ∧ h'.length = 5 ∧ p.1.Rep arr' ∧ St w [q, m, hb] w' (qMem q m' hb p.1 arr' sl' h')) : DoEnd q m hb w p e w' := by
  obtain ⟨m', arr', sl', h', h1, h2, h3, S⟩ := h
  exact ⟨_, m', arr', sl', h', h1, h2, h3, by rw [hd]; exact S.nilRow _ 1⟩

set_option maxHeartbeats 1600000 in
theorem qDo0 (q m hb : Nat) (x : Qu) (arr sl h : List UInt8) (n c : Nat) (oa : Option Addr) (xs : List UInt8) (ix : Int) (w : World)
    (hM : Mem w (qMem q m hb x arr sl h)) (hh : h.length = 5) (hr : x.Rep arr) (hs : Src w 1 (.slice oa n c) n (u8s xs)) (hd : Off oa [q, m, hb] (u8s xs)) (hc : n ≤ c) (h1 : x.cap ≤ 1073741824) (h3 : x.max ≤ 1073741824) (hl : qLegal x ⟨0, xs, ix⟩) :
    Calls Try.prog 36 #[.pointer (some ⟨q, 0, none⟩), .agg #[.int .i64 0, .slice oa n c, .int .i64 ix]] w (DoEnd q m hb w (qStep x ⟨0, xs, ix⟩)) := by
  have S : St w [q, m, hb] w _ := St.start hM
  clear hM
  have hle := hr.len
  have hxl := hs.len8
  obtain ⟨hl1, hl2⟩ := hl.2.2.1 rfl
  have hst := hidden (show qStep x ⟨0, xs, ix⟩ = (match x.push xs with | (x', some i) => (x', ⟨0, i, []⟩) | (x', none) => (x', ⟨1, -1, []⟩)) from rfl)
  have hmf : ∀ (fn : Fn) (first cap : Array Value) (w : World), (Instr.makeFunc fn first cap).run Try.prog w = .ok (.func fn first cap) w := fun _ _ _ _ => rfl
  refine Calls.cps ?_; intro R hR
  go_enter_defers Try.func36, Try.ntmps36
  go_wp2_with (first | go_big_skip | ((with_reducible show Code.wp _ (Code.region _ _ true) _ _ _); refine St.regionLast S ?_; (repeat (first | (go_big_quiet_step (fail)) | (go_big_quiet_want; (first | refine quiet_ld S ?_ | refine quiet_ld8 S ?_ | refine quiet_ld0 ?_ | refine quiet_ldA S ?_ | refine quiet_b2sB S ?_ | refine quiet_b2sR S ?_ | refine quiet_ldc S ?_); go_big_quiet_on))); refine wpQuiet_nil ?_; clear S; intro wq S) | go_big_skip | (refine wpList_ld S ?_) | (refine wpList_ld8 S ?_) | (refine wpList_ld0 ?_) | (refine wpList_ldA S ?_) | (refine wpList_st8 S ?_; (clear S; intro ws S)) | (refine wpList_st S ?_; (clear S; intro ws S)) | (refine wpList_box S ?_; (clear S; intro nb wb hnb S)) | (refine wpList_alloc S ?_; (clear S; intro nb wb hnb S)) | (refine wpList_mk8 S ?_; (clear S; intro nb wb hnb S)) | (refine wpList_mk S ?_; (clear S; intro nb wb hnb S)) | (refine wpList_bs S ?_; (clear S; intro nb wb hnb S)) | (refine wpList_stA S ?_; (clear S; intro ws S; simp only [splice, List.take_zero, List.take_succ_cons, List.drop_succ_cons, List.drop_zero, List.drop_nil, List.length_cons, List.length_nil, Nat.reduceAdd, Nat.zero_add, List.nil_append, List.cons_append, List.append_nil] at S)) | (refine wpList_b2sB S ?_) | (refine wpList_b2sR S ?_) | (refine wpList_ldc S ?_))
  refine Calls.mono (quPush q m hb x arr sl h n c oa xs _ S.sel3 hh hr (hs.over S.chg hd) hd hc (by rw [← hxl]; exact hl1) h1 h3 (by rw [← hxl]; exact hl2)) ?_
  intro e w2 hp
  have hpn := hidden (push_none (x := x) (d := xs))
  generalize x.push xs = p at hp hst hpn
  obtain ⟨x', i⟩ := p
  cases i with
  | some i =>
    obtain ⟨rfl, m', arr', sl', h', hh', hr', C⟩ := hp
    have S2 := S.call C; clear S C; simp only [List.cons_append, List.nil_append] at S2; have S := S2; clear S2
    go_wp2_with (first | go_big_skip | ((with_reducible show Code.wp _ (Code.region _ _ true) _ _ _); refine St.regionLast S ?_; (repeat (first | (go_big_quiet_step (fail)) | (go_big_quiet_want; (first | refine quiet_ld S ?_ | refine quiet_ld8 S ?_ | refine quiet_ld0 ?_ | refine quiet_ldA S ?_ | refine quiet_b2sB S ?_ | refine quiet_b2sR S ?_ | refine quiet_ldc S ?_); go_big_quiet_on))); refine wpQuiet_nil ?_; clear S; intro wq S) | go_big_skip | (refine wpList_ld S ?_) | (refine wpList_ld8 S ?_) | (refine wpList_ld0 ?_) | (refine wpList_ldA S ?_) | (refine wpList_st8 S ?_; (clear S; intro ws S)) | (refine wpList_st S ?_; (clear S; intro ws S)) | (refine wpList_box S ?_; (clear S; intro nb wb hnb S)) | (refine wpList_alloc S ?_; (clear S; intro nb wb hnb S)) | (refine wpList_mk8 S ?_; (clear S; intro nb wb hnb S)) | (refine wpList_mk S ?_; (clear S; intro nb wb hnb S)) | (refine wpList_bs S ?_; (clear S; intro nb wb hnb S)) | (refine wpList_stA S ?_; (clear S; intro ws S; simp only [splice, List.take_zero, List.take_succ_cons, List.drop_succ_cons, List.drop_zero, List.drop_nil, List.length_cons, List.length_nil, Nat.reduceAdd, Nat.zero_add, List.nil_append, List.cons_append, List.append_nil] at S)) | (refine wpList_b2sB S ?_) | (refine wpList_b2sR S ?_) | (refine wpList_ldc S ?_))
    refine Calls.mono (wrongNil _) ?_
    rintro e w3 ⟨rfl, C⟩
    have S2 := S.call C; clear S C; simp only [List.cons_append, List.nil_append] at S2; have S := S2; clear S2
    go_wp2_with (first | go_big_skip | ((with_reducible show Code.wp _ (Code.region _ _ true) _ _ _); refine St.regionLast S ?_; (repeat (first | (go_big_quiet_step (fail)) | (go_big_quiet_want; (first | refine quiet_ld S ?_ | refine quiet_ld8 S ?_ | refine quiet_ld0 ?_ | refine quiet_ldA S ?_ | refine quiet_b2sB S ?_ | refine quiet_b2sR S ?_ | refine quiet_ldc S ?_); go_big_quiet_on))); refine wpQuiet_nil ?_; clear S; intro wq S) | go_big_skip | (refine wpList_ld S ?_) | (refine wpList_ld8 S ?_) | (refine wpList_ld0 ?_) | (refine wpList_ldA S ?_) | (refine wpList_st8 S ?_; (clear S; intro ws S)) | (refine wpList_st S ?_; (clear S; intro ws S)) | (refine wpList_box S ?_; (clear S; intro nb wb hnb S)) | (refine wpList_alloc S ?_; (clear S; intro nb wb hnb S)) | (refine wpList_mk8 S ?_; (clear S; intro nb wb hnb S)) | (refine wpList_mk S ?_; (clear S; intro nb wb hnb S)) | (refine wpList_bs S ?_; (clear S; intro nb wb hnb S)) | (refine wpList_stA S ?_; (clear S; intro ws S; simp only [splice, List.take_zero, List.take_succ_cons, List.drop_succ_cons, List.drop_zero, List.drop_nil, List.length_cons, List.length_nil, Nat.reduceAdd, Nat.zero_add, List.nil_append, List.cons_append, List.append_nil] at S)) | (refine wpList_b2sB S ?_) | (refine wpList_b2sR S ?_) | (refine wpList_ldc S ?_))
    refine door_of (results_c S) (idleQ _) ?_
    refine hR.out _ _ ?_
    refine doEnd_bare (by rw [hst.out]) ⟨m', arr', sl', h', ?_, hh', ?_, ?_⟩ <;> rw [hst.out]
    · exact hr'
    · exact S.sel (by repeat (first | exact Sel.nil | (apply Sel.cons; (repeat (first | exact Pull.head | apply Pull.tail)))))
  | none =>
    obtain ⟨v, rfl, hv, C⟩ := hp
    replace hpn := hidden (show x' = x from hpn.out rfl)
    have S2 := S.call C; clear S C; simp only [List.cons_append, List.nil_append] at S2; have S := S2; clear S2
    go_wp2_with (first | go_big_skip | ((with_reducible show Code.wp _ (Code.region _ _ true) _ _ _); refine St.regionLast S ?_; (repeat (first | (go_big_quiet_step (fail)) | (go_big_quiet_want; (first | refine quiet_ld S ?_ | refine quiet_ld8 S ?_ | refine quiet_ld0 ?_ | refine quiet_ldA S ?_ | refine quiet_b2sB S ?_ | refine quiet_b2sR S ?_ | refine quiet_ldc S ?_); go_big_quiet_on))); refine wpQuiet_nil ?_; clear S; intro wq S) | go_big_skip | (refine wpList_ld S ?_) | (refine wpList_ld8 S ?_) | (refine wpList_ld0 ?_) | (refine wpList_ldA S ?_) | (refine wpList_st8 S ?_; (clear S; intro ws S)) | (refine wpList_st S ?_; (clear S; intro ws S)) | (refine wpList_box S ?_; (clear S; intro nb wb hnb S)) | (refine wpList_alloc S ?_; (clear S; intro nb wb hnb S)) | (refine wpList_mk8 S ?_; (clear S; intro nb wb hnb S)) | (refine wpList_mk S ?_; (clear S; intro nb wb hnb S)) | (refine wpList_bs S ?_; (clear S; intro nb wb hnb S)) | (refine wpList_stA S ?_; (clear S; intro ws S; simp only [splice, List.take_zero, List.take_succ_cons, List.drop_succ_cons, List.drop_zero, List.drop_nil, List.length_cons, List.length_nil, Nat.reduceAdd, Nat.zero_add, List.nil_append, List.cons_append, List.append_nil] at S)) | (refine wpList_b2sB S ?_) | (refine wpList_b2sR S ?_) | (refine wpList_ldc S ?_))
    refine Calls.mono (wrongErr v _ hv) ?_
    rintro e w3 ⟨rfl, C⟩
    have S2 := S.call C; clear S C; simp only [List.cons_append, List.nil_append] at S2; have S := S2; clear S2
    go_wp2_with (first | go_big_skip | ((with_reducible show Code.wp _ (Code.region _ _ true) _ _ _); refine St.regionLast S ?_; (repeat (first | (go_big_quiet_step (fail)) | (go_big_quiet_want; (first | refine quiet_ld S ?_ | refine quiet_ld8 S ?_ | refine quiet_ld0 ?_ | refine quiet_ldA S ?_ | refine quiet_b2sB S ?_ | refine quiet_b2sR S ?_ | refine quiet_ldc S ?_); go_big_quiet_on))); refine wpQuiet_nil ?_; clear S; intro wq S) | go_big_skip | (refine wpList_ld S ?_) | (refine wpList_ld8 S ?_) | (refine wpList_ld0 ?_) | (refine wpList_ldA S ?_) | (refine wpList_st8 S ?_; (clear S; intro ws S)) | (refine wpList_st S ?_; (clear S; intro ws S)) | (refine wpList_box S ?_; (clear S; intro nb wb hnb S)) | (refine wpList_alloc S ?_; (clear S; intro nb wb hnb S)) | (refine wpList_mk8 S ?_; (clear S; intro nb wb hnb S)) | (refine wpList_mk S ?_; (clear S; intro nb wb hnb S)) | (refine wpList_bs S ?_; (clear S; intro nb wb hnb S)) | (refine wpList_stA S ?_; (clear S; intro ws S; simp only [splice, List.take_zero, List.take_succ_cons, List.drop_succ_cons, List.drop_zero, List.drop_nil, List.length_cons, List.length_nil, Nat.reduceAdd, Nat.zero_add, List.nil_append, List.cons_append, List.append_nil] at S)) | (refine wpList_b2sB S ?_) | (refine wpList_b2sR S ?_) | (refine wpList_ldc S ?_))
    refine door_of (results_c S) (idleQ _) ?_
    refine hR.out _ _ ?_
    refine doEnd_bare (by rw [hst.out]) ⟨m, arr, sl, h, ?_, hh, ?_, ?_⟩ <;> rw [hst.out]
    · show x'.Rep arr
      rw [show x' = x from hpn.out]; exact hr
    · show St w [q, m, hb] _ (qMem q m hb x' arr sl h)
      rw [show x' = x from hpn.out]; exact S.sel (by repeat (first | exact Sel.nil | (apply Sel.cons; (repeat (first | exact Pull.head | apply Pull.tail)))))
end Go.Proofs.Ytkfkcinkkgdebaa
