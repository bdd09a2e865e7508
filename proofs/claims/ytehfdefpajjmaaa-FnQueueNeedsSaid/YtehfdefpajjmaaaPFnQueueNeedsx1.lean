-- PRINTED BY print.sh 35421559b90ae4d0a3588c463048766b98c2df88dd9212a6774a882060cdf62d: not written by this session
import Derived.Test.YtehfdefpajjmaaaPFnQueueNeedsx0
namespace Go.Proofs.Ytehfdefpajjmaaa.PFnQueueNeeds
open Go.RowKit Go.Proofs.YtehfdefpajjmaaaW.PrintWords Go.Proofs.YtehfdefpajjmaaaW.PrintLast Go.Proofs.YtehfdefpajjmaaaW.PrintMore
attribute [local go_sem] max2_int min2_int max_two min_two max_three min_three max_four min_four   -- for this text's walks alone
set_option linter.unusedVariables false
set_option linter.unusedSimpArgs false

/-! ### queue_getNeededSize: function 52 -/
def queue_getNeededSize.f (a0 : Int) : Option (Int) := if a0 < 127 then (some (wrap64 (a0 + 1))) else (if a0 < 16382 then (some (wrap64 (a0 + 2))) else (if a0 < 2097149 then (some (wrap64 (a0 + 3))) else (if a0 < 268435452 then (some (wrap64 (a0 + 4))) else (some (wrap64 (a0 + 5))))))
set_option maxHeartbeats 8000000 in
set_option maxRecDepth 100000 in
theorem queue_getNeededSize.calls (a0 : Int) (r : Int) (w : World) (h : queue_getNeededSize.f a0 = some r) :
    Calls Try.prog 52 #[.int .i64 a0] w fun e w' => e = .returned (.int .i64 r) ∧ Drawn0 w w' := by
  have H : (if a0 < 127 then (some (wrap64 (a0 + 1))) else (if a0 < 16382 then (some (wrap64 (a0 + 2))) else (if a0 < 2097149 then (some (wrap64 (a0 + 3))) else (if a0 < 268435452 then (some (wrap64 (a0 + 4))) else (some (wrap64 (a0 + 5))))))) = some r := h
  clear h
  by_cases c2 : a0 < 127
  · rw [if_pos c2] at H
    have c2b0 : decide (a0 < 127) = true := decide_eq_true c2
    clear c2
    obtain rfl := Option.some.inj H
    go_enter Try.func52, Try.ntmps52
    go_wp2
    go_ret
    exact ⟨by first | rfl | (simp; done) | (simp [*]; done), by repeat (first | exact Drawn0.refl _ | apply Drawn0.step)⟩
  · rw [if_neg c2] at H
    have c2b0 : decide (a0 < 127) = false := decide_eq_false c2
    clear c2
    by_cases c3 : a0 < 16382
    · rw [if_pos c3] at H
      have c3b0 : decide (a0 < 16382) = true := decide_eq_true c3
      clear c3
      obtain rfl := Option.some.inj H
      go_enter Try.func52, Try.ntmps52
      go_wp2
      go_ret
      exact ⟨by first | rfl | (simp; done) | (simp [*]; done), by repeat (first | exact Drawn0.refl _ | apply Drawn0.step)⟩
    · rw [if_neg c3] at H
      have c3b0 : decide (a0 < 16382) = false := decide_eq_false c3
      clear c3
      by_cases c4 : a0 < 2097149
      · rw [if_pos c4] at H
        have c4b0 : decide (a0 < 2097149) = true := decide_eq_true c4
        clear c4
        obtain rfl := Option.some.inj H
        go_enter Try.func52, Try.ntmps52
        go_wp2
        go_ret
        exact ⟨by first | rfl | (simp; done) | (simp [*]; done), by repeat (first | exact Drawn0.refl _ | apply Drawn0.step)⟩
      · rw [if_neg c4] at H
        have c4b0 : decide (a0 < 2097149) = false := decide_eq_false c4
        clear c4
        by_cases c5 : a0 < 268435452
        · rw [if_pos c5] at H
          have c5b0 : decide (a0 < 268435452) = true := decide_eq_true c5
          clear c5
          obtain rfl := Option.some.inj H
          go_enter Try.func52, Try.ntmps52
          go_wp2
          go_ret
          exact ⟨by first | rfl | (simp; done) | (simp [*]; done), by repeat (first | exact Drawn0.refl _ | apply Drawn0.step)⟩
        · rw [if_neg c5] at H
          have c5b0 : decide (a0 < 268435452) = false := decide_eq_false c5
          clear c5
          obtain rfl := Option.some.inj H
          go_enter Try.func52, Try.ntmps52
          go_wp2
          go_ret
          exact ⟨by first | rfl | (simp; done) | (simp [*]; done), by repeat (first | exact Drawn0.refl _ | apply Drawn0.step)⟩

/-! ### queue_ZzNeeded: function 38 -/
def queue_ZzNeeded.f (a0 : Int) : Option (Int) := (queue_getNeededSize.f a0).bind fun t101 => (some t101)
set_option maxHeartbeats 8000000 in
set_option maxRecDepth 100000 in
theorem queue_ZzNeeded.calls (a0 : Int) (r : Int) (w : World) (h : queue_ZzNeeded.f a0 = some r) :
    Calls Try.prog 38 #[.int .i64 a0] w fun e w' => e = .returned (.int .i64 r) ∧ Drawn0 w w' := by
  have H : ((queue_getNeededSize.f a0).bind fun t101 => (some t101)) = some r := h
  clear h
  replace H := Option.bind_eq_some_iff.mp H
  obtain ⟨t101, A20, H⟩ := H
  replace H : (some t101) = some r := H
  have A2 := Aside0.mk A20
  clear A20
  obtain rfl := Option.some.inj H
  go_enter Try.func38, Try.ntmps38
  go_wp2_with (first | ((with_reducible refine gate_callee (f := 52) rfl ?_); refine goesL_ (some 4) rfl rfl Try.func52 (by kernel_rfl) rfl #[.int .i64 a0] rfl (by (try simp only [List.map_toArray, List.map_cons, List.map_nil]); first | done | rfl | (simp only [List.length_drop, List.length_take]; rfl)) ?_; (with_reducible refine (queue_getNeededSize.calls a0 t101 _ A2.out).mono ?_); rintro e w' ⟨rfl, ⟨nd, rfl⟩⟩; refine ⟨_, rfl, ?_⟩))
  go_ret
  exact ⟨by first | rfl | (simp; done) | (simp [*]; done), by repeat (first | exact Drawn0.refl _ | apply Drawn0.step)⟩

/-! ### impl_QueueNeeds: function 22 -/
def impl_QueueNeeds.f (a0 : Int) : Option (Int) := (queue_ZzNeeded.f (mx a0 0)).bind fun t102 => (some t102)
set_option maxHeartbeats 8000000 in
set_option maxRecDepth 100000 in
theorem impl_QueueNeeds.calls (a0 : Int) (r : Int) (w : World) (h : impl_QueueNeeds.f a0 = some r) :
    Calls Try.prog 22 #[.int .i64 a0] w fun e w' => e = .returned (.int .i64 r) ∧ Below w.heap.size w w' := by
  have HB := Aside0.mk (Below.refl w.heap.size w)
  have H : ((queue_ZzNeeded.f (mx a0 0)).bind fun t102 => (some t102)) = some r := h
  clear h
  obtain ⟨ji2, hji2⟩ : ∃ j_ : Int, (mx a0 0) = j_ := ⟨_, rfl⟩
  replace H : ((queue_ZzNeeded.f (ji2)).bind fun t102 => (some t102)) = some r := by first | (rw [hji2] at H; exact H) | (simp only [hji2] at H ⊢; exact H)
  (try (have hji2l : 0 ≤ ji2 := by (rw [← hji2]; unfold mx; (repeat' split) <;> omega)))
  (try (have hji2m : 0 ≤ ji2 := by omega))
  have hji2_ : (if a0 < 0 then 0 else a0) = ji2 := hji2
  replace H := Option.bind_eq_some_iff.mp H
  obtain ⟨t102, A30, H⟩ := H
  replace H : (some t102) = some r := H
  have A3 := Aside0.mk A30
  clear A30
  obtain rfl := Option.some.inj H
  go_enter Try.func22, Try.ntmps22
  go_wp2_with (first | ((with_reducible refine gate_callee (f := 38) rfl ?_); refine goesL_ (some 5) rfl rfl Try.func38 (by kernel_rfl) rfl #[.int .i64 ji2] rfl (by (try simp only [List.map_toArray, List.map_cons, List.map_nil]); first | done | (simp only [hji2]; rfl) | rfl | (simp only [List.length_drop, List.length_take]; rfl)) ?_; (with_reducible refine (queue_ZzNeeded.calls ji2 t102 _ A3.out).mono ?_); rintro e w' ⟨rfl, ⟨nd, rfl⟩⟩; refine ⟨_, rfl, ?_⟩))
  go_ret
  exact ⟨by first | rfl | (simp [errW_none, errW_some] <;> rfl) | (simp only [← hji2]; first | rfl | (simp [errW_none, errW_some] <;> rfl)) | (simp [*, errW_none, errW_some] <;> rfl), by repeat (first | (with_reducible first | exact HB.out | apply below_alloc | apply pw_below_drewN | apply below_drew1) | exact HB.out)⟩

/-! ### spec_Needs: function 23 -/
def spec_Needs.l0 : Nat → Int → Int → Option (Int)
  | 0, _, _ => none
  | k + 1, x0, x3 => if x3 < 9 then (if 0 ≤ (wrap64 (7 * x3)) then (if (shr .i64 (wrap64 (x0 + x3)) (wrap64 (7 * x3))) > 0 then (spec_Needs.l0 k x0 (wrap64 (x3 + 1))) else (some (wrap64 (x0 + x3)))) else (none)) else (some (wrap64 (x0 + x3)))
def spec_Needs.f (k : Nat) (a0 : Int) : Option (Int) := spec_Needs.l0 k a0 1
theorem spec_Needs.mono_l : ∀ k, (∀ y0 y1, LeO (spec_Needs.l0 k y0 y1) (spec_Needs.l0 (k + 1) y0 y1))
  | 0 => fun _ _ r h => by simp [spec_Needs.l0] at h
  | k + 1 => by
    have ih0 := spec_Needs.mono_l k
    · intro y0 y1
      unfold spec_Needs.l0
      repeat' first
      | (with_reducible exact ih0 _ _)
      | (with_reducible exact LeO.refl _)
      | (with_reducible exact LeO.none _)
      | (with_reducible refine LeO.ite ?_ ?_)
      | (with_reducible refine LeO.bind ?_ (fun _ => ?_))
      | exact ih0 _ _
      | exact LeO.none _
      | refine LeO.ite ?_ ?_
      | refine LeO.bind ?_ (fun _ => ?_)
theorem spec_Needs.mono : ∀ a0 k, LeO (spec_Needs.f k a0) (spec_Needs.f (k + 1) a0) := by
  intro a0 k
  have ih0 := spec_Needs.mono_l k
  unfold spec_Needs.f
  repeat' first
      | (with_reducible exact ih0 _ _)
      | (with_reducible exact LeO.refl _)
      | (with_reducible exact LeO.none _)
      | (with_reducible refine LeO.ite ?_ ?_)
      | (with_reducible refine LeO.bind ?_ (fun _ => ?_))
      | exact ih0 _ _
      | exact LeO.none _
      | refine LeO.ite ?_ ?_
      | refine LeO.bind ?_ (fun _ => ?_)
set_option maxHeartbeats 8000000 in
set_option maxRecDepth 100000 in
theorem spec_Needs.calls (k : Nat) (a0 : Int) (r : Int) (w : World) (h : spec_Needs.f k a0 = some r) :
    Calls Try.prog 23 #[.int .i64 a0] w fun e w' => e = .returned (.int .i64 r) ∧ Drawn0 w w' := by
  have H : (spec_Needs.l0 k a0 1) = some r := h
  clear h
  have H' := Aside0.mk H
  clear H
  go_enter Try.func23, Try.ntmps23
  go_wp2
  go_loopg [3] k (fun kq v3 w' => ∃ (x3_1 : Int), v3 = .int .i64 x3_1 ∧ Aside0 (spec_Needs.l0 kq a0 x3_1 = some r) ∧ Aside0 (kq ≤ k) ∧ Drawn0 w w')
  case atStart => exact ⟨(1), (by first | rfl | (simp; done) | (simp [*]; done)), H', ⟨Nat.le_refl _⟩, by repeat (first | exact Drawn0.refl _ | apply Drawn0.step)⟩
  case round =>
    clear H'
    obtain ⟨x3_1, rfl, HA, HK1, ⟨m1, rfl⟩⟩ := hrel
    cases gk with
    | zero => exact absurd HA.out (by simp [spec_Needs.l0])
    | succ k1 =>
      have H := HA.out
      clear HA
      simp only [spec_Needs.l0] at H
      by_cases c2 : x3_1 < 9
      · rw [if_pos c2] at H
        have c2b0 : decide (x3_1 < 9) = true := decide_eq_true c2
        clear c2
        obtain ⟨ji3, hji3⟩ : ∃ j_ : Int, (wrap64 (7 * x3_1)) = j_ := ⟨_, rfl⟩
        replace H : (if 0 ≤ (ji3) then (if (shr .i64 (wrap64 (a0 + x3_1)) (ji3)) > 0 then (spec_Needs.l0 k1 a0 (wrap64 (x3_1 + 1))) else (some (wrap64 (a0 + x3_1)))) else (none)) = some r := by first | (rw [hji3] at H; exact H) | (simp only [hji3] at H ⊢; exact H)
        have hji3w : (IntKind.i64.wrap (7 * x3_1)) = ji3 := (i64_w _).trans hji3
        by_cases c4 : 0 ≤ (ji3)
        · rw [if_pos c4] at H
          have c4b0 := eq_true c4
          have c4b1 : decide (0 ≤ (ji3)) = true := decide_eq_true c4
          clear c4
          obtain ⟨ji5, hji5⟩ : ∃ j_ : Int, (shr .i64 (wrap64 (a0 + x3_1)) (ji3)) = j_ := ⟨_, rfl⟩
          replace H : (if (ji5) > 0 then (spec_Needs.l0 k1 a0 (wrap64 (x3_1 + 1))) else (some (wrap64 (a0 + x3_1)))) = some r := by first | (rw [hji5] at H; exact H) | (simp only [hji5] at H ⊢; exact H)
          have hji5_ : ((wrap64 (a0 + x3_1)) / 2 ^ min (ji3).toNat 64) = ji5 := hji5
          have hji5z : (ji3) ≤ 64 → ((wrap64 (a0 + x3_1)) / 2 ^ (ji3).toNat) = ji5 := shr_small hji5
          by_cases c6 : (ji5) > 0
          · rw [if_pos c6] at H
            have c6b0 : decide (0 < (ji5)) = true := decide_eq_true c6
            clear c6
            have H' := Aside0.mk H
            clear H
            go_wp2
            go_roundg k1
            case measure => have := HK1.out; omega
            case rel => exact ⟨(wrap64 (x3_1 + 1)), (by first | rfl | (simp; done) | (simp [*]; done)), H', ⟨by have := HK1.out; omega⟩, by repeat (first | exact Drawn0.refl _ | apply Drawn0.step)⟩
          · rw [if_neg c6] at H
            have c6b0 : decide (0 < (ji5)) = false := decide_eq_false c6
            clear c6
            obtain rfl := Option.some.inj H
            go_wp2
            go_ret
            exact ⟨by first | rfl | (simp; done) | (simp only [← hji3, ← hji5] <;> (first | rfl | simp)) | (simp [*]; done), by repeat (first | exact Drawn0.refl _ | apply Drawn0.step)⟩
        · rw [if_neg c4] at H
          exact absurd H (by simp)
      · rw [if_neg c2] at H
        have c2b0 : decide (x3_1 < 9) = false := decide_eq_false c2
        clear c2
        obtain rfl := Option.some.inj H
        go_wp2
        go_ret
        exact ⟨by first | rfl | (simp; done) | (simp [*]; done), by repeat (first | exact Drawn0.refl _ | apply Drawn0.step)⟩

/-! ### laws_FnQueueNeeds: function 7 -/
def laws_FnQueueNeeds.f (k : Nat) (a0 : Int) : Option (Bool) := if a0 < 0 then (some true) else (if a0 > 2147483648 then (some true) else ((impl_QueueNeeds.f a0).bind fun t103 => ((spec_Needs.f k a0).bind fun t104 => (some (t103 == t104)))))
theorem laws_FnQueueNeeds.mono : ∀ a0 k, LeO (laws_FnQueueNeeds.f k a0) (laws_FnQueueNeeds.f (k + 1) a0) := by
  intro a0 k
  unfold laws_FnQueueNeeds.f
  repeat' first
      | (with_reducible exact spec_Needs.mono _ _)
      | (with_reducible exact LeO.refl _)
      | (with_reducible exact LeO.none _)
      | (with_reducible refine LeO.ite ?_ ?_)
      | (with_reducible refine LeO.bind ?_ (fun _ => ?_))
      | exact spec_Needs.mono _ _
      | exact LeO.none _
      | refine LeO.ite ?_ ?_
      | refine LeO.bind ?_ (fun _ => ?_)
set_option maxHeartbeats 8000000 in
set_option maxRecDepth 100000 in
theorem laws_FnQueueNeeds.calls (k : Nat) (a0 : Int) (r : Bool) (w : World) (h : laws_FnQueueNeeds.f k a0 = some r) :
    Calls Try.prog 7 #[.int .i64 a0] w fun e w' => e = .returned (.bool r) ∧ Below w.heap.size w w' := by
  have HB := Aside0.mk (Below.refl w.heap.size w)
  have H : (if a0 < 0 then (some true) else (if a0 > 2147483648 then (some true) else ((impl_QueueNeeds.f a0).bind fun t103 => ((spec_Needs.f k a0).bind fun t104 => (some (t103 == t104)))))) = some r := h
  clear h
  by_cases c2 : a0 < 0
  · rw [if_pos c2] at H
    have c2b0 : decide (a0 < 0) = true := decide_eq_true c2
    clear c2
    obtain rfl := Option.some.inj H
    go_enter Try.func7, Try.ntmps7
    go_wp2
    go_ret
    exact ⟨by first | rfl | (simp [errW_none, errW_some] <;> rfl) | (simp [*, errW_none, errW_some] <;> rfl), by repeat (first | (with_reducible first | exact HB.out | apply below_alloc | apply pw_below_drewN | apply below_drew1) | exact HB.out)⟩
  · rw [if_neg c2] at H
    have c2b0 : decide (a0 < 0) = false := decide_eq_false c2
    clear c2
    by_cases c3 : a0 > 2147483648
    · rw [if_pos c3] at H
      have c3b0 : decide (2147483648 < a0) = true := decide_eq_true c3
      clear c3
      obtain rfl := Option.some.inj H
      go_enter Try.func7, Try.ntmps7
      go_wp2
      go_ret
      exact ⟨by first | rfl | (simp [errW_none, errW_some] <;> rfl) | (simp [*, errW_none, errW_some] <;> rfl), by repeat (first | (with_reducible first | exact HB.out | apply below_alloc | apply pw_below_drewN | apply below_drew1) | exact HB.out)⟩
    · rw [if_neg c3] at H
      have c3b0 : decide (2147483648 < a0) = false := decide_eq_false c3
      clear c3
      replace H := Option.bind_eq_some_iff.mp H
      obtain ⟨t103, A40, H⟩ := H
      replace H : ((spec_Needs.f k a0).bind fun t104 => (some (t103 == t104))) = some r := H
      have A4 := Aside0.mk A40
      clear A40
      replace H := Option.bind_eq_some_iff.mp H
      obtain ⟨t104, A50, H⟩ := H
      replace H : (some (t103 == t104)) = some r := H
      have A5 := Aside0.mk A50
      clear A50
      obtain rfl := Option.some.inj H
      go_enter Try.func7, Try.ntmps7
      go_wp2_with (first | (go_at_call 22; (with_reducible refine (impl_QueueNeeds.calls a0 t103 _ A4.out).mono ?_); rintro e w6 ⟨rfl, hb⟩; have n0_ := Aside0.mk (below_step (by repeat (first | (with_reducible first | exact HB.out | apply below_alloc | apply pw_below_drewN | apply below_drew1) | exact HB.out)) hb); clear HB; have HB := n0_; clear n0_; (try clear hb); (try clear hb2); (try clear hk); (try clear hi)) | (go_at_call 23; (with_reducible refine (spec_Needs.calls k a0 t104 _ A5.out).mono ?_); rintro e w' ⟨rfl, ⟨nd, rfl⟩⟩))
      go_ret
      exact ⟨by first | rfl | (simp [errW_none, errW_some] <;> rfl) | (simp [*, errW_none, errW_some] <;> rfl), by repeat (first | (with_reducible first | exact HB.out | apply below_alloc | apply pw_below_drewN | apply below_drew1) | exact HB.out)⟩

/-- THE ONE PURE STATEMENT of laws_FnQueueNeeds: yours. -/
def laws_FnQueueNeeds.Pure : Prop := ∀ (a0 : Int), (Lit.int .i64 a0).wf = true → ∃ k, laws_FnQueueNeeds.f k a0 = some true
theorem laws_FnQueueNeeds.walk (P : laws_FnQueueNeeds.Pure) (a0 : Int) (w : World) (w0 : (Lit.int .i64 a0).wf = true) :
    Calls Try.prog 7 #[.int .i64 a0] w fun e w' => e = .returned (.bool true) ∧ Below w.heap.size w w' := by
  obtain ⟨k, h⟩ := P a0 w0
  refine (laws_FnQueueNeeds.calls k a0 true w h).mono ?_
  rintro e w' ⟨rfl, hd⟩
  exact ⟨rfl, hd⟩

end Go.Proofs.Ytehfdefpajjmaaa.PFnQueueNeeds
