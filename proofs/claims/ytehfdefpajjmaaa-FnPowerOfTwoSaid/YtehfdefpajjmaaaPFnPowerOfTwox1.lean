-- PRINTED BY print.sh 35421559b90ae4d0a3588c463048766b98c2df88dd9212a6774a882060cdf62d: not written by this session
import Derived.Test.YtehfdefpajjmaaaPFnPowerOfTwox0
namespace Go.Proofs.Ytehfdefpajjmaaa.PFnPowerOfTwo
open Go.RowKit Go.Proofs.YtehfdefpajjmaaaW.PrintWords Go.Proofs.YtehfdefpajjmaaaW.PrintLast Go.Proofs.YtehfdefpajjmaaaW.PrintMore
attribute [local go_sem] max2_int min2_int max_two min_two max_three min_three max_four min_four   -- for this text's walks alone
set_option linter.unusedVariables false
set_option linter.unusedSimpArgs false

/-! ### bigcache_isPowerOfTwo: function 49 -/
def bigcache_isPowerOfTwo.f (a0 : Int) : Option (Bool) := if a0 = 0 then (some false) else (some ((Go.bits .and .i64 a0 (wrap64 (a0 - 1))) == 0))
set_option maxHeartbeats 8000000 in
set_option maxRecDepth 100000 in
theorem bigcache_isPowerOfTwo.calls (a0 : Int) (r : Bool) (w : World) (h : bigcache_isPowerOfTwo.f a0 = some r) :
    Calls Try.prog 49 #[.int .i64 a0] w fun e w' => e = .returned (.bool r) ∧ Drawn0 w w' := by
  have H : (if a0 = 0 then (some false) else (some ((Go.bits .and .i64 a0 (wrap64 (a0 - 1))) == 0))) = some r := h
  clear h
  by_cases c2 : a0 = 0
  · rw [if_pos c2] at H
    have c2b0 : (a0 == 0) = true := beq_iff_eq.mpr c2
    have c2b1 : (a0 != 0) = false := bne_eq_false_iff_eq.mpr c2
    clear c2
    obtain rfl := Option.some.inj H
    go_enter Try.func49, Try.ntmps49
    go_wp2
    go_ret
    exact ⟨by first | rfl | (simp; done) | (simp [*]; done), by repeat (first | exact Drawn0.refl _ | apply Drawn0.step)⟩
  · rw [if_neg c2] at H
    have c2b0 : (a0 == 0) = false := beq_eq_false_iff_ne.mpr c2
    have c2b1 : (a0 != 0) = true := bne_iff_ne.mpr c2
    obtain rfl := Option.some.inj H
    go_enter Try.func49, Try.ntmps49
    go_wp2
    go_ret
    exact ⟨by first | rfl | (simp; done) | (simp [*]; done), by repeat (first | exact Drawn0.refl _ | apply Drawn0.step)⟩

/-! ### bigcache_ZzPowerOfTwo: function 33 -/
def bigcache_ZzPowerOfTwo.f (a0 : Int) : Option (Bool) := (bigcache_isPowerOfTwo.f a0).bind fun t101 => (some t101)
set_option maxHeartbeats 8000000 in
set_option maxRecDepth 100000 in
theorem bigcache_ZzPowerOfTwo.calls (a0 : Int) (r : Bool) (w : World) (h : bigcache_ZzPowerOfTwo.f a0 = some r) :
    Calls Try.prog 33 #[.int .i64 a0] w fun e w' => e = .returned (.bool r) ∧ Drawn0 w w' := by
  have H : ((bigcache_isPowerOfTwo.f a0).bind fun t101 => (some t101)) = some r := h
  clear h
  replace H := Option.bind_eq_some_iff.mp H
  obtain ⟨t101, A20, H⟩ := H
  replace H : (some t101) = some r := H
  have A2 := Aside0.mk A20
  clear A20
  obtain rfl := Option.some.inj H
  go_enter Try.func33, Try.ntmps33
  go_wp2_with (first | ((with_reducible refine gate_callee (f := 49) rfl ?_); refine goesL_ (some 4) rfl rfl Try.func49 (by kernel_rfl) rfl #[.int .i64 a0] rfl (by (try simp only [List.map_toArray, List.map_cons, List.map_nil]); first | done | rfl | (simp only [List.length_drop, List.length_take]; rfl)) ?_; (with_reducible refine (bigcache_isPowerOfTwo.calls a0 t101 _ A2.out).mono ?_); rintro e w' ⟨rfl, ⟨nd, rfl⟩⟩; refine ⟨_, rfl, ?_⟩))
  go_ret
  exact ⟨by first | rfl | (simp; done) | (simp [*]; done), by repeat (first | exact Drawn0.refl _ | apply Drawn0.step)⟩

/-! ### impl_PowerOfTwo: function 16 -/
def impl_PowerOfTwo.f (a0 : Int) : Option (Bool) := (bigcache_ZzPowerOfTwo.f a0).bind fun t102 => (some t102)
set_option maxHeartbeats 8000000 in
set_option maxRecDepth 100000 in
theorem impl_PowerOfTwo.calls (a0 : Int) (r : Bool) (w : World) (h : impl_PowerOfTwo.f a0 = some r) :
    Calls Try.prog 16 #[.int .i64 a0] w fun e w' => e = .returned (.bool r) ∧ Drawn0 w w' := by
  have H : ((bigcache_ZzPowerOfTwo.f a0).bind fun t102 => (some t102)) = some r := h
  clear h
  replace H := Option.bind_eq_some_iff.mp H
  obtain ⟨t102, A20, H⟩ := H
  replace H : (some t102) = some r := H
  have A2 := Aside0.mk A20
  clear A20
  obtain rfl := Option.some.inj H
  go_enter Try.func16, Try.ntmps16
  go_wp2_with (first | ((with_reducible refine gate_callee (f := 33) rfl ?_); refine goesL_ (some 4) rfl rfl Try.func33 (by kernel_rfl) rfl #[.int .i64 a0] rfl (by (try simp only [List.map_toArray, List.map_cons, List.map_nil]); first | done | rfl | (simp only [List.length_drop, List.length_take]; rfl)) ?_; (with_reducible refine (bigcache_ZzPowerOfTwo.calls a0 t102 _ A2.out).mono ?_); rintro e w' ⟨rfl, ⟨nd, rfl⟩⟩; refine ⟨_, rfl, ?_⟩))
  go_ret
  exact ⟨by first | rfl | (simp; done) | (simp [*]; done), by repeat (first | exact Drawn0.refl _ | apply Drawn0.step)⟩

/-! ### laws_FnPowerOfTwo: function 4 -/
def laws_FnPowerOfTwo.l0 : Nat → Int → Bool → Int → Option (Bool)
  | 0, _, _, _ => none
  | k + 1, x0, x3, x4 => if x4 > 0 then (if x3 = true then (laws_FnPowerOfTwo.l0 k x0 true (wrap64 (x4 * 2))) else (laws_FnPowerOfTwo.l0 k x0 (x4 == x0) (wrap64 (x4 * 2)))) else ((impl_PowerOfTwo.f x0).bind fun t103 => (if (t103 == x3) = true then ((impl_PowerOfTwo.f 8).bind fun t104 => (some t104)) else (some false)))
def laws_FnPowerOfTwo.f (k : Nat) (a0 : Int) : Option (Bool) := if a0 < 0 then (some true) else (laws_FnPowerOfTwo.l0 k a0 false 1)
theorem laws_FnPowerOfTwo.mono_l : ∀ k, (∀ y0 y1 y2, LeO (laws_FnPowerOfTwo.l0 k y0 y1 y2) (laws_FnPowerOfTwo.l0 (k + 1) y0 y1 y2))
  | 0 => fun _ _ _ r h => by simp [laws_FnPowerOfTwo.l0] at h
  | k + 1 => by
    have ih0 := laws_FnPowerOfTwo.mono_l k
    · intro y0 y1 y2
      unfold laws_FnPowerOfTwo.l0
      repeat' first
      | (with_reducible exact ih0 _ _ _)
      | (with_reducible exact LeO.refl _)
      | (with_reducible exact LeO.none _)
      | (with_reducible refine LeO.ite ?_ ?_)
      | (with_reducible refine LeO.bind ?_ (fun _ => ?_))
      | exact ih0 _ _ _
      | exact LeO.none _
      | refine LeO.ite ?_ ?_
      | refine LeO.bind ?_ (fun _ => ?_)
theorem laws_FnPowerOfTwo.mono : ∀ a0 k, LeO (laws_FnPowerOfTwo.f k a0) (laws_FnPowerOfTwo.f (k + 1) a0) := by
  intro a0 k
  have ih0 := laws_FnPowerOfTwo.mono_l k
  unfold laws_FnPowerOfTwo.f
  repeat' first
      | (with_reducible exact ih0 _ _ _)
      | (with_reducible exact LeO.refl _)
      | (with_reducible exact LeO.none _)
      | (with_reducible refine LeO.ite ?_ ?_)
      | (with_reducible refine LeO.bind ?_ (fun _ => ?_))
      | exact ih0 _ _ _
      | exact LeO.none _
      | refine LeO.ite ?_ ?_
      | refine LeO.bind ?_ (fun _ => ?_)
set_option maxHeartbeats 8000000 in
set_option maxRecDepth 100000 in
theorem laws_FnPowerOfTwo.calls (k : Nat) (a0 : Int) (r : Bool) (w : World) (h : laws_FnPowerOfTwo.f k a0 = some r) :
    Calls Try.prog 4 #[.int .i64 a0] w fun e w' => e = .returned (.bool r) ∧ Drawn0 w w' := by
  have H : (if a0 < 0 then (some true) else (laws_FnPowerOfTwo.l0 k a0 false 1)) = some r := h
  clear h
  by_cases c2 : a0 < 0
  · rw [if_pos c2] at H
    have c2b0 : decide (a0 < 0) = true := decide_eq_true c2
    clear c2
    obtain rfl := Option.some.inj H
    go_enter Try.func4, Try.ntmps4
    go_wp2
    go_ret
    exact ⟨by first | rfl | (simp; done) | (simp [*]; done), by repeat (first | exact Drawn0.refl _ | apply Drawn0.step)⟩
  · rw [if_neg c2] at H
    have c2b0 : decide (a0 < 0) = false := decide_eq_false c2
    clear c2
    have H' := Aside0.mk H
    clear H
    go_enter Try.func4, Try.ntmps4
    go_wp2
    go_loopg [3, 4] k (fun kq v3 v4 w' => ∃ (x3_1 : Bool) (x4_1 : Int), v3 = .bool x3_1 ∧ v4 = .int .i64 x4_1 ∧ Aside0 (laws_FnPowerOfTwo.l0 kq a0 x3_1 x4_1 = some r) ∧ Aside0 (kq ≤ k) ∧ Drawn0 w w')
    case atStart => exact ⟨(false), (1), (by first | rfl | (simp; done) | (simp [*]; done)), (by first | rfl | (simp; done) | (simp [*]; done)), H', ⟨Nat.le_refl _⟩, by repeat (first | exact Drawn0.refl _ | apply Drawn0.step)⟩
    case round =>
      clear H'
      try clear c2
      try clear c2b0
      try clear p2
      obtain ⟨x3_1, x4_1, rfl, rfl, HA, HK1, ⟨m1, rfl⟩⟩ := hrel
      cases gk with
      | zero => exact absurd HA.out (by simp [laws_FnPowerOfTwo.l0])
      | succ k1 =>
        have H := HA.out
        clear HA
        simp only [laws_FnPowerOfTwo.l0] at H
        by_cases c3 : x4_1 > 0
        · rw [if_pos c3] at H
          have c3b0 : decide (0 < x4_1) = true := decide_eq_true c3
          clear c3
          by_cases c4 : x3_1 = true
          · subst c4
            have H1 : (laws_FnPowerOfTwo.l0 k1 a0 true (wrap64 (x4_1 * 2))) = some r := by rw [if_pos rfl] at H; exact H
            clear H
            have H := H1
            clear H1
            have H' := Aside0.mk H
            clear H
            go_wp2
            go_roundg k1
            case measure => have := HK1.out; omega
            case rel => exact ⟨(true), (wrap64 (x4_1 * 2)), (by first | rfl | (simp; done) | (simp [*]; done)), (by first | rfl | (simp; done) | (simp [*]; done)), H', ⟨by have := HK1.out; omega⟩, by repeat (first | exact Drawn0.refl _ | apply Drawn0.step)⟩
          · replace c4 := Bool.eq_false_iff.mpr c4
            subst c4
            have H1 : (laws_FnPowerOfTwo.l0 k1 a0 (x4_1 == a0) (wrap64 (x4_1 * 2))) = some r := by rw [if_neg (show ¬ (false = true) by decide)] at H; exact H
            clear H
            have H := H1
            clear H1
            have H' := Aside0.mk H
            clear H
            go_wp2
            go_roundg k1
            case measure => have := HK1.out; omega
            case rel => exact ⟨((x4_1 == a0)), (wrap64 (x4_1 * 2)), (by first | rfl | (simp; done) | (simp [*]; done)), (by first | rfl | (simp; done) | (simp [*]; done)), H', ⟨by have := HK1.out; omega⟩, by repeat (first | exact Drawn0.refl _ | apply Drawn0.step)⟩
        · rw [if_neg c3] at H
          have c3b0 : decide (0 < x4_1) = false := decide_eq_false c3
          clear c3
          replace H := Option.bind_eq_some_iff.mp H
          obtain ⟨t103, A50, H⟩ := H
          replace H : (if (t103 == x3_1) = true then ((impl_PowerOfTwo.f 8).bind fun t104 => (some t104)) else (some false)) = some r := H
          have A5 := Aside0.mk A50
          clear A50
          by_cases c6 : (t103 == x3_1) = true
          · rw [if_pos c6] at H
            have c6b0 : (t103 == x3_1) = true := c6
            (try (have c6b1 : decide (t103 = x3_1) = true := by simpa using c6))
            (try (have c6b2 : (t103 == x3_1) = true := by simpa using c6))
            clear c6
            replace H := Option.bind_eq_some_iff.mp H
            obtain ⟨t104, A70, H⟩ := H
            replace H : (some t104) = some r := H
            have A7 := Aside0.mk A70
            clear A70
            obtain rfl := Option.some.inj H
            go_wp2_with (first | ((with_reducible refine gate_callee (f := 16) rfl ?_); refine goesL_ (some 18) rfl rfl Try.func16 (by kernel_rfl) rfl #[.int .i64 a0] rfl (by (try simp only [List.map_toArray, List.map_cons, List.map_nil]); first | done | rfl | (simp only [List.length_drop, List.length_take]; rfl)) ?_; (with_reducible refine (impl_PowerOfTwo.calls a0 t103 _ A5.out).mono ?_); rintro e w' ⟨rfl, ⟨nd, rfl⟩⟩; refine ⟨_, rfl, ?_⟩) | (go_at_call 16; (with_reducible refine (impl_PowerOfTwo.calls 8 t104 _ A7.out).mono ?_); rintro e w' ⟨rfl, ⟨nd, rfl⟩⟩))
            go_ret
            exact ⟨by first | rfl | (simp; done) | (simp [*]; done), by repeat (first | exact Drawn0.refl _ | apply Drawn0.step)⟩
          · rw [if_neg c6] at H
            have c6b0 : (t103 == x3_1) = false := by simpa using c6
            (try (have c6b1 : decide (t103 = x3_1) = false := by simpa using c6))
            (try (have c6b2 : (t103 == x3_1) = false := by simpa using c6))
            (try (have c6b3 : ¬ (t103 = x3_1) := by simpa using c6))
            clear c6
            obtain rfl := Option.some.inj H
            go_wp2_with (first | ((with_reducible refine gate_callee (f := 16) rfl ?_); refine goesL_ (some 18) rfl rfl Try.func16 (by kernel_rfl) rfl #[.int .i64 a0] rfl (by (try simp only [List.map_toArray, List.map_cons, List.map_nil]); first | done | rfl | (simp only [List.length_drop, List.length_take]; rfl)) ?_; (with_reducible refine (impl_PowerOfTwo.calls a0 t103 _ A5.out).mono ?_); rintro e w' ⟨rfl, ⟨nd, rfl⟩⟩; refine ⟨_, rfl, ?_⟩))
            go_ret
            exact ⟨by first | rfl | (simp; done) | (simp [*]; done), by repeat (first | exact Drawn0.refl _ | apply Drawn0.step)⟩

/-- THE ONE PURE STATEMENT of laws_FnPowerOfTwo: yours. -/
def laws_FnPowerOfTwo.Pure : Prop := ∀ (a0 : Int), (Lit.int .i64 a0).wf = true → ∃ k, laws_FnPowerOfTwo.f k a0 = some true
theorem laws_FnPowerOfTwo.walk (P : laws_FnPowerOfTwo.Pure) (a0 : Int) (w : World) (w0 : (Lit.int .i64 a0).wf = true) :
    Calls Try.prog 4 #[.int .i64 a0] w fun e w' => e = .returned (.bool true) ∧ Below w.heap.size w w' := by
  obtain ⟨k, h⟩ := P a0 w0
  refine (laws_FnPowerOfTwo.calls k a0 true w h).mono ?_
  rintro e w' ⟨rfl, hd⟩
  exact ⟨rfl, hd.below⟩

end Go.Proofs.Ytehfdefpajjmaaa.PFnPowerOfTwo
