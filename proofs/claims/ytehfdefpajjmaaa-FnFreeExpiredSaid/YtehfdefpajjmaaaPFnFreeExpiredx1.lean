-- PRINTED BY print.sh 35421559b90ae4d0a3588c463048766b98c2df88dd9212a6774a882060cdf62d: not written by this session
import Derived.Test.YtehfdefpajjmaaaPFnFreeExpiredx0
namespace Go.Proofs.Ytehfdefpajjmaaa.PFnFreeExpired
open Go.RowKit Go.Proofs.YtehfdefpajjmaaaW.PrintWords Go.Proofs.YtehfdefpajjmaaaW.PrintLast Go.Proofs.YtehfdefpajjmaaaW.PrintMore
attribute [local go_sem] max2_int min2_int max_two min_two max_three min_three max_four min_four   -- for this text's walks alone
set_option linter.unusedVariables false
set_option linter.unusedSimpArgs false

/-! ### freecache_isExpired: function 48 -/
def freecache_isExpired.f (a0 : Int) (a1 : Int) : Option (Bool) := if a0 = 0 then (some false) else (some (decide (a0 ≤ a1)))
set_option maxHeartbeats 8000000 in
set_option maxRecDepth 100000 in
theorem freecache_isExpired.calls (a0 : Int) (a1 : Int) (r : Bool) (w : World) (h : freecache_isExpired.f a0 a1 = some r) :
    Calls Try.prog 48 #[.int .u32 a0, .int .u32 a1] w fun e w' => e = .returned (.bool r) ∧ Drawn0 w w' := by
  have H : (if a0 = 0 then (some false) else (some (decide (a0 ≤ a1)))) = some r := h
  clear h
  by_cases c3 : a0 = 0
  · rw [if_pos c3] at H
    have c3b0 : (a0 == 0) = true := beq_iff_eq.mpr c3
    have c3b1 : (a0 != 0) = false := bne_eq_false_iff_eq.mpr c3
    clear c3
    obtain rfl := Option.some.inj H
    go_enter Try.func48, Try.ntmps48
    go_wp2
    go_ret
    exact ⟨by first | rfl | (simp; done) | (simp [*]; done), by repeat (first | exact Drawn0.refl _ | apply Drawn0.step)⟩
  · rw [if_neg c3] at H
    have c3b0 : (a0 == 0) = false := beq_eq_false_iff_ne.mpr c3
    have c3b1 : (a0 != 0) = true := bne_iff_ne.mpr c3
    obtain rfl := Option.some.inj H
    go_enter Try.func48, Try.ntmps48
    go_wp2
    go_ret
    exact ⟨by first | rfl | (simp; done) | (simp [*]; done), by repeat (first | exact Drawn0.refl _ | apply Drawn0.step)⟩

/-! ### freecache_ZzExpired: function 32 -/
def freecache_ZzExpired.f (a0 : Int) (a1 : Int) : Option (Bool) := (freecache_isExpired.f a0 a1).bind fun t101 => (some t101)
set_option maxHeartbeats 8000000 in
set_option maxRecDepth 100000 in
theorem freecache_ZzExpired.calls (a0 : Int) (a1 : Int) (r : Bool) (w : World) (h : freecache_ZzExpired.f a0 a1 = some r) :
    Calls Try.prog 32 #[.int .u32 a0, .int .u32 a1] w fun e w' => e = .returned (.bool r) ∧ Drawn0 w w' := by
  have H : ((freecache_isExpired.f a0 a1).bind fun t101 => (some t101)) = some r := h
  clear h
  replace H := Option.bind_eq_some_iff.mp H
  obtain ⟨t101, A30, H⟩ := H
  replace H : (some t101) = some r := H
  have A3 := Aside0.mk A30
  clear A30
  obtain rfl := Option.some.inj H
  go_enter Try.func32, Try.ntmps32
  go_wp2_with (first | ((with_reducible refine gate_callee (f := 48) rfl ?_); refine goesL_ (some 7) rfl rfl Try.func48 (by kernel_rfl) rfl #[.int .u32 a0, .int .u32 a1] rfl (by (try simp only [List.map_toArray, List.map_cons, List.map_nil]); first | done | rfl | (simp only [List.length_drop, List.length_take]; rfl)) ?_; (with_reducible refine (freecache_isExpired.calls a0 a1 t101 _ A3.out).mono ?_); rintro e w' ⟨rfl, ⟨nd, rfl⟩⟩; refine ⟨_, rfl, ?_⟩))
  go_ret
  exact ⟨by first | rfl | (simp; done) | (simp [*]; done), by repeat (first | exact Drawn0.refl _ | apply Drawn0.step)⟩

/-! ### impl_FreeExpired: function 14 -/
def impl_FreeExpired.f (a0 : Int) (a1 : Int) : Option (Bool) := (freecache_ZzExpired.f a0 a1).bind fun t102 => (some t102)
set_option maxHeartbeats 8000000 in
set_option maxRecDepth 100000 in
theorem impl_FreeExpired.calls (a0 : Int) (a1 : Int) (r : Bool) (w : World) (h : impl_FreeExpired.f a0 a1 = some r) :
    Calls Try.prog 14 #[.int .u32 a0, .int .u32 a1] w fun e w' => e = .returned (.bool r) ∧ Drawn0 w w' := by
  have H : ((freecache_ZzExpired.f a0 a1).bind fun t102 => (some t102)) = some r := h
  clear h
  replace H := Option.bind_eq_some_iff.mp H
  obtain ⟨t102, A30, H⟩ := H
  replace H : (some t102) = some r := H
  have A3 := Aside0.mk A30
  clear A30
  obtain rfl := Option.some.inj H
  go_enter Try.func14, Try.ntmps14
  go_wp2_with (first | ((with_reducible refine gate_callee (f := 32) rfl ?_); refine goesL_ (some 7) rfl rfl Try.func32 (by kernel_rfl) rfl #[.int .u32 a0, .int .u32 a1] rfl (by (try simp only [List.map_toArray, List.map_cons, List.map_nil]); first | done | rfl | (simp only [List.length_drop, List.length_take]; rfl)) ?_; (with_reducible refine (freecache_ZzExpired.calls a0 a1 t102 _ A3.out).mono ?_); rintro e w' ⟨rfl, ⟨nd, rfl⟩⟩; refine ⟨_, rfl, ?_⟩))
  go_ret
  exact ⟨by first | rfl | (simp; done) | (simp [*]; done), by repeat (first | exact Drawn0.refl _ | apply Drawn0.step)⟩

/-! ### spec_FreeExpired: function 15 -/
def spec_FreeExpired.f (a0 : Int) (a1 : Int) : Option (Bool) := if a0 = 0 then (some false) else (some (decide (a0 ≤ a1)))
set_option maxHeartbeats 8000000 in
set_option maxRecDepth 100000 in
theorem spec_FreeExpired.calls (a0 : Int) (a1 : Int) (r : Bool) (w : World) (h : spec_FreeExpired.f a0 a1 = some r) :
    Calls Try.prog 15 #[.int .u32 a0, .int .u32 a1] w fun e w' => e = .returned (.bool r) ∧ Drawn0 w w' := by
  have H : (if a0 = 0 then (some false) else (some (decide (a0 ≤ a1)))) = some r := h
  clear h
  by_cases c3 : a0 = 0
  · rw [if_pos c3] at H
    have c3b0 : (a0 == 0) = true := beq_iff_eq.mpr c3
    have c3b1 : (a0 != 0) = false := bne_eq_false_iff_eq.mpr c3
    clear c3
    obtain rfl := Option.some.inj H
    go_enter Try.func15, Try.ntmps15
    go_wp2
    go_ret
    exact ⟨by first | rfl | (simp; done) | (simp [*]; done), by repeat (first | exact Drawn0.refl _ | apply Drawn0.step)⟩
  · rw [if_neg c3] at H
    have c3b0 : (a0 == 0) = false := beq_eq_false_iff_ne.mpr c3
    have c3b1 : (a0 != 0) = true := bne_iff_ne.mpr c3
    obtain rfl := Option.some.inj H
    go_enter Try.func15, Try.ntmps15
    go_wp2
    go_ret
    exact ⟨by first | rfl | (simp; done) | (simp [*]; done), by repeat (first | exact Drawn0.refl _ | apply Drawn0.step)⟩

/-! ### laws_FnFreeExpired: function 3 -/
def laws_FnFreeExpired.f (a0 : Int) (a1 : Int) : Option (Bool) := (impl_FreeExpired.f a0 a1).bind fun t103 => ((spec_FreeExpired.f a0 a1).bind fun t104 => (if (t103 == t104) = true then ((impl_FreeExpired.f 5 5).bind fun t105 => (some t105)) else (some false)))
set_option maxHeartbeats 8000000 in
set_option maxRecDepth 100000 in
theorem laws_FnFreeExpired.calls (a0 : Int) (a1 : Int) (r : Bool) (w : World) (h : laws_FnFreeExpired.f a0 a1 = some r) :
    Calls Try.prog 3 #[.int .u32 a0, .int .u32 a1] w fun e w' => e = .returned (.bool r) ∧ Drawn0 w w' := by
  have H : ((impl_FreeExpired.f a0 a1).bind fun t103 => ((spec_FreeExpired.f a0 a1).bind fun t104 => (if (t103 == t104) = true then ((impl_FreeExpired.f 5 5).bind fun t105 => (some t105)) else (some false)))) = some r := h
  clear h
  replace H := Option.bind_eq_some_iff.mp H
  obtain ⟨t103, A30, H⟩ := H
  replace H : ((spec_FreeExpired.f a0 a1).bind fun t104 => (if (t103 == t104) = true then ((impl_FreeExpired.f 5 5).bind fun t105 => (some t105)) else (some false))) = some r := H
  have A3 := Aside0.mk A30
  clear A30
  replace H := Option.bind_eq_some_iff.mp H
  obtain ⟨t104, A40, H⟩ := H
  replace H : (if (t103 == t104) = true then ((impl_FreeExpired.f 5 5).bind fun t105 => (some t105)) else (some false)) = some r := H
  have A4 := Aside0.mk A40
  clear A40
  by_cases c5 : (t103 == t104) = true
  · rw [if_pos c5] at H
    have c5b0 : (t103 == t104) = true := c5
    (try (have c5b1 : decide (t103 = t104) = true := by simpa using c5))
    (try (have c5b2 : (t103 == t104) = true := by simpa using c5))
    clear c5
    replace H := Option.bind_eq_some_iff.mp H
    obtain ⟨t105, A60, H⟩ := H
    replace H : (some t105) = some r := H
    have A6 := Aside0.mk A60
    clear A60
    obtain rfl := Option.some.inj H
    go_enter Try.func3, Try.ntmps3
    go_wp2_with (first | ((with_reducible refine gate_callee (f := 14) rfl ?_); refine goesL_ (some 7) rfl rfl Try.func14 (by kernel_rfl) rfl #[.int .u32 a0, .int .u32 a1] rfl (by (try simp only [List.map_toArray, List.map_cons, List.map_nil]); first | done | rfl | (simp only [List.length_drop, List.length_take]; rfl)) ?_; (with_reducible refine (impl_FreeExpired.calls a0 a1 t103 _ A3.out).mono ?_); rintro e w' ⟨rfl, ⟨nd, rfl⟩⟩; refine ⟨_, rfl, ?_⟩) | ((with_reducible refine gate_callee (f := 15) rfl ?_); refine goesL_ (some 10) rfl rfl Try.func15 (by kernel_rfl) rfl #[.int .u32 a0, .int .u32 a1] rfl (by (try simp only [List.map_toArray, List.map_cons, List.map_nil]); first | done | rfl | (simp only [List.length_drop, List.length_take]; rfl)) ?_; (with_reducible refine (spec_FreeExpired.calls a0 a1 t104 _ A4.out).mono ?_); rintro e w' ⟨rfl, ⟨nd, rfl⟩⟩; refine ⟨_, rfl, ?_⟩) | (go_at_call 14; (with_reducible refine (impl_FreeExpired.calls 5 5 t105 _ A6.out).mono ?_); rintro e w' ⟨rfl, ⟨nd, rfl⟩⟩))
    go_ret
    exact ⟨by first | rfl | (simp; done) | (simp [*]; done), by repeat (first | exact Drawn0.refl _ | apply Drawn0.step)⟩
  · rw [if_neg c5] at H
    have c5b0 : (t103 == t104) = false := by simpa using c5
    (try (have c5b1 : decide (t103 = t104) = false := by simpa using c5))
    (try (have c5b2 : (t103 == t104) = false := by simpa using c5))
    (try (have c5b3 : ¬ (t103 = t104) := by simpa using c5))
    clear c5
    obtain rfl := Option.some.inj H
    go_enter Try.func3, Try.ntmps3
    go_wp2_with (first | ((with_reducible refine gate_callee (f := 14) rfl ?_); refine goesL_ (some 7) rfl rfl Try.func14 (by kernel_rfl) rfl #[.int .u32 a0, .int .u32 a1] rfl (by (try simp only [List.map_toArray, List.map_cons, List.map_nil]); first | done | rfl | (simp only [List.length_drop, List.length_take]; rfl)) ?_; (with_reducible refine (impl_FreeExpired.calls a0 a1 t103 _ A3.out).mono ?_); rintro e w' ⟨rfl, ⟨nd, rfl⟩⟩; refine ⟨_, rfl, ?_⟩) | ((with_reducible refine gate_callee (f := 15) rfl ?_); refine goesL_ (some 10) rfl rfl Try.func15 (by kernel_rfl) rfl #[.int .u32 a0, .int .u32 a1] rfl (by (try simp only [List.map_toArray, List.map_cons, List.map_nil]); first | done | rfl | (simp only [List.length_drop, List.length_take]; rfl)) ?_; (with_reducible refine (spec_FreeExpired.calls a0 a1 t104 _ A4.out).mono ?_); rintro e w' ⟨rfl, ⟨nd, rfl⟩⟩; refine ⟨_, rfl, ?_⟩))
    go_ret
    exact ⟨by first | rfl | (simp; done) | (simp [*]; done), by repeat (first | exact Drawn0.refl _ | apply Drawn0.step)⟩

/-- THE ONE PURE STATEMENT of laws_FnFreeExpired: yours. -/
def laws_FnFreeExpired.Pure : Prop := ∀ (a0 : Int) (a1 : Int), (Lit.int .u32 a0).wf = true → (Lit.int .u32 a1).wf = true → laws_FnFreeExpired.f a0 a1 = some true
theorem laws_FnFreeExpired.walk (P : laws_FnFreeExpired.Pure) (a0 : Int) (a1 : Int) (w : World) (w0 : (Lit.int .u32 a0).wf = true) (w1 : (Lit.int .u32 a1).wf = true) :
    Calls Try.prog 3 #[.int .u32 a0, .int .u32 a1] w fun e w' => e = .returned (.bool true) ∧ Below w.heap.size w w' := by
  have h := P a0 a1 w0 w1
  refine (laws_FnFreeExpired.calls a0 a1 true w h).mono ?_
  rintro e w' ⟨rfl, hd⟩
  exact ⟨rfl, hd.below⟩

end Go.Proofs.Ytehfdefpajjmaaa.PFnFreeExpired
