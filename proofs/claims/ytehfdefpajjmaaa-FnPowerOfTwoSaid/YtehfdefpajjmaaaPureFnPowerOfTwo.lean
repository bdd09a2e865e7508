/- A number of shards may be a power of two: for all numbers from 0 on (below 0 nothing is asked). -/
import Derived.Test.YtehfdefpajjmaaaPFnPowerOfTwox1
namespace Go.Proofs.Ytehfdefpajjmaaa.Pure
open Go.RowKit Go.Proofs.Ytehfdefpajjmaaa.PFnPowerOfTwo Go.Proofs.YtehfdefpajjmaaaW.PrintWords Go.Proofs.YtehfdefpajjmaaaW.PrintLast

/-- Is a number one of the powers 2^(63 - d), .., 2^62? -/
def anyPow (n : Int) : Nat → Bool
  | 0 => false
  | d + 1 => (2 ^ (62 - d) == n) || anyPow n d

theorem anyPow_iff (n : Int) (d : Nat) (hd : d ≤ 63) : anyPow n d = true ↔ ∃ j : Nat, 63 - d ≤ j ∧ j ≤ 62 ∧ (2 : Int) ^ j = n := by
  induction d with
  | zero => simp [anyPow]; intro j h1 h2; omega
  | succ d ih =>
    simp only [anyPow, Bool.or_eq_true, beq_iff_eq, ih (by omega)]
    constructor
    · rintro (h | ⟨j, h1, h2, h3⟩)
      · exact ⟨62 - d, by omega, by omega, h⟩
      · exact ⟨j, by omega, h2, h3⟩
    · rintro ⟨j, h1, h2, h3⟩
      by_cases e : j = 62 - d
      · subst e; exact Or.inl h3
      · exact Or.inr ⟨j, by omega, h2, h3⟩

theorem pow_lt_62 : ∀ d : Nat, d < 62 → wrap64 ((2 : Int) ^ (62 - (d + 1)) * 2) = 2 ^ (62 - d) := by
  decide +kernel
theorem pow_62 : wrap64 ((2 : Int) ^ 62 * 2) = -9223372036854775808 := by decide +kernel
theorem pow_pos (d : Nat) : (2 : Int) ^ (62 - d) > 0 := Int.pow_pos (by decide)

theorem end_l (n : Int) (b : Bool) : laws_FnPowerOfTwo.l0 1 n b (-9223372036854775808) = ((impl_PowerOfTwo.f n).bind fun t103 => (if (t103 == b) = true then ((impl_PowerOfTwo.f 8).bind fun t104 => (some t104)) else (some false))) := by
  simp only [laws_FnPowerOfTwo.l0]
  rw [if_neg (by decide)]

theorem loop (n : Int) (d : Nat) (hd : d < 63) : ∀ b, laws_FnPowerOfTwo.l0 (d + 2) n b (2 ^ (62 - d)) = laws_FnPowerOfTwo.l0 1 n (b || anyPow n (d + 1)) (-9223372036854775808) := by
  induction d with
  | zero =>
    intro b
    rw [laws_FnPowerOfTwo.l0, if_pos (pow_pos 0)]
    simp only [Nat.sub_zero, pow_62, anyPow, Bool.or_false]
    cases b <;> simp
  | succ d ih =>
    intro b
    rw [laws_FnPowerOfTwo.l0, if_pos (pow_pos _), pow_lt_62 d (by omega), anyPow]
    cases b
    · rw [if_neg (by simp), ih (by omega)]; simp
    · rw [if_pos rfl, ih (by omega)]; simp

theorem bits_pow (n : Int) (h0 : 0 < n) (h1 : n < 9223372036854775808) : (Go.bits .and .i64 n (wrap64 (n - 1)) == 0) = decide (n.toNat.isPowerOfTwo) := by
  obtain ⟨m, rfl⟩ := Int.eq_ofNat_of_zero_le (show 0 ≤ n by omega)
  have hm : m ≠ 0 := by omega
  have e : wrap64 ((m : Int) - 1) = ((m - 1 : Nat) : Int) := by unfold wrap64; omega
  rw [e]
  have hb : (BitVec.ofInt 64 ((m : Nat) : Int) &&& BitVec.ofInt 64 ((m - 1 : Nat) : Int)).toNat = m &&& (m - 1) := by
    rw [BitVec.toNat_and, BitVec.ofInt_natCast, BitVec.ofInt_natCast, BitVec.toNat_ofNat, BitVec.toNat_ofNat, Nat.mod_eq_of_lt (by omega), Nat.mod_eq_of_lt (by omega)]
  have hle : m &&& (m - 1) ≤ m := Nat.and_le_left
  have hw : IntKind.i64.wrap (((m &&& (m - 1) : Nat) : Int)) = ((m &&& (m - 1) : Nat) : Int) := by
    rw [IntWalk.i64_in _ ⟨by omega, by omega⟩]
  have hbits : Go.bits .and .i64 (m : Int) ((m - 1 : Nat) : Int) = ((m &&& (m - 1) : Nat) : Int) := by
    show IntKind.i64.wrap (((BitVec.ofInt 64 ((m : Nat) : Int) &&& BitVec.ofInt 64 ((m - 1 : Nat) : Int)).toNat : Nat) : Int) = _
    rw [hb, hw]
  rw [hbits, Int.toNat_natCast, Bool.eq_iff_iff, decide_eq_true_eq, ← Nat.and_sub_one_eq_zero_iff_isPowerOfTwo hm, beq_iff_eq]
  omega

theorem impl_pow (n : Int) (h0 : 0 ≤ n) (h1 : n < 9223372036854775808) : impl_PowerOfTwo.f n = some (anyPow n 63) := by
  unfold impl_PowerOfTwo.f bigcache_ZzPowerOfTwo.f bigcache_isPowerOfTwo.f
  by_cases h : n = 0
  · subst h
    have : anyPow 0 63 = false := by decide +kernel
    simp [this]
  · rw [if_neg h, bits_pow n (by omega) h1]
    simp only [Option.bind_some, Option.some.injEq]
    rw [Bool.eq_iff_iff, decide_eq_true_eq, anyPow_iff n 63 (by omega)]
    constructor
    · rintro ⟨k, hk⟩
      have hn : (2 : Int) ^ k = n := by
        have : ((2 ^ k : Nat) : Int) = n := by omega
        rw [← this]; simp
      refine ⟨k, by omega, ?_, hn⟩
      refine Nat.le_of_not_lt fun hlt => ?_
      have : 2 ^ 63 ≤ 2 ^ k := Nat.pow_le_pow_right (by decide) hlt
      omega
    · rintro ⟨j, _, _, hj⟩
      refine ⟨j, ?_⟩
      have : ((2 ^ j : Nat) : Int) = n := by rw [← hj]; simp
      omega

theorem FnPowerOfTwo : laws_FnPowerOfTwo.Pure := by
  intro n hn
  refine ⟨64, ?_⟩
  unfold laws_FnPowerOfTwo.f
  by_cases h : n < 0
  · rw [if_pos h]
  · rw [if_neg h]
    have hl := loop n 62 (by omega) false
    simp only [Nat.sub_self, Int.pow_zero, Bool.false_or] at hl
    rw [hl, end_l]
    have h8 : impl_PowerOfTwo.f 8 = some true := by decide +kernel
    have hwf : n < 9223372036854775808 := by
      simp [Lit.wf] at hn; omega
    rw [impl_pow n (by omega) hwf, h8]
    simp

end Go.Proofs.Ytehfdefpajjmaaa.Pure
