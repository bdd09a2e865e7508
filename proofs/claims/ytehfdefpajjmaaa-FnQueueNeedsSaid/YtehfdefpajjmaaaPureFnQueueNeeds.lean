/- An entry needs its bytes, and those of a number in groups of 7 bits that tells how many it needs in all: for lengths from 0 to 2^31 (of others nothing is asked). -/
import Derived.Test.YtehfdefpajjmaaaPFnQueueNeedsx1
namespace Go.Proofs.Ytehfdefpajjmaaa.Pure
open Go.RowKit Go.Proofs.Ytehfdefpajjmaaa.PFnQueueNeeds Go.Proofs.YtehfdefpajjmaaaW.PrintWords Go.Proofs.YtehfdefpajjmaaaW.PrintLast

theorem w7 (j : Int) (h0 : 0 ≤ j) (h1 : j ≤ 9) : wrap64 (7 * j) = 7 * j := by unfold wrap64; omega
theorem wa (n j : Int) (h0 : 0 ≤ n) (h1 : n ≤ 2147483648) (h2 : 0 ≤ j) (h3 : j ≤ 9) : wrap64 (n + j) = n + j := by unfold wrap64; omega

theorem sh_at (n : Int) (h0 : 0 ≤ n) (h1 : n ≤ 2147483648) (j : Nat) (hj : j ≤ 8) : shr .i64 (wrap64 (n + (j : Int))) (wrap64 (7 * (j : Int))) = (n + j) / 2 ^ (7 * j) := by
  rw [w7 _ (by omega) (by omega), wa _ _ (by omega) (by omega) (by omega) (by omega)]
  have e : min (7 * (j : Int)).toNat 64 = 7 * j := by omega
  show (n + j) / 2 ^ (min (7 * (j : Int)).toNat 64) = _
  rw [e]

theorem stop (k : Nat) (n : Int) (h0 : 0 ≤ n) (h1 : n ≤ 2147483648) (j : Nat) (hj : j ≤ 8) (h : ¬ (n + j) / 2 ^ (7 * j) > 0) :
    spec_Needs.l0 (k + 1) n j = some (n + j) := by
  rw [spec_Needs.l0, if_pos (by omega), if_pos (by rw [w7 _ (by omega) (by omega)]; omega), sh_at n h0 h1 j hj, if_neg h, wa _ _ h0 h1 (by omega) (by omega)]

theorem go (k : Nat) (n : Int) (h0 : 0 ≤ n) (h1 : n ≤ 2147483648) (j : Nat) (hj : j ≤ 8) (h : (n + j) / 2 ^ (7 * j) > 0) :
    spec_Needs.l0 (k + 1) n j = spec_Needs.l0 k n ((j + 1 : Nat) : Int) := by
  have e : wrap64 ((j : Int) + 1) = ((j + 1 : Nat) : Int) := by unfold wrap64; omega
  rw [spec_Needs.l0, if_pos (by omega), if_pos (by rw [w7 _ (by omega) (by omega)]; omega), sh_at n h0 h1 j hj, if_pos h, e]

theorem needs (n : Int) (h0 : 0 ≤ n) (h1 : n ≤ 2147483648) : queue_getNeededSize.f n = spec_Needs.f 10 n := by
  unfold queue_getNeededSize.f spec_Needs.f
  by_cases c1 : n < 127
  · rw [if_pos c1]
    rw [show (1 : Int) = ((1 : Nat) : Int) from rfl]
    rw [stop 9 n h0 h1 1 (by omega) (by simp only [Nat.reduceMul, Int.reducePow]; omega), wa n _ h0 h1 (by omega) (by omega)]
  rw [if_neg c1, show spec_Needs.l0 10 n 1 = spec_Needs.l0 (9 + 1) n ((1 : Nat) : Int) from rfl, go 9 n h0 h1 1 (by omega) (by simp only [Nat.reduceMul, Int.reducePow]; omega)]
  by_cases c2 : n < 16382
  · rw [if_pos c2, stop 8 n h0 h1 2 (by omega) (by simp only [Nat.reduceMul, Int.reducePow]; omega), wa n _ h0 h1 (by omega) (by omega)]; rfl
  rw [if_neg c2, go 8 n h0 h1 2 (by omega) (by simp only [Nat.reduceMul, Int.reducePow]; omega)]
  by_cases c3 : n < 2097149
  · rw [if_pos c3, stop 7 n h0 h1 3 (by omega) (by simp only [Nat.reduceMul, Int.reducePow]; omega), wa n _ h0 h1 (by omega) (by omega)]; rfl
  rw [if_neg c3, go 7 n h0 h1 3 (by omega) (by simp only [Nat.reduceMul, Int.reducePow]; omega)]
  by_cases c4 : n < 268435452
  · rw [if_pos c4, stop 6 n h0 h1 4 (by omega) (by simp only [Nat.reduceMul, Int.reducePow]; omega), wa n _ h0 h1 (by omega) (by omega)]; rfl
  rw [if_neg c4, go 6 n h0 h1 4 (by omega) (by simp only [Nat.reduceMul, Int.reducePow]; omega)]
  rw [stop 5 n h0 h1 5 (by omega) (by simp only [Nat.reduceMul, Int.reducePow]; omega), wa n _ h0 h1 (by omega) (by omega)]; rfl

theorem FnQueueNeeds : laws_FnQueueNeeds.Pure := by
  intro n hn
  refine ⟨10, ?_⟩
  unfold laws_FnQueueNeeds.f
  by_cases h0 : n < 0
  · rw [if_pos h0]
  rw [if_neg h0]
  by_cases h1 : n > 2147483648
  · rw [if_pos h1]
  rw [if_neg h1]
  have hm : mx n 0 = n := by unfold mx; split <;> omega
  unfold impl_QueueNeeds.f queue_ZzNeeded.f
  rw [hm, ← needs n (by omega) (by omega)]
  have hs : ∃ r, queue_getNeededSize.f n = some r := by
    unfold queue_getNeededSize.f
    repeat (split; exact ⟨_, rfl⟩)
    exact ⟨_, rfl⟩
  obtain ⟨r, hr⟩ := hs
  rw [hr]; simp

end Go.Proofs.Ytehfdefpajjmaaa.Pure
