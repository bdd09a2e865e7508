/- The default hash of a key is that of Fowler, Noll and Vo of 64 bits (1a): for all keys (of more than 2147483647 bytes nothing is asked). -/
import Derived.Test.YtehfdefpajjmaaaRows
import Derived.WalkKit
import Derived.ProofKit
namespace Go.Proofs.Ytehfdefpajjmaaa
open Go.RowKit

/-- FNV-1a over a list of bytes, from a state on. -/
def fnv (h : Int) : List UInt8 → Int
  | [] => h
  | c :: l => fnv (IntKind.u64.wrap (Go.bits .xor .u64 h (IntKind.u64.wrap (c.toNat : Int)) * 1099511628211)) l

theorem fnv_snoc (l : List UInt8) (c : UInt8) : ∀ h, fnv h (l ++ [c]) = IntKind.u64.wrap (Go.bits .xor .u64 (fnv h l) (IntKind.u64.wrap (c.toNat : Int)) * 1099511628211) := by
  induction l with
  | nil => intro h; rfl
  | cons a l ih => intro h; simp only [List.cons_append, fnv, ih]

theorem take_snoc (s : ByteArray) (k : Nat) (h : k < s.size) : s.data.toList.take (k + 1) = s.data.toList.take k ++ [s[k]] := by
  rw [List.take_succ_eq_append_getElem (by simpa using h)]; rfl

theorem fnv_step (s : ByteArray) (k : Nat) (h : k < s.size) (z : Int) : fnv z (s.data.toList.take (k + 1)) = IntKind.u64.wrap (Go.bits .xor .u64 (fnv z (s.data.toList.take k)) (IntKind.u64.wrap (s[k].toNat : Int)) * 1099511628211) := by
  rw [take_snoc s k h, fnv_snoc]

theorem hidden {p : Prop} (h : p) : Hid p := h
theorem ret_int {k : IntKind} {a b : Int} (h : a = b) : Ending.returned (.int k a) = .returned (.int k b) := by rw [h]

set_option maxHeartbeats 400000 in
theorem sum64 (s : ByteArray) (w : World) (hs : s.size ≤ maxLen) :
    Calls Try.prog 50 #[.agg #[], .string s] w fun e w' => e = .returned (.int .u64 (fnv 14695981039346656037 s.data.toList)) ∧ Below w.heap.size w w' := by
  unfold maxLen at hs
  go_enter Try.func50, Try.ntmps50
  go_wp2
  go_loop [5, 6] (fun h i => ∃ k : Nat, k ≤ s.size ∧ i = .int .i64 k ∧ h = .int .u64 (fnv 14695981039346656037 (s.data.toList.take k))) (fun _ i => s.size - (intOf i).toNat)
  case atStart => exact ⟨0, Nat.zero_le _, rfl, rfl⟩
  case round =>
    obtain ⟨k, hk, rfl, rfl⟩ := hrel
    by_cases hlt : k < s.size
    · have hst := hidden (fnv_step s k hlt 14695981039346656037)
      go_wp2
      go_round
      case rel => exact ⟨k + 1, by omega, by go_num, by rw [hst.out]⟩
      case measure => simp [intOf]; omega
    · go_wp2
      go_ret
      exact ⟨ret_int (by rw [List.take_of_length_le (by simp; omega)]), (Below.refl _ _).alloc (Nat.le_refl _) _⟩

set_option maxHeartbeats 400000 in
theorem fnv1a (s : ByteArray) (w : World) (hs : s.size ≤ maxLen) :
    Calls Try.prog 18 #[.string s] w fun e w' => e = .returned (.int .u64 (fnv 14695981039346656037 s.data.toList)) ∧ Below w.heap.size w w' := by
  unfold maxLen at hs
  go_enter Try.func18, Try.ntmps18
  go_wp2
  go_loop [3, 7] (fun h i => ∃ k : Nat, k ≤ s.size ∧ i = .int .i64 k ∧ h = .int .u64 (fnv 14695981039346656037 (s.data.toList.take k))) (fun _ i => s.size - (intOf i).toNat)
  case atStart => exact ⟨0, Nat.zero_le _, rfl, rfl⟩
  case round =>
    obtain ⟨k, hk, rfl, rfl⟩ := hrel
    by_cases hlt : k < s.size
    · have hst := hidden (fnv_step s k hlt 14695981039346656037)
      go_wp2
      go_round
      case rel => exact ⟨k + 1, by omega, by go_num, by rw [hst.out]⟩
      case measure => simp [intOf]; omega
    · go_wp2
      go_ret
      exact ⟨ret_int (by rw [List.take_of_length_le (by simp; omega)]), (Below.refl _ _)⟩

theorem zzfnv (s : ByteArray) (w : World) (hs : s.size ≤ maxLen) :
    Calls Try.prog 34 #[.string s] w fun e w' => e = .returned (.int .u64 (fnv 14695981039346656037 s.data.toList)) ∧ Below w.heap.size w w' := by
  go_enter Try.func34, Try.ntmps34
  go_wp2_with (go_at_call 50; refine (sum64 s _ hs).mono ?_; rintro e w' ⟨rfl, hb⟩)
  go_ret
  exact ⟨rfl, hb⟩

theorem implfnv (s : ByteArray) (w : World) (hs : s.size ≤ maxLen) :
    Calls Try.prog 17 #[.string s] w fun e w' => e = .returned (.int .u64 (fnv 14695981039346656037 s.data.toList)) ∧ Below w.heap.size w w' := by
  go_enter Try.func17, Try.ntmps17
  go_wp2_with (go_at_call 34; refine (zzfnv s _ hs).mono ?_; rintro e w' ⟨rfl, hb⟩)
  go_ret
  exact ⟨rfl, hb⟩

theorem lawfnv (s : ByteArray) (w : World) (hs : s.size ≤ maxLen) :
    Calls Try.prog 5 #[.string s] w fun e w' => e = .returned (.bool true) ∧ Below w.heap.size w w' := by
  by_cases h : (s.size : Int) > 2147483647
  · go_enter Try.func5, Try.ntmps5
    go_wp2
    go_ret
    exact ⟨rfl, Below.refl _ _⟩
  · go_enter Try.func5, Try.ntmps5
    go_wp2_with (first | (go_at_call 17; refine (implfnv s _ hs).mono ?_; rintro e w' ⟨rfl, hb⟩) | (go_at_call 18; refine (fnv1a s _ hs).mono ?_; rintro e w'' ⟨rfl, hb2⟩))
    go_ret
    exact ⟨by simp, hb.trans (hb2.mono hb.size)⟩
end Go.Proofs.Ytehfdefpajjmaaa
