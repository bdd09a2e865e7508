/- The hash of a key goes on from that of its beginning. -/
import Derived.Test.YtkfkcinkkgdebaaLv
namespace Go.Proofs.Ytkfkcinkkgdebaa
open Go Go.RowKit Go.Vil
set_option linter.unusedSimpArgs false
set_option linter.unusedVariables false

/-- FNV-1a over a list of bytes, from a state on. -/
def fnv (h : Int) : List UInt8 → Int
  | [] => h
  | c :: l => fnv (IntKind.u64.wrap (Go.bits .xor .u64 h (IntKind.u64.wrap (c.toNat : Int)) * 1099511628211)) l

theorem fnv_append (l m : List UInt8) : ∀ h, fnv h (l ++ m) = fnv (fnv h l) m := by
  induction l with
  | nil => intro h; rfl
  | cons a l ih => intro h; simp only [List.cons_append, fnv, ih]
theorem fnv_snoc (l : List UInt8) (c : UInt8) (h : Int) : fnv h (l ++ [c]) = IntKind.u64.wrap (Go.bits .xor .u64 (fnv h l) (IntKind.u64.wrap (c.toNat : Int)) * 1099511628211) := by
  rw [fnv_append]; rfl

theorem take_snoc (s : ByteArray) (k : Nat) (h : k < s.size) : s.data.toList.take (k + 1) = s.data.toList.take k ++ [s[k]] := by
  rw [List.take_succ_eq_append_getElem (by simpa using h)]; rfl

theorem fnv_step (s : ByteArray) (k : Nat) (h : k < s.size) (z : Int) : fnv z (s.data.toList.take (k + 1)) = IntKind.u64.wrap (Go.bits .xor .u64 (fnv z (s.data.toList.take k)) (IntKind.u64.wrap (s[k].toNat : Int)) * 1099511628211) := by
  rw [take_snoc s k h, fnv_snoc]
theorem ret_int {k : IntKind} {a b : Int} (h : a = b) : Ending.returned (.int k a) = .returned (.int k b) := by rw [h]

set_option maxHeartbeats 400000 in
theorem sum64 (s : ByteArray) (w : World) (hs : s.size ≤ maxLen) :
    Calls Try.prog 71 #[.agg #[], .string s] w fun e w' => e = .returned (.int .u64 (fnv 14695981039346656037 s.data.toList)) ∧ Below w.heap.size w w' := by
  unfold maxLen at hs
  go_enter Try.func71, Try.ntmps71
  go_wp2
  go_loop [5, 6] (fun h i => ∃ k : Nat, k ≤ s.size ∧ i = .int .i64 k ∧ h = .int .u64 (fnv 14695981039346656037 (s.data.toList.take k))) (fun _ i => s.size - (intOf i).toNat)
  case atStart => exact ⟨0, Nat.zero_le _, rfl, rfl⟩
  case round =>
    obtain ⟨k, hk, rfl, rfl⟩ := hrel
    by_cases hlt : k < s.size
    · have hst := hidden (fnv_step s k hlt 14695981039346656037)
      go_wp2
      go_round
      case rel => exact ⟨k + 1, by omega, by go_num, by rw [hst.out]⟩
      case measure => simp [intOf]; omega
    · go_wp2
      go_ret
      exact ⟨ret_int (by rw [List.take_of_length_le (by simp; omega)]), (Below.refl _ _).alloc (Nat.le_refl _) _⟩

theorem zzfnv (s : ByteArray) (w : World) (hs : s.size ≤ maxLen) :
    Calls Try.prog 39 #[.string s] w fun e w' => e = .returned (.int .u64 (fnv 14695981039346656037 s.data.toList)) ∧ Below w.heap.size w w' := by
  go_enter Try.func39, Try.ntmps39
  go_wp2_with (go_at_call 71; refine (sum64 s _ hs).mono ?_; rintro e w' ⟨rfl, hb⟩)
  go_ret
  exact ⟨rfl, hb⟩

theorem implfnv (s : ByteArray) (w : World) (hs : s.size ≤ maxLen) :
    Calls Try.prog 20 #[.string s] w fun e w' => e = .returned (.int .u64 (fnv 14695981039346656037 s.data.toList)) ∧ Below w.heap.size w w' := by
  go_enter Try.func20, Try.ntmps20
  go_wp2_with (go_at_call 39; refine (zzfnv s _ hs).mono ?_; rintro e w' ⟨rfl, hb⟩)
  go_ret
  exact ⟨rfl, hb⟩

set_option maxHeartbeats 800000 in
theorem lawparts (a b : ByteArray) (w : World) (ha : a.size ≤ maxLen) (hb : b.size ≤ maxLen) :
    Calls Try.prog 7 #[.string a, .string b] w fun e w' => e = .returned (.bool true) ∧ Below w.heap.size w w' := by
  by_cases h : (a.size : Int) > 2147483647
  · go_enter Try.func7, Try.ntmps7
    go_wp2
    go_ret
    exact ⟨rfl, Below.refl _ _⟩
  by_cases h' : (b.size : Int) > 2147483647
  · go_enter Try.func7, Try.ntmps7
    go_wp2
    go_ret
    exact ⟨rfl, Below.refl _ _⟩
  have hab : (a ++ b).size ≤ maxLen := by rw [ByteArray.size_append]; unfold maxLen; omega
  go_enter Try.func7, Try.ntmps7
  go_wp2_with (go_at_call 20; refine (implfnv a _ ha).mono ?_; rintro e w' ⟨rfl, hb1⟩)
  go_loop [5, 6, 19] (fun h x i => ∃ k : Nat, k ≤ b.size ∧ i = .int .i64 k ∧ h = .int .u64 (fnv 14695981039346656037 (a.data.toList ++ b.data.toList.take k))) (fun _ _ i => b.size - (intOf i).toNat)
  case atStart => exact ⟨0, Nat.zero_le _, rfl, by rw [List.take_zero, List.append_nil]⟩
  case round =>
    obtain ⟨k, hk, rfl, rfl⟩ := hrel
    by_cases hlt : k < b.size
    · have hst : Hid (fnv 14695981039346656037 (a.data.toList ++ b.data.toList.take (k + 1)) = IntKind.u64.wrap (Go.bits .xor .u64 (fnv 14695981039346656037 (a.data.toList ++ b.data.toList.take k)) (IntKind.u64.wrap (b[k].toNat : Int)) * 1099511628211)) := by
        rw [take_snoc b k hlt, ← List.append_assoc, fnv_snoc]; exact rfl
      go_wp2
      go_round
      case rel => exact ⟨k + 1, by omega, by go_num, by rw [hst.out]⟩
      case measure => simp [intOf]; omega
    · have hall : b.data.toList.take k = b.data.toList := List.take_of_length_le (by simp; omega)
      rw [hall]
      have he : (a ++ b).data.toList = a.data.toList ++ b.data.toList := by simp
      go_wp2_with (first | (go_at_call 20; refine (implfnv (a ++ b) _ hab).mono ?_; rintro e w2 ⟨rfl, hb2⟩; rw [he]) | (go_at_call 18; refine (quLives _).mono ?_; rintro e w3 ⟨rfl, C3⟩))
      go_ret
      exact ⟨rfl, (hb1.trans (hb2.mono hb1.size)).trans (C3.chg.below.mono (Nat.le_trans hb1.size hb2.size))⟩
end Go.Proofs.Ytkfkcinkkgdebaa
