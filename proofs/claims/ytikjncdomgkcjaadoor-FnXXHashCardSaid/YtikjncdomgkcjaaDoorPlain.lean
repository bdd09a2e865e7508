/- Plain facts on lists of bytes: written over, numbers as bytes. -/
import Derived.RowKit
namespace Go.Vil

/-- A list with some of its elements written over from a place on. -/
def splice {α : Type} (l : List α) (i : Nat) (xs : List α) : List α := l.take i ++ xs ++ l.drop (i + xs.length)

theorem splice_length {α : Type} (l : List α) (i : Nat) (xs : List α) (h : i + xs.length ≤ l.length) : (splice l i xs).length = l.length := by
  simp [splice]; omega
theorem splice_nil {α : Type} (l : List α) (i : Nat) : splice l i [] = l := by simp [splice]
theorem splice_get? {α : Type} (l : List α) (i : Nat) (xs : List α) (h : i + xs.length ≤ l.length) (k : Nat) :
    (splice l i xs)[k]? = if k < i then l[k]? else if k < i + xs.length then xs[k - i]? else l[k]? := by
  unfold splice
  have hi : min i l.length = i := by omega
  by_cases h1 : k < i
  · rw [if_pos h1, List.append_assoc, List.getElem?_append_left (by simp; omega), List.getElem?_take, if_pos h1]
  · rw [if_neg h1, List.append_assoc, List.getElem?_append_right (by simp; omega)]
    simp only [List.length_take, hi]
    by_cases h2 : k < i + xs.length
    · rw [if_pos h2, List.getElem?_append_left (by omega)]
    · rw [if_neg h2, List.getElem?_append_right (by omega), List.getElem?_drop]
      congr 1; omega
theorem set_splice {α : Type} (l : List α) (i : Nat) (xs : List α) (x : α) (h : i + xs.length < l.length) : (splice l i xs).set (i + xs.length) x = splice l i (xs ++ [x]) := by
  apply List.ext_getElem?
  intro k
  rw [List.getElem?_set, splice_length _ _ _ (by omega), splice_get? _ _ _ (by omega), splice_get? _ _ _ (by simp; omega)]
  simp only [List.length_append, List.length_singleton]
  by_cases h1 : i + xs.length = k
  · subst h1
    rw [if_pos rfl, if_pos h, if_neg (by omega), if_pos (by omega), show i + xs.length - i = xs.length by omega]
    simp
  · rw [if_neg h1]
    by_cases h2 : k < i
    · simp [h2]
    · by_cases h3 : k < i + xs.length
      · rw [if_neg h2, if_neg h2, if_pos h3, if_pos (by omega), List.getElem?_append_left (by omega)]
      · rw [if_neg h2, if_neg h2, if_neg h3, if_neg (by omega)]
theorem set_one {α : Type} (l : List α) (i : Nat) (x : α) (h : i < l.length) : l.set i x = splice l i [x] := by
  have := set_splice l i [] x (by simpa using h)
  simpa [splice_nil] using this

theorem set_two {α : Type} (l : List α) (i : Nat) (a b : α) (h : i + 2 ≤ l.length) : (l.set i a).set (i + 1) b = splice l i [a, b] := by
  rw [set_one l i a (by omega)]
  exact set_splice l i [a] b (by simp; omega)
theorem set_four {α : Type} (l : List α) (i : Nat) (a b c d : α) (h : i + 4 ≤ l.length) : (((l.set i a).set (i + 1) b).set (i + 2) c).set (i + 3) d = splice l i [a, b, c, d] := by
  rw [set_two l i a b (by omega), show i + 2 = i + [a, b].length from rfl, set_splice l i [a, b] c (by simp; omega)]
  exact set_splice l i [a, b, c] d (by simp; omega)
theorem set_eight {α : Type} (l : List α) (i : Nat) (a b c d e f g h : α) (hl : i + 8 ≤ l.length) :
    (((((((l.set i a).set (i + 1) b).set (i + 2) c).set (i + 3) d).set (i + 4) e).set (i + 5) f).set (i + 6) g).set (i + 7) h = splice l i [a, b, c, d, e, f, g, h] := by
  rw [set_four l i a b c d (by omega), show i + 4 = i + [a, b, c, d].length from rfl, set_splice l i [a, b, c, d] e (by simp; omega),
    show i + 5 = i + [a, b, c, d, e].length from rfl, show [a, b, c, d] ++ [e] = [a, b, c, d, e] from rfl, set_splice l i [a, b, c, d, e] f (by simp; omega),
    show i + 6 = i + [a, b, c, d, e, f].length from rfl, show [a, b, c, d, e] ++ [f] = [a, b, c, d, e, f] from rfl, set_splice l i [a, b, c, d, e, f] g (by simp; omega)]
  exact set_splice l i [a, b, c, d, e, f, g] h (by simp; omega)

theorem splice_at {α : Type} (l : List α) (i : Nat) (xs : List α) (h : i + xs.length ≤ l.length) : ((splice l i xs).drop i).take xs.length = xs := by
  unfold splice
  have hi : (l.take i).length = i := by simp; omega
  rw [List.append_assoc, List.drop_append, hi, Nat.sub_self, List.drop_zero, List.drop_eq_nil_of_le (by omega), List.nil_append, List.take_left]

/-- Writing over what was just written, behind it: both together. -/
theorem splice_splice {α : Type} (l : List α) (i : Nat) (xs ys : List α) (h : i + xs.length + ys.length ≤ l.length) : splice (splice l i xs) (i + xs.length) ys = splice l i (xs ++ ys) := by
  apply List.ext_getElem?
  intro k
  rw [splice_get? _ _ _ (by rw [splice_length _ _ _ (by omega)]; omega), splice_get? _ _ _ (by omega), splice_get? _ _ _ (by simp; omega)]
  simp only [List.length_append]
  by_cases h1 : k < i
  · rw [if_pos (by omega), if_pos h1, if_pos h1]
  · by_cases h2 : k < i + xs.length
    · rw [if_pos h2, if_neg h1, if_pos h2, if_neg h1, if_pos (by omega), List.getElem?_append_left (by omega)]
    · rw [if_neg h2]
      by_cases h3 : k < i + xs.length + ys.length
      · rw [if_pos h3, if_neg h1, if_pos (by omega), List.getElem?_append_right (by omega)]
        congr 1; omega
      · rw [if_neg h3, if_neg h1, if_neg h2, if_neg h1, if_neg (by omega)]

/-- The lowest bytes of a number, the lowest one first. -/
def le : Nat → Nat → List UInt8
  | 0, _ => []
  | k + 1, v => UInt8.ofNat v :: le k (v / 256)
@[simp] theorem le_length (k : Nat) : ∀ v, (le k v).length = k := by
  induction k with
  | zero => intro v; rfl
  | succ k ih => intro v; simp [le, ih]
/-- The number of bytes, the lowest one first. -/
def leVal : List UInt8 → Nat
  | [] => 0
  | c :: l => c.toNat + 256 * leVal l
theorem leVal_le (k : Nat) : ∀ v, leVal (le k v) = v % 256 ^ k := by
  induction k with
  | zero => intro v; simp [le, leVal, Nat.mod_one]
  | succ k ih =>
    intro v
    simp only [le, leVal, ih]
    have : (UInt8.ofNat v).toNat = v % 256 := UInt8.toNat_ofNat' ..
    rw [this, Nat.pow_succ, Nat.mul_comm (256 ^ k) 256, Nat.mod_mul]
theorem leVal_lt (l : List UInt8) : leVal l < 256 ^ l.length := by
  induction l with
  | nil => simp [leVal]
  | cons c l ih =>
    simp only [leVal, List.length_cons, Nat.pow_succ]
    have := c.toNat_lt
    omega
theorem le_leVal (l : List UInt8) : le l.length (leVal l) = l := by
  induction l with
  | nil => rfl
  | cons c l ih =>
    simp only [List.length_cons, le, leVal]
    have hc := c.toNat_lt
    have h1 : (c.toNat + 256 * leVal l) / 256 = leVal l := by omega
    rw [h1, ih]
    congr 1
    apply UInt8.toNat_inj.1
    rw [UInt8.toNat_ofNat']; omega
theorem ofNat_mod (v : Nat) : UInt8.ofNat (v % 256) = UInt8.ofNat v := by
  apply UInt8.toNat_inj.1
  rw [UInt8.toNat_ofNat', UInt8.toNat_ofNat']; omega
theorem ofNat_int (v : Int) (h : 0 ≤ v) : UInt8.ofNat (v % 256).toNat = UInt8.ofNat v.toNat := by
  rw [← ofNat_mod v.toNat]; congr 1; omega

end Go.Vil
