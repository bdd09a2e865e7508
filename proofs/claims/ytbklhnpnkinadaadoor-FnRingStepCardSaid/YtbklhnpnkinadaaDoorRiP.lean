/- A ring of bytes in plain Lean: what is in it, and what its operations do. -/
import Derived.Test.YtbklhnpnkinadaaDoorPlain
set_option linter.unusedVariables false
namespace Go.Vil

/-- A ring: its bytes, the offsets at which the stream begins and ends, and the index at which is written next. -/
structure Ri where
  data : List UInt8
  b : Nat
  e : Nat
  ix : Nat
namespace Ri
def size (r : Ri) : Nat := r.data.length
def len (r : Ri) : Nat := r.e - r.b
/-- Where the first byte lies. -/
def base (r : Ri) : Nat := if r.len < r.size then 0 else r.ix
/-- The bytes that are there. -/
structure Has (r : Ri) (W : List UInt8) : Prop where
  pos : 1 ≤ r.size
  le : r.b ≤ r.e
  len : W.length = r.len
  fit : r.len ≤ r.size
  ix : r.ix < r.size
  part : r.len < r.size → r.ix = r.len
  get : ∀ k, k < W.length → r.data[(r.base + k) % r.size]? = W[k]?
/-- The last so many of a list. -/
def last (n : Nat) (l : List UInt8) : List UInt8 := l.drop (l.length - n)
theorem last_length (n : Nat) (l : List UInt8) : (last n l).length = min n l.length := by
  unfold last; simp; omega
theorem last_get (n : Nat) (l : List UInt8) (k : Nat) : (last n l)[k]? = l[l.length - n + k]? := by
  unfold last; rw [List.getElem?_drop]
/-- Where the byte at an offset lies. -/
def off (r : Ri) (o : Nat) : Nat := (r.base + (o - r.b)) % r.size
/-- A new ring. -/
def fresh (size b : Nat) : Ri := ⟨List.replicate size 0, b, b, 0⟩
theorem fresh_has (size b : Nat) (h : 1 ≤ size) : (fresh size b).Has [] := by
  refine ⟨by simpa [fresh, Ri.size] using h, Nat.le_refl _, by simp [fresh, Ri.len], by simp [fresh, Ri.len], by simp [fresh, Ri.size]; omega, fun _ => by simp [fresh, Ri.len], fun k hk => by simp at hk⟩
/-- A byte more. -/
def put (r : Ri) (c : UInt8) : Ri := ⟨r.data.set r.ix c, max r.b (r.e + 1 - r.size), r.e + 1, if r.ix + 1 = r.size then 0 else r.ix + 1⟩
theorem put_size (r : Ri) (c : UInt8) : (r.put c).size = r.size := by simp [put, size]
theorem last_le {n : Nat} {l : List UInt8} (h : l.length ≤ n) : last n l = l := by
  unfold last; rw [show l.length - n = 0 by omega, List.drop_zero]
theorem mod_next {i k n : Nat} (hi : i < n) : ((if i + 1 = n then 0 else i + 1) + k) % n = (i + (k + 1)) % n := by
  by_cases h : i + 1 = n
  · rw [if_pos h, Nat.zero_add, show i + (k + 1) = n + k by omega, Nat.add_mod_left]
  · rw [if_neg h, show i + 1 + k = i + (k + 1) by omega]
theorem mod_ne {i k n : Nat} (hi : i < n) (hk : 1 ≤ k) (hkn : k < n) : (i + k) % n ≠ i := by
  by_cases h : i + k < n
  · rw [Nat.mod_eq_of_lt h]; omega
  · rw [show i + k = n + (i + k - n) by omega, Nat.add_mod_left, Nat.mod_eq_of_lt (by omega)]; omega
theorem put_has {r : Ri} {W : List UInt8} (h : r.Has W) (c : UInt8) : (r.put c).Has (last r.size (W ++ [c])) := by
  obtain ⟨h1, h2, h3, h4, h5, h6, h7⟩ := h
  have hs := put_size r c
  have hsz : r.data.length = r.size := rfl
  have hle : r.len = r.e - r.b := rfl
  have hel : (r.put c).e = r.e + 1 := rfl
  have hbl : (r.put c).b = max r.b (r.e + 1 - r.size) := rfl
  have hln : (r.put c).len = (r.put c).e - (r.put c).b := rfl
  have hix : (r.put c).ix = if r.ix + 1 = r.size then 0 else r.ix + 1 := rfl
  have hdt : (r.put c).data = r.data.set r.ix c := rfl
  have hwl : (W ++ [c]).length = W.length + 1 := by simp
  by_cases hf : r.len < r.size
  · have hi := h6 hf
    have hb : r.base = 0 := if_pos hf
    have hb' : (r.put c).base = 0 := by
      unfold base
      split
      · rfl
      · rw [hix, if_pos (by omega)]
    rw [last_le (by omega)]
    refine ⟨by rw [hs]; exact h1, by omega, by omega, by omega, by rw [hix, hs]; split <;> omega, fun hf2 => by rw [hix, if_neg (by omega)]; omega, fun k hk => ?_⟩
    rw [hb', hs, Nat.zero_add, Nat.mod_eq_of_lt (by omega), hdt, List.getElem?_set]
    by_cases hk2 : r.ix = k
    · rw [if_pos hk2, if_pos (by omega), List.getElem?_append_right (by omega), show k - W.length = 0 by omega]; rfl
    · rw [if_neg hk2, List.getElem?_append_left (by omega), ← h7 k (by omega), hb, Nat.zero_add, Nat.mod_eq_of_lt (by omega)]
  · have hfl : r.len = r.size := by omega
    have hb : r.base = r.ix := if_neg hf
    have hb' : (r.put c).base = (r.put c).ix := if_neg (by omega)
    have hll : (last r.size (W ++ [c])).length = r.size := by rw [last_length]; omega
    refine ⟨by rw [hs]; exact h1, by omega, by omega, by omega, by rw [hix, hs]; split <;> omega, fun hf2 => by omega, fun k hk => ?_⟩
    rw [hll] at hk
    rw [hb', hs, hix, mod_next h5, hdt, last_get, hwl, show W.length + 1 - r.size + k = k + 1 by omega, List.getElem?_set]
    by_cases hk2 : k + 1 = r.size
    · rw [hk2, Nat.add_mod_right, Nat.mod_eq_of_lt h5, if_pos rfl, if_pos (by omega), List.getElem?_append_right (by omega), show r.size - W.length = 0 by omega]; rfl
    · rw [if_neg (Ne.symm (mod_ne h5 (by omega) (by omega))), List.getElem?_append_left (by omega), ← h7 (k + 1) (by omega), hb]
/-- Many bytes more. -/
def puts (r : Ri) (l : List UInt8) : Ri := l.foldl put r
theorem last_last (n : Nat) (a b : List UInt8) : last n (last n a ++ b) = last n (a ++ b) := by
  by_cases h : a.length ≤ n
  · rw [last_le h]
  · have hk : (last n a).length = n := by rw [last_length]; omega
    have h1 : last n (last n a ++ b) = (last n a ++ b).drop b.length := by
      show (last n a ++ b).drop ((last n a ++ b).length - n) = _
      rw [List.length_append, hk, Nat.add_sub_cancel_left]
    have h2 : last n (a ++ b) = ((a ++ b).drop (a.length - n)).drop b.length := by
      show (a ++ b).drop ((a ++ b).length - n) = _
      rw [List.length_append, List.drop_drop]
      congr 1
      omega
    rw [h1, h2]
    congr 1
    exact (List.drop_append_of_le_length (by omega)).symm
theorem puts_size (l : List UInt8) : ∀ r : Ri, (r.puts l).size = r.size := by
  induction l with
  | nil => exact fun r => rfl
  | cons c l ih => exact fun r => (ih (r.put c)).trans (put_size r c)
theorem puts_append (r : Ri) (a b : List UInt8) : r.puts (a ++ b) = (r.puts a).puts b := List.foldl_append
theorem puts_has (l : List UInt8) : ∀ {r : Ri} {W : List UInt8}, r.Has W → (r.puts l).Has (last r.size (W ++ l)) := by
  induction l with
  | nil =>
    intro r W h
    rw [List.append_nil, last_le (by have h1 := h.len; have h2 := h.fit; omega)]
    exact h
  | cons c l ih =>
    intro r W h
    have h1 := ih (put_has h c)
    rw [put_size, last_last, List.append_assoc] at h1
    exact h1
/-- What a chunk that goes in at one copy does. -/
theorem puts_chunk (l : List UInt8) : ∀ (r : Ri), l ≠ [] → r.ix + l.length ≤ r.size →
    r.puts l = ⟨r.data.take r.ix ++ l ++ r.data.drop (r.ix + l.length), max r.b (r.e + l.length - r.size), r.e + l.length, if r.ix + l.length = r.size then 0 else r.ix + l.length⟩ := by
  induction l with
  | nil => exact fun r h => absurd rfl h
  | cons c l ih =>
    intro r _ hf
    have hsz : r.data.length = r.size := rfl
    rw [List.length_cons] at hf
    have hset : r.data.set r.ix c = r.data.take r.ix ++ c :: r.data.drop (r.ix + 1) := List.set_eq_take_append_cons_drop.trans (if_pos (by omega))
    cases l with
    | nil =>
      show r.put c = _
      unfold put
      rw [hset]
      simp
    | cons d l =>
      have hix : (r.put c).ix = r.ix + 1 := if_neg (by rw [List.length_cons] at hf; omega)
      have h1 := ih (r.put c) (by simp) (by rw [hix, put_size]; omega)
      rw [put_size, hix] at h1
      have htk : (r.put c).data.take (r.ix + 1) = r.data.take r.ix ++ [c] := by
        show (r.data.set r.ix c).take (r.ix + 1) = _
        rw [hset, List.take_append, List.take_of_length_le (by rw [List.length_take]; omega), List.length_take, Nat.min_eq_left (by omega), Nat.add_sub_cancel_left]; rfl
      have hdr : (r.put c).data.drop (r.ix + 1 + (d :: l).length) = r.data.drop (r.ix + (c :: d :: l).length) := by
        show (r.data.set r.ix c).drop _ = _
        rw [List.drop_set_of_lt (by omega)]
        congr 1
        simp only [List.length_cons]; omega
      show (r.put c).puts (d :: l) = _
      rw [h1, htk, hdr]
      have hb : max (r.put c).b ((r.put c).e + (d :: l).length - r.size) = max r.b (r.e + (c :: d :: l).length - r.size) := by
        show max (max r.b (r.e + 1 - r.size)) (r.e + 1 + _ - r.size) = _
        simp only [List.length_cons]; omega
      have he : (r.put c).e + (d :: l).length = r.e + (c :: d :: l).length := by
        show r.e + 1 + _ = _
        simp only [List.length_cons]; omega
      rw [hb, he, show r.ix + 1 + (d :: l).length = r.ix + (c :: d :: l).length by simp only [List.length_cons]; omega]
      simp [List.append_assoc]
theorem puts_e (l : List UInt8) : ∀ r : Ri, (r.puts l).e = r.e + l.length := by
  induction l with
  | nil => exact fun r => rfl
  | cons c l ih =>
    intro r
    rw [List.length_cons]
    exact (ih (r.put c)).trans (by show r.e + 1 + l.length = _; omega)
theorem puts_b (l : List UInt8) : ∀ r : Ri, r.e - r.b ≤ r.size → (r.puts l).b = max r.b (r.e + l.length - r.size) := by
  induction l with
  | nil =>
    intro r h
    show r.b = max r.b (r.e + 0 - r.size)
    omega
  | cons c l ih =>
    intro r h
    have h1 := ih (r.put c) (by rw [put_size]; show r.e + 1 - max r.b (r.e + 1 - r.size) ≤ r.size; omega)
    rw [put_size] at h1
    refine h1.trans ?_
    show max (max r.b (r.e + 1 - r.size)) (r.e + 1 + l.length - r.size) = _
    rw [List.length_cons]
    omega
/-- Where the byte so far on lies. -/
def at' (r : Ri) (k : Nat) : Nat := (r.base + k) % r.size
theorem at_lt {r : Ri} {W : List UInt8} (h : r.Has W) (k : Nat) : r.at' k < r.size := Nat.mod_lt _ h.pos
theorem at_add (r : Ri) (k i : Nat) : r.at' (k + i) = (r.at' k + i) % r.size := by
  unfold at'
  rw [Nat.mod_add_mod, Nat.add_assoc]
theorem rest_one {r : Ri} {W : List UInt8} (h : r.Has W) {k : Nat} (hf : r.at' k + (W.length - k) ≤ r.size) :
    (r.data.drop (r.at' k)).take (W.length - k) = W.drop k := by
  apply List.ext_getElem?
  intro i
  rw [List.getElem?_take, List.getElem?_drop, List.getElem?_drop]
  split
  · have h1 := h.get (k + i) (by omega)
    rw [show (r.base + (k + i)) % r.size = r.at' k + i from (at_add r k i).trans (Nat.mod_eq_of_lt (by omega))] at h1
    exact h1
  · exact (List.getElem?_eq_none (by omega)).symm
theorem rest_two {r : Ri} {W : List UInt8} (h : r.Has W) {k : Nat} (hf : r.size < r.at' k + (W.length - k)) :
    r.data.drop (r.at' k) ++ r.data.take (r.at' k + (W.length - k) - r.size) = W.drop k := by
  have hsz : r.data.length = r.size := rfl
  have hl := at_lt h k
  have h1 := h.len
  have h2 := h.fit
  apply List.ext_getElem?
  intro i
  rw [List.getElem?_append, List.length_drop, hsz, List.getElem?_drop, List.getElem?_drop, List.getElem?_take]
  split
  · have h1 := h.get (k + i) (by omega)
    rw [show (r.base + (k + i)) % r.size = r.at' k + i from (at_add r k i).trans (Nat.mod_eq_of_lt (by omega))] at h1
    exact h1
  · split
    · have h1 := h.get (k + i) (by omega)
      rw [show (r.base + (k + i)) % r.size = i - (r.size - r.at' k) from (at_add r k i).trans (by rw [show r.at' k + i = r.size + (i - (r.size - r.at' k)) by omega, Nat.add_mod_left, Nat.mod_eq_of_lt (by omega)])] at h1
      exact h1
    · exact (List.getElem?_eq_none (by omega)).symm
/-- What getDataOff computes. -/
theorem at_calc {r : Ri} {W : List UInt8} (h : r.Has W) {k : Nat} (hk : k ≤ r.len) :
    r.at' k = if r.size ≤ r.base + k then r.base + k - r.size else r.base + k := by
  have h1 := h.fit
  have h2 := h.ix
  have hb : r.base < r.size := by unfold base; split <;> omega
  unfold at'
  split
  · rw [show r.base + k = r.size + (r.base + k - r.size) by omega, Nat.add_mod_left, Nat.mod_eq_of_lt (by omega)]; omega
  · exact Nat.mod_eq_of_lt (by omega)
/-- A byte written over one that is there. -/
def over (r : Ri) (k : Nat) (c : UInt8) : Ri := ⟨r.data.set (r.at' k) c, r.b, r.e, r.ix⟩
theorem over_size (r : Ri) (k : Nat) (c : UInt8) : (r.over k c).size = r.size := by simp [over, size]
theorem over_at (r : Ri) (k : Nat) (c : UInt8) (j : Nat) : (r.over k c).at' j = r.at' j := by
  have h1 := over_size r k c
  have h2 : (r.over k c).base = r.base := by
    unfold base
    rw [h1]
    rfl
  unfold at'
  rw [h1, h2]
theorem at_ne {r : Ri} {W : List UInt8} (h : r.Has W) {i j : Nat} (hi : i < W.length) (hj : j < W.length) (hij : i ≠ j) : r.at' i ≠ r.at' j := by
  have h1 := h.len
  have h2 := h.fit
  have h3 := at_calc h (k := i) (by omega)
  have h4 := at_calc h (k := j) (by omega)
  split at h3 <;> split at h4 <;> omega
theorem over_has {r : Ri} {W : List UInt8} (h : r.Has W) {k : Nat} (c : UInt8) (hk : k < W.length) : (r.over k c).Has (W.set k c) := by
  have hs := over_size r k c
  have hl := at_lt h k
  have hsz : r.data.length = r.size := rfl
  refine ⟨by rw [hs]; exact h.pos, h.le, by rw [List.length_set]; exact h.len, by rw [hs]; exact h.fit, by rw [hs]; exact h.ix, by rw [hs]; exact h.part, fun j hj => ?_⟩
  rw [List.length_set] at hj
  show (r.data.set (r.at' k) c)[(r.over k c).at' j]? = _
  rw [over_at, List.getElem?_set, List.getElem?_set]
  by_cases hjk : k = j
  · rw [hjk, if_pos rfl, if_pos rfl, if_pos (by rw [← hjk]; omega), if_pos hj]
  · rw [if_neg (at_ne h hk hj hjk), if_neg hjk]
    exact h.get j hj
/-- Many bytes written over those that are there. -/
def overs (r : Ri) (k : Nat) : List UInt8 → Ri
  | [] => r
  | c :: l => overs (r.over k c) (k + 1) l
theorem overs_size (l : List UInt8) : ∀ (r : Ri) (k : Nat), (r.overs k l).size = r.size := by
  induction l with
  | nil => exact fun r k => rfl
  | cons c l ih => exact fun r k => (ih (r.over k c) (k + 1)).trans (over_size r k c)
theorem overs_at (l : List UInt8) : ∀ (r : Ri) (k j : Nat), (r.overs k l).at' j = r.at' j := by
  induction l with
  | nil => exact fun r k j => rfl
  | cons c l ih => exact fun r k j => (ih (r.over k c) (k + 1) j).trans (over_at r k c j)
theorem overs_rest (l : List UInt8) : ∀ (r : Ri) (k : Nat), (r.overs k l).b = r.b ∧ (r.overs k l).e = r.e ∧ (r.overs k l).ix = r.ix := by
  induction l with
  | nil => exact fun r k => ⟨rfl, rfl, rfl⟩
  | cons c l ih => exact fun r k => ih (r.over k c) (k + 1)
theorem overs_append (a b : List UInt8) : ∀ (r : Ri) (k : Nat), r.overs k (a ++ b) = (r.overs k a).overs (k + a.length) b := by
  induction a with
  | nil => exact fun r k => rfl
  | cons c a ih =>
    intro r k
    show (r.over k c).overs (k + 1) (a ++ b) = _
    rw [ih, List.length_cons, show k + 1 + a.length = k + (a.length + 1) by omega]
    rfl
theorem overs_has (l : List UInt8) : ∀ {r : Ri} {W : List UInt8} {k : Nat}, r.Has W → k + l.length ≤ W.length →
    (r.overs k l).Has (W.take k ++ l ++ W.drop (k + l.length)) := by
  induction l with
  | nil =>
    intro r W k h hk
    show r.Has _
    rw [List.append_nil, List.length_nil, Nat.add_zero, List.take_append_drop]
    exact h
  | cons c l ih =>
    intro r W k h hk
    rw [List.length_cons] at hk
    have h1 := ih (over_has h c (k := k) (by omega)) (k := k + 1) (by rw [List.length_set]; omega)
    have hset : W.set k c = W.take k ++ c :: W.drop (k + 1) := List.set_eq_take_append_cons_drop.trans (if_pos (by omega))
    have htk : (W.set k c).take (k + 1) = W.take k ++ [c] := by
      rw [hset, List.take_append, List.take_of_length_le (by rw [List.length_take]; omega), List.length_take, Nat.min_eq_left (by omega), Nat.add_sub_cancel_left]; rfl
    have hdr : (W.set k c).drop (k + 1 + l.length) = W.drop (k + (c :: l).length) := by
      rw [List.drop_set_of_lt (by omega)]
      congr 1
      rw [List.length_cons]; omega
    rw [htk, hdr] at h1
    show ((r.over k c).overs (k + 1) l).Has _
    rw [show W.take k ++ c :: l = W.take k ++ [c] ++ l by simp]
    exact h1
/-- What one copy writes over. -/
theorem overs_chunk (l : List UInt8) : ∀ (r : Ri) (k : Nat), r.at' k + l.length ≤ r.size →
    r.overs k l = ⟨r.data.take (r.at' k) ++ l ++ r.data.drop (r.at' k + l.length), r.b, r.e, r.ix⟩ := by
  induction l with
  | nil =>
    intro r k h
    show r = _
    rw [List.append_nil, List.length_nil, Nat.add_zero, List.take_append_drop]
  | cons c l ih =>
    intro r k h
    have hsz : r.data.length = r.size := rfl
    rw [List.length_cons] at h
    show (r.over k c).overs (k + 1) l = _
    cases l with
    | nil =>
      show r.over k c = _
      unfold over
      rw [List.set_eq_take_append_cons_drop, if_pos (by rw [List.length_nil] at h; omega)]
      simp
    | cons d l =>
      have hat : r.at' (k + 1) = r.at' k + 1 := (at_add r k 1).trans (Nat.mod_eq_of_lt (by rw [List.length_cons] at h; omega))
      have h1 := ih (r.over k c) (k + 1) (by rw [over_at, over_size, hat]; omega)
      rw [over_at, hat] at h1
      have hset : r.data.set (r.at' k) c = r.data.take (r.at' k) ++ c :: r.data.drop (r.at' k + 1) := List.set_eq_take_append_cons_drop.trans (if_pos (by omega))
      have htk : (r.over k c).data.take (r.at' k + 1) = r.data.take (r.at' k) ++ [c] := by
        show (r.data.set (r.at' k) c).take (r.at' k + 1) = _
        rw [hset, List.take_append, List.take_of_length_le (by rw [List.length_take]; omega), List.length_take, Nat.min_eq_left (by omega), Nat.add_sub_cancel_left]; rfl
      have hdr : (r.over k c).data.drop (r.at' k + 1 + (d :: l).length) = r.data.drop (r.at' k + (c :: d :: l).length) := by
        show (r.data.set (r.at' k) c).drop _ = _
        rw [List.drop_set_of_lt (by omega)]
        congr 1
        simp only [List.length_cons]; omega
      rw [h1, htk, hdr]
      show Ri.mk _ r.b r.e r.ix = _
      simp [List.append_assoc]
/-- To go on without a word is to write what lies there. -/
theorem skips {r : Ri} (hx : r.ix < r.size) (hf : r.e - r.b ≤ r.size) : ∀ n, ∃ U : List UInt8, U.length = n ∧ (∀ i, i < n → U[i]? = r.data[(r.ix + i) % r.size]?) ∧
    r.puts U = ⟨r.data, max r.b (r.e + n - r.size), r.e + n, (r.ix + n) % r.size⟩ := by
  have hsz : r.data.length = r.size := rfl
  intro n
  induction n with
  | zero =>
    refine ⟨[], rfl, fun i hi => absurd hi (Nat.not_lt_zero i), ?_⟩
    show r = _
    rw [Nat.add_zero, Nat.add_zero, Nat.mod_eq_of_lt hx, Nat.max_eq_left (by omega)]
  | succ n ih =>
    obtain ⟨U, hU, hq, hp⟩ := ih
    have hm : (r.ix + n) % r.size < r.data.length := Nat.mod_lt _ (by omega)
    refine ⟨U ++ [r.data[(r.ix + n) % r.size]], by rw [List.length_append, hU]; rfl, fun i hi => ?_, ?_⟩
    · by_cases hin : i < n
      · rw [List.getElem?_append_left (by omega)]; exact hq i hin
      · rw [List.getElem?_append_right (by omega), hU, show i - n = 0 by omega, show i = n by omega, List.getElem?_eq_getElem hm]; rfl
    rw [puts_append, hp]
    show Ri.mk (r.data.set _ _) (max (max r.b (r.e + n - r.size)) (r.e + n + 1 - r.data.length)) (r.e + n + 1) (if (r.ix + n) % r.size + 1 = r.data.length then 0 else (r.ix + n) % r.size + 1) = _
    rw [List.set_getElem_self, hsz, show max (max r.b (r.e + n - r.size)) (r.e + n + 1 - r.size) = max r.b (r.e + (n + 1) - r.size) by omega]
    have h1 := mod_next (k := 0) (i := (r.ix + n) % r.size) (n := r.size) (by omega)
    rw [Nat.add_zero, Nat.mod_eq_of_lt (by split <;> omega), Nat.mod_add_mod] at h1
    rw [h1]
    rfl
/-- A smaller ring. -/
theorem shrunk {r : Ri} {W : List UInt8} (h : r.Has W) {n : Nat} (h1 : 1 ≤ n) (hn : n ≤ r.len) {D : List UInt8}
    (hD : D = (r.data.drop (r.at' (r.len - n)) ++ r.data.take (r.at' (r.len - n))).take n) :
    (Ri.mk D (r.e - n) r.e 0).Has (last n W) := by
  have hsz : r.data.length = r.size := rfl
  have hl := h.len
  have hf := h.fit
  have ha := at_lt h (r.len - n)
  have hle : r.len = r.e - r.b := rfl
  have hW : W.drop (W.length - n) = D := by
    rw [hD, hl]
    by_cases hc : r.at' (r.len - n) + (W.length - (r.len - n)) ≤ r.size
    · rw [← rest_one h hc, hl, show r.len - (r.len - n) = n by omega, List.take_append_of_le_length (by rw [List.length_drop]; omega)]
    · have e1 : (r.data.drop (r.at' (r.len - n))).take n = r.data.drop (r.at' (r.len - n)) := List.take_of_length_le (by rw [List.length_drop]; omega)
      have e2 : min (n - (r.data.drop (r.at' (r.len - n))).length) (r.at' (r.len - n)) = r.at' (r.len - n) + n - r.size := by rw [List.length_drop]; omega
      rw [← rest_two h (Nat.lt_of_not_le hc), hl, show r.len - (r.len - n) = n by omega, List.take_append (l₁ := r.data.drop (r.at' (r.len - n))), e1, List.take_take, e2]
  have hDl : D.length = n := by rw [← hW, List.length_drop]; omega
  have hs : (Ri.mk D (r.e - n) r.e 0).size = n := hDl
  have hll : (Ri.mk D (r.e - n) r.e 0).len = n := by show r.e - (r.e - n) = n; omega
  have hb : (Ri.mk D (r.e - n) r.e 0).base = 0 := by unfold base; split <;> rfl
  refine ⟨by rw [hs]; exact h1, Nat.sub_le _ _, by rw [last_length, hll]; omega, by rw [hs, hll]; exact Nat.le_refl _, by rw [hs]; exact h1, fun hc => absurd hc (by rw [hs, hll]; exact Nat.lt_irrefl _), fun k hk => ?_⟩
  rw [last_length] at hk
  rw [hb, hs, Nat.zero_add, Nat.mod_eq_of_lt (by omega)]
  show D[k]? = (W.drop (W.length - n))[k]?
  rw [hW]
/-- A ring in which nothing is. -/
theorem empty_has {r : Ri} (h1 : 1 ≤ r.size) (h2 : r.b = r.e) (h3 : r.ix = 0) : r.Has [] :=
  ⟨h1, Nat.le_of_eq h2, by simp [len, h2], by simp [len, h2], by omega, fun _ => by simp [len, h2, h3], fun k hk => by simp at hk⟩
/-- What lies below or above a piece that was written is as it was. -/
theorem splice_low {l m : List UInt8} {i s n : Nat} (h : s + n ≤ i) (hi : i ≤ l.length) :
    ((l.take i ++ m ++ l.drop (i + m.length)).drop s).take n = (l.drop s).take n := by
  apply List.ext_getElem?
  intro j
  rw [List.getElem?_take, List.getElem?_take]
  split
  · rw [List.getElem?_drop, List.getElem?_drop, List.append_assoc, List.getElem?_append_left (by rw [List.length_take]; omega), List.getElem?_take, if_pos (by omega)]
  · rfl
theorem splice_high {l m : List UInt8} {i s : Nat} (h : i + m.length ≤ s) (hi : i ≤ l.length) :
    (l.take i ++ m ++ l.drop (i + m.length)).drop s = l.drop s := by
  apply List.ext_getElem?
  intro j
  have hl : (l.take i ++ m).length = i + m.length := by rw [List.length_append, List.length_take]; omega
  rw [List.getElem?_drop, List.getElem?_drop, List.getElem?_append_right (by omega), hl, List.getElem?_drop]
  congr 1
  omega
/-- To move what lies at the index is to go on without a word. -/
theorem moved_same {r : Ri} {W : List UInt8} (h : r.Has W) {k n : Nat} (hk : k + n ≤ W.length) (ha : r.at' k = r.ix) :
    r.puts ((W.drop k).take n) = ⟨r.data, max r.b (r.e + n - r.size), r.e + n, (r.ix + n) % r.size⟩ := by
  obtain ⟨U, hU, hq, hp⟩ := skips (r := r) h.ix h.fit n
  have : (W.drop k).take n = U := by
    apply List.ext_getElem?
    intro i
    rw [List.getElem?_take, List.getElem?_drop]
    split
    · rename_i hi
      rw [hq i hi, ← ha, ← at_add]
      exact (h.get (k + i) (by omega)).symm
    · exact (List.getElem?_eq_none (by omega)).symm
  rw [this, hp]
/-- What is moved lies in one piece, or in two. -/
theorem piece_one {r : Ri} {W : List UInt8} (h : r.Has W) {k n : Nat} (hk : k + n ≤ W.length) (hf : r.at' k + n ≤ r.size) :
    (W.drop k).take n = (r.data.drop (r.at' k)).take n := by
  apply List.ext_getElem?
  intro i
  rw [List.getElem?_take, List.getElem?_take, List.getElem?_drop, List.getElem?_drop]
  split
  · have h1 := h.get (k + i) (by omega)
    rw [show (r.base + (k + i)) % r.size = r.at' k + i from (at_add r k i).trans (Nat.mod_eq_of_lt (by omega))] at h1
    exact h1.symm
  · rfl
theorem piece_two {r : Ri} {W : List UInt8} (h : r.Has W) {k n : Nat} (hk : k + n ≤ W.length) (hf : r.size < r.at' k + n) :
    (W.drop k).take n = r.data.drop (r.at' k) ++ r.data.take (r.at' k + n - r.size) := by
  have hsz : r.data.length = r.size := rfl
  have hl := at_lt h k
  have h1 := h.len
  have h2 := h.fit
  apply List.ext_getElem?
  intro i
  rw [List.getElem?_append, List.length_drop, hsz, List.getElem?_take, List.getElem?_drop, List.getElem?_drop, List.getElem?_take]
  by_cases hi : i < n
  · rw [if_pos hi, ← h.get (k + i) (by omega)]
    by_cases hs : i < r.size - r.at' k
    · rw [if_pos hs, show (r.base + (k + i)) % r.size = r.at' k + i from (at_add r k i).trans (Nat.mod_eq_of_lt (by omega))]
    · rw [if_neg hs, if_pos (by omega), show (r.base + (k + i)) % r.size = i - (r.size - r.at' k) from (at_add r k i).trans (by rw [show r.at' k + i = r.size + (i - (r.size - r.at' k)) by omega, Nat.add_mod_left, Nat.mod_eq_of_lt (by omega)])]
  · rw [if_neg hi, if_neg (by omega), if_neg (by omega)]
end Ri
end Go.Vil
