/- A ring of bytes in plain Lean: what its operations do, as the code does them. -/
import Derived.Test.YtbklhnpnkinadaaDoorRiP
set_option linter.unusedVariables false
namespace Go.Vil
theorem splice_app {α : Type} (l sl : List α) (i : Nat) (xs : List α) (h : i + xs.length ≤ l.length) : splice (l ++ sl) i xs = splice l i xs ++ sl := by
  unfold splice
  rw [List.take_append_of_le_length (by omega), List.drop_append_of_le_length h]
  simp [List.append_assoc]
namespace Ri
theorem puts_ix (l : List UInt8) : ∀ {r : Ri}, r.ix < r.size → (r.puts l).ix < r.size := by
  induction l with
  | nil => exact fun h => h
  | cons c l ih =>
    intro r h
    have h1 : (r.put c).ix < (r.put c).size := by
      rw [put_size]
      show (if r.ix + 1 = r.size then 0 else r.ix + 1) < r.size
      split <;> omega
    have h2 := ih h1
    rw [put_size] at h2
    exact h2
/-- What one copy of a Write does. -/
theorem puts_step (r : Ri) (p : List UInt8) (j n : Nat) (hn : 1 ≤ n) (hj : j + n ≤ p.length) (hf : (r.puts (p.take j)).ix + n ≤ r.size) :
    (r.puts (p.take (j + n))).data = splice (r.puts (p.take j)).data (r.puts (p.take j)).ix ((p.drop j).take n) ∧ (r.puts (p.take (j + n))).e = (r.puts (p.take j)).e + n ∧
    (r.puts (p.take (j + n))).ix = if (r.puts (p.take j)).ix + n = r.size then 0 else (r.puts (p.take j)).ix + n := by
  have e1 : p.take (j + n) = p.take j ++ (p.drop j).take n := List.take_add
  have hl : ((p.drop j).take n).length = n := by rw [List.length_take, List.length_drop]; omega
  rw [e1, puts_append, puts_chunk _ (r.puts (p.take j)) (by intro e; rw [e] at hl; simp at hl; omega) (by rw [hl, puts_size]; exact hf), hl, puts_size]
  refine ⟨?_, rfl, rfl⟩
  show _ = splice _ _ _
  unfold splice
  rw [hl]
theorem puts_nil (r : Ri) : r.puts [] = r := rfl
/-- What goes in at one copy. -/
theorem puts_one (r : Ri) (l : List UInt8) (hf : r.ix + l.length < r.size) (hb : r.e - r.b ≤ r.size) :
    r.puts l = ⟨splice r.data r.ix l, max r.b (r.e + l.length - r.size), r.e + l.length, r.ix + l.length⟩ := by
  by_cases h : l = []
  · subst h
    rw [splice_nil]
    show r = _
    rw [List.length_nil, Nat.add_zero, Nat.add_zero, Nat.max_eq_left (by omega)]
  · rw [puts_chunk l r h (by omega), if_neg (by omega)]
    rfl
/-- What goes in at two. -/
theorem puts_two (r : Ri) (l : List UInt8) (hl : l.length ≤ r.size) (hx : r.ix < r.size) (hf : r.size ≤ r.ix + l.length) :
    r.puts l = ⟨splice (splice r.data r.ix (l.take (r.size - r.ix))) 0 (l.drop (r.size - r.ix)), max r.b (r.e + l.length - r.size), r.e + l.length, r.ix + l.length - r.size⟩ := by
  have h1 : (l.take (r.size - r.ix)).length = r.size - r.ix := by rw [List.length_take]; omega
  have e := puts_append r (l.take (r.size - r.ix)) (l.drop (r.size - r.ix))
  rw [List.take_append_drop] at e
  have hne : l.take (r.size - r.ix) ≠ [] := by intro h; rw [h] at h1; simp at h1; omega
  rw [e, puts_chunk _ r hne (by omega), h1, if_pos (by omega)]
  by_cases h2 : l.drop (r.size - r.ix) = []
  · have h3 : l.length = r.size - r.ix := by
      have := congrArg List.length h2
      rw [List.length_drop, List.length_nil] at this; omega
    rw [h2, splice_nil]
    show Ri.mk _ _ _ _ = _
    rw [h3, show r.ix + (r.size - r.ix) - r.size = 0 by omega]
    unfold splice
    rw [h1]
  · have h3 : (l.drop (r.size - r.ix)).length = r.ix + l.length - r.size := by rw [List.length_drop]; omega
    have hd : r.data.length = r.size := rfl
    have hsz : (Ri.mk (r.data.take r.ix ++ l.take (r.size - r.ix) ++ r.data.drop (r.ix + (r.size - r.ix))) (max r.b (r.e + (r.size - r.ix) - r.size)) (r.e + (r.size - r.ix)) 0).size = r.size := by
      show (r.data.take r.ix ++ l.take (r.size - r.ix) ++ r.data.drop (r.ix + (r.size - r.ix))).length = r.size
      rw [List.length_append, List.length_append, List.length_take, h1, List.length_drop]; omega
    rw [puts_chunk _ _ h2 (by rw [hsz, h3]; show 0 + _ ≤ _; omega), hsz, h3]
    show Ri.mk _ _ _ _ = _
    congr 1
    · unfold splice
      rw [h1, h3]
    · show max (max r.b (r.e + (r.size - r.ix) - r.size)) (r.e + (r.size - r.ix) + _ - r.size) = _; omega
    · show r.e + (r.size - r.ix) + _ = _; omega
    · show (if 0 + (r.ix + l.length - r.size) = r.size then 0 else 0 + (r.ix + l.length - r.size)) = _
      rw [if_neg (by omega)]; omega
theorem at_zero {r : Ri} {W : List UInt8} (h : r.Has W) : r.at' 0 = r.base := by
  have h2 := h.ix
  unfold at'
  rw [Nat.add_zero]
  exact Nat.mod_eq_of_lt (by unfold base; split <;> omega)
/-- Where what is moved lies, if not at the index. -/
theorem evac_low {r : Ri} {W : List UInt8} (h : r.Has W) {k n : Nat} (hk : k + n ≤ W.length) (ha : r.at' k < r.ix) : r.at' k + n ≤ r.ix := by
  have h1 := h.len
  have h2 := h.fit
  have h3 := at_calc h (k := k) (by omega)
  by_cases hf : r.len < r.size
  · have hb : r.base = 0 := if_pos hf
    have hp := h.part hf
    rw [hb] at h3
    split at h3 <;> omega
  · have hb : r.base = r.ix := if_neg hf
    rw [hb] at h3
    split at h3 <;> omega
theorem evac_high {r : Ri} {W : List UInt8} (h : r.Has W) {k n : Nat} (hk : k + n ≤ W.length) (ha : r.ix < r.at' k) : r.len = r.size ∧ r.at' k = r.ix + k ∧ r.ix + k < r.size ∧ r.at' k + n ≤ r.size + r.ix := by
  have h1 := h.len
  have h2 := h.fit
  have h3 := at_calc h (k := k) (by omega)
  have h4 := h.ix
  by_cases hf : r.len < r.size
  · have hb : r.base = 0 := if_pos hf
    have hp := h.part hf
    rw [hb] at h3
    split at h3 <;> omega
  · have hb : r.base = r.ix := if_neg hf
    rw [hb] at h3
    split at h3 <;> omega
/-- What the reads of a piece in a ring give, the room behind it in mind. -/
theorem piece_in {r : Ri} {W : List UInt8} (h : r.Has W) (sl : List UInt8) {k n : Nat} (hk : k + n ≤ W.length) (hf : r.at' k + n ≤ r.size) :
    ((r.data ++ sl).drop (r.at' k)).take n = (W.drop k).take n := by
  rw [piece_one h hk hf, List.drop_append_of_le_length (by have : r.data.length = r.size := rfl; omega), List.take_append_of_le_length (by rw [List.length_drop]; have : r.data.length = r.size := rfl; omega)]
/-- WriteAt in one piece, and in two. -/
theorem overs_one (r : Ri) (k : Nat) (l : List UInt8) (hf : r.at' k + l.length ≤ r.size) : r.overs k l = ⟨splice r.data (r.at' k) l, r.b, r.e, r.ix⟩ := overs_chunk l r k hf
theorem overs_two {r : Ri} {W : List UInt8} (h : r.Has W) (k : Nat) (l : List UInt8) (hl : k + l.length ≤ W.length) (hf : r.size ≤ r.at' k + l.length) :
    r.overs k l = ⟨splice (splice r.data (r.at' k) (l.take (r.size - r.at' k))) 0 (l.drop (r.size - r.at' k)), r.b, r.e, r.ix⟩ := by
  have ha := at_lt h k
  have hw := h.len
  have hfit := h.fit
  have h1 : (l.take (r.size - r.at' k)).length = r.size - r.at' k := by rw [List.length_take]; omega
  have e := overs_append (l.take (r.size - r.at' k)) (l.drop (r.size - r.at' k)) r k
  rw [List.take_append_drop, h1] at e
  rw [e, overs_chunk _ r k (by rw [h1]; omega), h1]
  have hd : r.data.length = r.size := rfl
  have hsz : (Ri.mk (r.data.take (r.at' k) ++ l.take (r.size - r.at' k) ++ r.data.drop (r.at' k + (r.size - r.at' k))) r.b r.e r.ix).size = r.size := by
    show (r.data.take (r.at' k) ++ l.take (r.size - r.at' k) ++ r.data.drop (r.at' k + (r.size - r.at' k))).length = r.size
    rw [List.length_append, List.length_append, List.length_take, h1, List.length_drop]; omega
  have hat : (Ri.mk (r.data.take (r.at' k) ++ l.take (r.size - r.at' k) ++ r.data.drop (r.at' k + (r.size - r.at' k))) r.b r.e r.ix).at' (k + (r.size - r.at' k)) = 0 := by
    have hbase : (Ri.mk (r.data.take (r.at' k) ++ l.take (r.size - r.at' k) ++ r.data.drop (r.at' k + (r.size - r.at' k))) r.b r.e r.ix).base = r.base := by
      unfold base
      rw [hsz]
      rfl
    have e2 := at_add r k (r.size - r.at' k)
    rw [show r.at' k + (r.size - r.at' k) = r.size by omega, Nat.mod_self] at e2
    show (Ri.base _ + _) % Ri.size _ = 0
    rw [hsz, hbase]
    exact e2
  rw [overs_chunk _ _ _ (by rw [hat, hsz, List.length_drop]; omega), hat]
  show Ri.mk _ _ _ _ = _
  congr 1
  unfold splice
  rw [h1]
/-- Evacuate of what lies below the index. -/
theorem evac_two_src {r : Ri} {W : List UInt8} (h : r.Has W) {k n : Nat} (hk : k + n ≤ W.length) (ha : r.at' k < r.ix) (sl : List UInt8) (hf : r.size ≤ r.ix + n) :
    ((splice (r.data ++ sl) r.ix (((W.drop k).take n).take (r.size - r.ix))).drop (r.at' k + (r.size - r.ix))).take (n - (r.size - r.ix)) = ((W.drop k).take n).drop (r.size - r.ix) := by
  have h1 := evac_low h hk ha
  have hd : r.data.length = r.size := rfl
  have hix := h.ix
  have := splice_low (l := r.data ++ sl) (m := ((W.drop k).take n).take (r.size - r.ix)) (i := r.ix) (s := r.at' k + (r.size - r.ix)) (n := n - (r.size - r.ix)) (by omega) (by rw [List.length_append]; omega)
  unfold splice
  rw [this, ← piece_in h sl hk (by omega), List.drop_take, List.drop_drop]
/-- Evacuate of what lies above it, and goes on at the beginning. -/
theorem evac_wrap {r : Ri} {W : List UInt8} (h : r.Has W) {k n : Nat} (hk : k + n ≤ W.length) (ha : r.ix < r.at' k) (hf : r.size < r.at' k + n) :
    r.data.drop (r.at' k) ++ r.data.take (r.at' k + n - r.size) = (W.drop k).take n := (piece_two h hk hf).symm
/-- To go on without a word. -/
def skip (r : Ri) (n : Nat) : Ri := ⟨r.data, max r.b (r.e + n - r.size), r.e + n, (r.ix + n) % r.size⟩
theorem skip_puts {r : Ri} {W : List UInt8} (h : r.Has W) (n : Nat) : ∃ U : List UInt8, U.length = n ∧ r.puts U = r.skip n := by
  obtain ⟨U, h1, _, h3⟩ := skips (r := r) h.ix h.fit n
  exact ⟨U, h1, h3⟩
theorem dump_has {r : Ri} {W : List UInt8} (h : r.Has W) : ∀ i, i < W.length → r.data[(r.base + i) % r.size]? = W[i]? := h.get
end Ri
end Go.Vil
