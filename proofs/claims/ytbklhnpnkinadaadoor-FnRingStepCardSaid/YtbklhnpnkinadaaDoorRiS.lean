/- A ring of bytes in plain Lean: operations, scripts, and what they answer. -/
import Derived.Test.YtbklhnpnkinadaaDoorRiW
set_option linter.unusedVariables false
namespace Go.Vil
namespace Ri
/-- The bytes that are there, reckoned. -/
def win (r : Ri) : List UInt8 := (List.range r.len).map fun k => r.data.getD (r.at' k) 0
theorem win_length (r : Ri) : r.win.length = r.len := by simp [win]
theorem has_win {r : Ri} {W : List UInt8} (h : r.Has W) : r.win = W := by
  apply List.ext_getElem?
  intro i
  by_cases hi : i < W.length
  · have h1 := h.get i hi
    have h2 := at_lt h i
    have h3 : r.data.length = r.size := rfl
    have h4 := h.len
    unfold win
    rw [List.getElem?_map, List.getElem?_range (by omega)]
    show some (r.data.getD (r.at' i) 0) = _
    rw [← h1]
    show _ = r.data[r.at' i]?
    rw [List.getElem?_eq_getElem (by omega), List.getD, List.getElem?_eq_getElem (by omega)]; rfl
  · rw [List.getElem?_eq_none (by rw [win_length]; have := h.len; omega), List.getElem?_eq_none (by omega)]
/-- A ring of another size, with its last bytes. -/
def sized (r : Ri) (n : Nat) : Ri :=
  if n = r.size then r else ⟨((r.data.drop (r.at' (r.len - n)) ++ r.data.take (r.at' (r.len - n))) ++ List.replicate n 0).take n, max r.b (r.e - n), r.e, 0⟩
/-- An operation, an answer. -/
structure ROp where
  kind : Int
  data : List UInt8
  off : Int
  len : Int
structure RAns where
  fault : Int
  n : Int
  m : Int
  len : Int
  data : List UInt8
  is : Bool
def bare (f n : Int) : RAns := ⟨f, n, 0, 0, [], false⟩
/-- So many bytes from an offset on. -/
def from' (r : Ri) (off len : Int) : List UInt8 := (r.win.drop (off - r.b).toNat).take len.toNat
def step (r : Ri) (op : ROp) : Ri × RAns :=
  if op.kind = 0 then (if op.data.length ≤ r.size then (r.puts op.data, bare 0 op.data.length) else (r, bare 1 0))
  else if op.kind = 1 then (if r.b ≤ op.off ∧ op.off ≤ r.e then (r, ⟨if r.e < op.off + op.len then 1 else 0, (r.from' op.off op.len).length, 0, 0, r.from' op.off op.len, false⟩) else (r, bare 1 0))
  else if op.kind = 2 then (if r.b ≤ op.off ∧ op.off + op.data.length ≤ r.e then (r.overs (op.off - r.b).toNat op.data, bare 0 op.data.length) else (r, bare 1 0))
  else if op.kind = 3 then (if r.b ≤ op.off ∧ op.off ≤ r.e then (r, ⟨0, 0, 0, 0, r.from' op.off op.len, false⟩) else (r, bare 1 0))
  else if op.kind = 4 then (r, ⟨0, 0, 0, 0, [], decide (r.b ≤ op.off ∧ op.off + op.data.length ≤ r.e ∧ op.data = r.from' op.off op.data.length)⟩)
  else if op.kind = 5 then (if r.b ≤ op.off ∧ op.off + op.len ≤ r.e then (r.puts (r.from' op.off op.len), bare 0 r.e) else (r, bare 0 (-1)))
  else if op.kind = 6 then (r.sized op.len.toNat, bare 0 0)
  else if op.kind = 7 then (r.skip op.len.toNat, bare 0 0)
  else if op.kind = 8 then (⟨r.data, op.off.toNat, op.off.toNat, 0⟩, bare 0 0)
  else if op.kind = 9 then (r, ⟨0, 0, 0, 0, r.data, false⟩)
  else (r, ⟨0, r.b, r.e, r.size, [], false⟩)
section
variable (r : Ri) (xs : List UInt8) (off len : Int)
theorem step0 : r.step ⟨0, xs, off, len⟩ = if xs.length ≤ r.data.length then (r.puts xs, bare 0 xs.length) else (r, bare 1 0) := rfl
theorem step1 : r.step ⟨1, xs, off, len⟩ = if r.b ≤ off ∧ off ≤ r.e then (r, ⟨if r.e < off + len then 1 else 0, (r.from' off len).length, 0, 0, r.from' off len, false⟩) else (r, bare 1 0) := rfl
theorem step2 : r.step ⟨2, xs, off, len⟩ = if r.b ≤ off ∧ off + xs.length ≤ r.e then (r.overs (off - r.b).toNat xs, bare 0 xs.length) else (r, bare 1 0) := rfl
theorem step3 : r.step ⟨3, xs, off, len⟩ = if r.b ≤ off ∧ off ≤ r.e then (r, ⟨0, 0, 0, 0, r.from' off len, false⟩) else (r, bare 1 0) := rfl
theorem step4 : r.step ⟨4, xs, off, len⟩ = (r, ⟨0, 0, 0, 0, [], decide (r.b ≤ off ∧ off + xs.length ≤ r.e ∧ xs = r.from' off xs.length)⟩) := rfl
theorem step5 : r.step ⟨5, xs, off, len⟩ = if r.b ≤ off ∧ off + len ≤ r.e then (r.puts (r.from' off len), bare 0 r.e) else (r, bare 0 (-1)) := rfl
theorem step6 : r.step ⟨6, xs, off, len⟩ = (r.sized len.toNat, bare 0 0) := rfl
theorem step7 : r.step ⟨7, xs, off, len⟩ = (r.skip len.toNat, bare 0 0) := rfl
theorem step8 : r.step ⟨8, xs, off, len⟩ = (⟨r.data, off.toNat, off.toNat, 0⟩, bare 0 0) := rfl
theorem step9 : r.step ⟨9, xs, off, len⟩ = (r, ⟨0, 0, 0, 0, r.data, false⟩) := rfl
theorem step10 : r.step ⟨10, xs, off, len⟩ = (r, ⟨0, r.b, r.e, r.size, [], false⟩) := rfl
end
/-- An operation of which something is said. -/
structure Legal (r : Ri) (op : ROp) : Prop where
  has : r.Has r.win
  e : r.e ≤ 1125899906842624
  size : r.size ≤ 1048576
  kind : 0 ≤ op.kind ∧ op.kind ≤ 10
  off : -4398046511104 ≤ op.off ∧ op.off ≤ 4398046511104
  len : 0 ≤ op.len ∧ op.len ≤ 1048576
  data : op.data.length ≤ 1048576
  slice : op.kind = 3 → r.b ≤ op.off → op.off ≤ r.e → op.off + op.len ≤ r.e
  resize : op.kind = 6 → 1 ≤ op.len ∧ (r.b = r.e ∨ r.b + op.len ≤ r.e)
  reset : op.kind = 8 → 0 ≤ op.off
def run : Ri → List ROp → List RAns
  | _, [] => []
  | r, op :: l => (r.step op).2 :: run (r.step op).1 l
def endR : Ri → List ROp → Ri
  | r, [] => r
  | r, op :: l => endR (r.step op).1 l
def Fine : Ri → List ROp → Prop
  | _, [] => True
  | r, op :: l => r.Legal op ∧ Fine (r.step op).1 l
theorem step_fault (r : Ri) (op : ROp) : (r.step op).2.fault = 0 ∨ (r.step op).2.fault = 1 := by
  unfold step
  repeat' split
  all_goals first | exact .inl rfl | exact .inr rfl | (dsimp only; split <;> simp)
end Ri
end Go.Vil
