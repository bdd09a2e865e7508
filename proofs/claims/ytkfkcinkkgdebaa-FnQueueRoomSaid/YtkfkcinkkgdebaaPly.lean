/- A script and its answers beside a list, in plain Lean. -/
import Derived.Test.YtkfkcinkkgdebaaFine
import Derived.Test.YtkfkcinkkgdebaaSc
set_option linter.unusedVariables false
namespace Go.Proofs.Ytkfkcinkkgdebaa
open Go.Vil Go.Vil.Qu

/-- How the list goes on along a script. -/
def played : SL → Qu → List QOp → SL
  | s, _, [] => s
  | s, x, op :: l => if op.kind = 1 ∧ s.lost = true then { s with ended := true } else
      if op.kind = 0 then (match (x.push op.data).2 with
        | some i => played (s.pushed op.data i (x.push op.data).1.cap) (x.push op.data).1 l
        | none => played s (x.push op.data).1 l)
      else played (answered s op.kind) (qStep x op).1 l
/-- What is asked of a script that is played beside a list. -/
def okScript : SL → Qu → List QOp → Prop
  | _, _, [] => True
  | s, x, op :: l => if op.kind = 1 ∧ s.lost = true then True else
      if op.kind = 0 then (∃ op2 l2, l = op2 :: l2 ∧ op2.kind = 6) ∧ (match (x.push op.data).2 with
        | some i => okScript (s.pushed op.data i (x.push op.data).1.cap) (x.push op.data).1 l
        | none => okScript s (x.push op.data).1 l)
      else (op.kind = 1 ∨ op.kind = 2 ∨ op.kind = 3 ∨ op.kind = 4 ∨ op.kind = 5 ∨ op.kind = 6 ∨ op.kind = 7) ∧ (op.kind = 3 ∨ op.kind = 4 → op.index ≤ 0 ∨ ∃ e, atP s.ents op.index = some e) ∧ okScript (answered s op.kind) (qStep x op).1 l

theorem qStep_push (x : Qu) (d : List UInt8) (i : Int) : qStep x ⟨0, d, i⟩ = match x.push d with | (x', some i) => (x', ⟨0, i, []⟩) | (x', none) => (x', ⟨1, -1, []⟩) := by
  unfold qStep
  simp only [if_true]
  rfl
theorem qStep_good {x : Qu} (hg : x.Good) (hc : x.cap ≤ 1073741824) (op : QOp) (hd : op.kind = 0 → op.data.length < 16382) : (qStep x op).1.Good := by
  unfold qStep
  by_cases h0 : op.kind = 0
  · rw [if_pos h0]
    have h1 := push_good hg (d := op.data) (by have := hd h0; omega) (by omega)
    cases hp : x.push op.data with
    | mk x' o =>
      rw [hp] at h1
      cases o <;> exact h1
  · rw [if_neg h0]
    split
    · cases ho : x.old with
      | nil => exact hg
      | cons b l => exact pop_good hg
    split
    · cases ho : x.old with
      | nil => exact hg
      | cons b l => exact hg
    split
    · split <;> exact hg
    split
    · split <;> exact hg
    split
    · exact hg
    split
    · exact hg
    split
    · exact reset_good x
    split
    · exact hg
    · exact hg
/-- The list's numbers stay small. -/
def Small2 (s : SL) (k : Nat) : Prop := s.ents.length ≤ k ∧ s.most ≤ 1073741824 ∧ s.cap ≤ 1073741824 ∧ ∀ e ∈ s.ents, e.1 ≤ 1073741824 ∧ e.2.length < 16382
theorem Small2.small {s : SL} {k : Nat} (h : Small2 s k) (hk : k ≤ 100000) : Small s := ⟨Nat.le_trans h.1 hk, h.2.2.1, h.2.1, h.2.2.2⟩
theorem Small2.pushed {s : SL} {k : Nat} (h : Small2 s k) {d : List UInt8} (hd : d.length < 16382) {i c : Nat} (hc : c ≤ 1073741824) (hok : s.okPush d i c) : Small2 (s.pushed d i c) (k + 1) := by
  obtain ⟨_, _, _, h1, h2, _⟩ := hok
  refine ⟨by show (s.ents ++ [(i, d)]).length ≤ _; have := h.1; simp; omega, h.2.1, hc, fun e he => ?_⟩
  rcases List.mem_append.1 he with he | he
  · exact h.2.2.2 e he
  · obtain rfl := List.mem_singleton.1 he
    exact ⟨by show i ≤ _; omega, hd⟩
theorem Small2.answered {s : SL} {k : Nat} (h : Small2 s k) (n : Int) : Small2 (answered s n) (k + 1) := by
  unfold Go.Proofs.Ytkfkcinkkgdebaa.answered
  split
  · split
    · exact ⟨Nat.le_succ_of_le h.1, h.2⟩
    · refine ⟨by show s.ents.tail.length ≤ _; have := h.1; simp; omega, h.2.1, h.2.2.1, fun e he => h.2.2.2 e (List.mem_of_mem_tail he)⟩
  split
  · exact ⟨Nat.zero_le _, h.2.1, h.2.2.1, fun e he => by cases he⟩
  · exact ⟨Nat.le_succ_of_le h.1, h.2⟩
theorem Small2.more {s : SL} {k : Nat} (h : Small2 s k) : Small2 s (k + 1) := ⟨Nat.le_succ_of_le h.1, h.2⟩
end Go.Proofs.Ytkfkcinkkgdebaa
