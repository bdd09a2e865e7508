/- What is read at the places of entries, in plain Lean. -/
import Derived.Test.YtkfkcinkkgdebaaEmp
set_option linter.unusedVariables false
namespace Go.Proofs.Ytkfkcinkkgdebaa
open Go.Vil Go.Vil.Qu

theorem okScript_cons (s : SL) (x : Qu) (op : QOp) (l : List QOp) : okScript s x (op :: l) = if op.kind = 1 ∧ s.lost = true then True else
      if op.kind = 0 then (∃ op2 l2, l = op2 :: l2 ∧ op2.kind = 6) ∧ (match (x.push op.data).2 with
        | some i => okScript (s.pushed op.data i (x.push op.data).1.cap) (x.push op.data).1 l
        | none => okScript s (x.push op.data).1 l)
      else (op.kind = 1 ∨ op.kind = 2 ∨ op.kind = 3 ∨ op.kind = 4 ∨ op.kind = 5 ∨ op.kind = 6 ∨ op.kind = 7) ∧ (op.kind = 3 ∨ op.kind = 4 → op.index ≤ 0 ∨ ∃ e, atP s.ents op.index = some e) ∧ okScript (answered s op.kind) (qStep x op).1 l := by
  conv => lhs; unfold okScript
  rfl
theorem answered_ended (s : SL) (k : Int) : (answered s k).ended = s.ended := by
  unfold answered
  split
  · split <;> rfl
  · split <;> rfl
theorem okScript_append : ∀ (a b : List QOp) (s : SL) (x : Qu), s.ended = false → okScript s x a → ((played s x a).ended = false → okScript (played s x a) (qEnd x a) b) → okScript s x (a ++ b)
  | [], b, s, x, he, _, h => h he
  | op :: a, b, s, x, he, ha, h => by
    have hq : qEnd x (op :: a) = qEnd (qStep x op).1 a := rfl
    rw [hq, played_cons] at h
    rw [okScript_cons] at ha
    rw [List.cons_append, okScript_cons]
    by_cases hend : op.kind = 1 ∧ s.lost = true
    · rw [if_pos hend]; trivial
    rw [if_neg hend] at h ha
    rw [if_neg hend]
    by_cases h0 : op.kind = 0
    · rw [if_pos h0] at h ha
      rw [if_pos h0]
      obtain ⟨k, d, i⟩ := op
      simp only at h0 h ha ⊢
      subst h0
      rw [qStep_push] at h
      obtain ⟨⟨op2, l2, h1, h2⟩, h3⟩ := ha
      refine ⟨⟨op2, l2 ++ b, by rw [h1]; rfl, h2⟩, ?_⟩
      cases hp : x.push d with
      | mk x' o =>
        simp only [hp] at h h3 ⊢
        cases o with
        | some i => exact okScript_append a b _ _ he h3 h
        | none => exact okScript_append a b _ _ he h3 h
    · rw [if_neg h0] at h ha
      rw [if_neg h0]
      exact ⟨ha.1, ha.2.1, okScript_append a b _ _ (by rw [answered_ended]; exact he) ha.2.2 h⟩

/-- To read, and to ask whether it can be read, at the places of entries. -/
def gets (l : List (Nat × List UInt8)) : List QOp := l.flatMap fun e => [⟨3, [], (e.1 : Nat)⟩, ⟨4, [], (e.1 : Nat)⟩]
theorem gets_snoc (l : List (Nat × List UInt8)) (e : Nat × List UInt8) : gets (l ++ [e]) = gets l ++ [⟨3, [], (e.1 : Nat)⟩, ⟨4, [], (e.1 : Nat)⟩] := by simp [gets]
theorem gets_length (l : List (Nat × List UInt8)) : (gets l).length = 2 * l.length := by
  induction l with
  | nil => rfl
  | cons e l ih => rw [show gets (e :: l) = [⟨3, [], (e.1 : Nat)⟩, ⟨4, [], (e.1 : Nat)⟩] ++ gets l from by simp [gets], List.length_append, ih]; simp; omega
def lastGets : List QOp := [⟨3, [], 0⟩, ⟨4, [], -7⟩, ⟨5, [], 0⟩]
/-- These operations ask for what is there, or for nothing. -/
def Quiet (s : SL) (l : List QOp) : Prop := ∀ op ∈ l, op.data = [] ∧ (op.kind = 5 ∨ ((op.kind = 3 ∨ op.kind = 4) ∧ (op.index ≤ 0 ∨ ∃ e ∈ s.ents, (e.1 : Int) = op.index)))
theorem gets_quiet (s : SL) (l : List (Nat × List UInt8)) (h : ∀ e ∈ l, e ∈ s.ents) : Quiet s (gets l ++ lastGets) := by
  intro op hop
  rcases List.mem_append.1 hop with hop | hop
  · obtain ⟨e, he, hop⟩ := List.mem_flatMap.1 hop
    simp only [List.mem_cons, List.not_mem_nil, or_false] at hop
    rcases hop with rfl | rfl
    · exact ⟨rfl, .inr ⟨.inl rfl, .inr ⟨e, h e he, rfl⟩⟩⟩
    · exact ⟨rfl, .inr ⟨.inr rfl, .inr ⟨e, h e he, rfl⟩⟩⟩
  · simp only [lastGets, List.mem_cons, List.not_mem_nil, or_false] at hop
    rcases hop with rfl | rfl | rfl
    · exact ⟨rfl, .inr ⟨.inl rfl, .inl (by decide)⟩⟩
    · exact ⟨rfl, .inr ⟨.inr rfl, .inl (by decide)⟩⟩
    · exact ⟨rfl, .inl rfl⟩
theorem quiet_same (x : Qu) {op : QOp} (h : op.kind = 3 ∨ op.kind = 4 ∨ op.kind = 5) : (qStep x op).1 = x := by
  unfold qStep
  rcases h with h | h | h <;> rw [h] <;> simp <;> split <;> rfl
theorem quiet_answered (s : SL) {k : Int} (h : k = 3 ∨ k = 4 ∨ k = 5) : answered s k = s := by
  unfold answered; rw [if_neg (by omega), if_neg (by omega)]
theorem quiet_ok : ∀ (l : List QOp) (s : SL) (x : Qu), Quiet s l → okScript s x l
  | [], s, x, _ => trivial
  | op :: l, s, x, h => by
    obtain ⟨_, h1⟩ := h op List.mem_cons_self
    have hk : op.kind = 3 ∨ op.kind = 4 ∨ op.kind = 5 := by
      rcases h1 with h | ⟨h | h, _⟩
      · exact .inr (.inr h)
      · exact .inl h
      · exact .inr (.inl h)
    have hh := hidden h1
    clear h1
    rw [okScript_cons, if_neg (by omega), if_neg (by omega), quiet_answered s hk, quiet_same x hk]
    refine ⟨by omega, fun h34 => ?_, quiet_ok l s x fun o ho => h o (List.mem_cons_of_mem _ ho)⟩
    rcases hh.out with h1 | ⟨_, h1 | ⟨e, he, h1⟩⟩
    · omega
    · exact .inl h1
    · right
      cases hat : atP s.ents op.index with
      | some p => exact ⟨p, rfl⟩
      | none => have := List.find?_eq_none.1 hat e he; simp [h1] at this
theorem quiet_fine : ∀ (l : List QOp) (s : SL) (x : Qu), Quiet s l → Rel s x → x.cap ≤ 1073741824 → x.max ≤ 1073741824 → qFine x l
  | [], s, x, _, _, _, _ => trivial
  | op :: l, s, x, h, hr, hc, hm => by
    obtain ⟨hd, h1⟩ := h op List.mem_cons_self
    have hk : op.kind = 3 ∨ op.kind = 4 ∨ op.kind = 5 := by
      rcases h1 with h | ⟨h | h, _⟩
      · exact .inr (.inr h)
      · exact .inl h
      · exact .inr (.inl h)
    have hh := hidden h1
    clear h1
    refine ⟨⟨by omega, by omega, fun h0 => by omega, fun h34 => ?_, fun h89 => by omega⟩, hc, hm, ?_⟩
    · rcases hh.out with h1 | ⟨_, h1 | ⟨e, he, h1⟩⟩
      · omega
      · exact .inl h1
      · exact .inr ⟨e, hr.item he, h1⟩
    · rw [quiet_same x hk]
      exact quiet_fine l s x (fun o ho => h o (List.mem_cons_of_mem _ ho)) hr hc hm
theorem quiet_total {s : SL} : ∀ {l : List QOp}, Quiet s l → total l = 0
  | [], _ => rfl
  | op :: l, h => by
    have e : total (op :: l) = op.data.length + total l := by simp [total]
    rw [e, quiet_total fun o ho => h o (List.mem_cons_of_mem _ ho), (h op List.mem_cons_self).1]; rfl
end Go.Proofs.Ytkfkcinkkgdebaa
