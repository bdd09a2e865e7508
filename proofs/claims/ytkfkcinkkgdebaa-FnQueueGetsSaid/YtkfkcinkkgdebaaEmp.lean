/- A script beside a list: where it ends, in plain Lean; a queue that is emptied. -/
import Derived.Test.YtkfkcinkkgdebaaPly
set_option linter.unusedVariables false
namespace Go.Proofs.Ytkfkcinkkgdebaa
open Go.Vil Go.Vil.Qu

/-- Where a script ends: at an entry that is popped when it is not said which one is the oldest; or list and queue go on together. -/
theorem played_rel : ∀ (ops : List QOp) (s : SL) (x : Qu), Rel s x → x.Good → qFine x ops → okScript s x ops →
    ((played s x ops).ended = true ∧ (played s x ops).lost = true) ∨ ((played s x ops).ended = s.ended ∧ Rel (played s x ops) (qEnd x ops) ∧ (qEnd x ops).Good)
  | [], s, x, hr, hg, _, _ => .inr ⟨rfl, hr, hg⟩
  | op :: l, s, x, hr, hg, hf, hok => by
    obtain ⟨f1, f2, f3, f4⟩ := hf
    unfold okScript at hok
    unfold played qEnd
    by_cases hend : op.kind = 1 ∧ s.lost = true
    · rw [if_pos hend]
      exact .inl ⟨rfl, hend.2⟩
    rw [if_neg hend] at hok ⊢
    have hg2 := qStep_good hg f2 op (fun h => (f1.2.2.1 h).1)
    by_cases h0 : op.kind = 0
    · rw [if_pos h0] at hok ⊢
      obtain ⟨_, ok3⟩ := hok
      obtain ⟨pr1, pr2⟩ := push_rel hr hg op.data
      obtain ⟨k, d, i⟩ := op
      simp only at h0 pr1 pr2 ok3
      subst h0
      rw [qStep_push] at hg2 f4 ⊢
      cases hp : x.push d with
      | mk x' o =>
        simp only [hp] at hg2 f4 pr1 pr2 ok3 ⊢
        cases o with
        | some i =>
          simp only at hg2 f4 pr1 ok3 ⊢
          exact played_rel l (s.pushed d i x'.cap) x' (pr1 i rfl).2 hg2 f4 ok3
        | none =>
          simp only at hg2 f4 pr2 ok3 ⊢
          obtain ⟨_, e⟩ := pr2 trivial
          subst e
          exact played_rel l s _ hr hg2 f4 ok3
    · rw [if_neg h0] at hok ⊢
      obtain ⟨ok1, ok2, ok3⟩ := hok
      have hlost : op.kind = 1 → s.lost = false := fun h => by
        cases hl : s.lost with
        | true => exact absurd ⟨h, hl⟩ hend
        | false => rfl
      have := played_rel l (answered s op.kind) _ (step_rel hr hg op ok1 hlost).2 hg2 f4 ok3
      have he : (answered s op.kind).ended = s.ended := by
        unfold answered
        split
        · split <;> rfl
        · split <;> rfl
      rwa [he] at this
theorem played_length : ∀ (ops : List QOp) (s : SL) (x : Qu), (played s x ops).ents.length ≤ s.ents.length + ops.length
  | [], s, x => Nat.le_refl _
  | op :: l, s, x => by
    unfold played
    by_cases hend : op.kind = 1 ∧ s.lost = true
    · rw [if_pos hend]; show s.ents.length ≤ _; omega
    rw [if_neg hend]
    by_cases h0 : op.kind = 0
    · rw [if_pos h0]
      split
      · rename_i i _
        have := played_length l (s.pushed op.data i (x.push op.data).1.cap) (x.push op.data).1
        have e : (s.pushed op.data i (x.push op.data).1.cap).ents.length = s.ents.length + 1 := by show (s.ents ++ [_]).length = _; simp
        simp only [List.length_cons]; omega
      · have := played_length l s (x.push op.data).1
        simp only [List.length_cons]; omega
    · rw [if_neg h0]
      have := played_length l (answered s op.kind) (qStep x op).1
      have e : (answered s op.kind).ents.length ≤ s.ents.length := by
        unfold answered
        split
        · split
          · exact Nat.le_refl _
          · show s.ents.tail.length ≤ _; simp
        · split
          · exact Nat.zero_le _
          · exact Nat.le_refl _
      simp only [List.length_cons]; omega
theorem played_cons (s : SL) (x : Qu) (op : QOp) (l : List QOp) : played s x (op :: l) = if op.kind = 1 ∧ s.lost = true then { s with ended := true } else
      if op.kind = 0 then (match (x.push op.data).2 with
        | some i => played (s.pushed op.data i (x.push op.data).1.cap) (x.push op.data).1 l
        | none => played s (x.push op.data).1 l)
      else played (answered s op.kind) (qStep x op).1 l := by
  conv => lhs; unfold played
  rfl
theorem played_append : ∀ (a b : List QOp) (s : SL) (x : Qu), s.ended = false → (played s x a).ended = false → played s x (a ++ b) = played (played s x a) (qEnd x a) b
  | [], b, s, x, _, _ => rfl
  | op :: a, b, s, x, he, h => by
    have hq : qEnd x (op :: a) = qEnd (qStep x op).1 a := rfl
    rw [List.cons_append, played_cons, hq]
    rw [played_cons] at h
    rw [played_cons s x op a]
    by_cases hend : op.kind = 1 ∧ s.lost = true
    · rw [if_pos hend] at h; cases h
    rw [if_neg hend] at h
    rw [if_neg hend, if_neg hend]
    by_cases h0 : op.kind = 0
    · rw [if_pos h0] at h
      rw [if_pos h0, if_pos h0]
      obtain ⟨k, d, i⟩ := op
      simp only at h0 h ⊢
      subst h0
      rw [qStep_push]
      cases hp : x.push d with
      | mk x' o =>
        simp only [hp] at h ⊢
        cases o with
        | some i => exact played_append a b _ _ he h
        | none => exact played_append a b _ _ he h
    · rw [if_neg h0] at h
      rw [if_neg h0, if_neg h0]
      refine played_append a b _ _ ?_ h
      unfold answered
      split
      · split <;> exact he
      · split <;> exact he
theorem played_ended : ∀ (a b : List QOp) (s : SL) (x : Qu), s.ended = false → (played s x a).ended = true → played s x (a ++ b) = played s x a
  | [], b, s, x, he, h => by rw [show played s x [] = s from rfl, he] at h; cases h
  | op :: a, b, s, x, he, h => by
    simp only [List.cons_append]
    unfold played at *
    by_cases hend : op.kind = 1 ∧ s.lost = true
    · rw [if_pos hend, if_pos hend]
    rw [if_neg hend] at h ⊢
    rw [if_neg hend]
    by_cases h0 : op.kind = 0
    · rw [if_pos h0] at h ⊢
      rw [if_pos h0]
      cases ho : (x.push op.data).2 with
      | some i => rw [ho] at h; exact played_ended a b _ _ he h
      | none => rw [ho] at h; exact played_ended a b _ _ he h
    · rw [if_neg h0] at h ⊢
      rw [if_neg h0]
      refine played_ended a b _ _ ?_ h
      unfold answered
      split
      · split <;> exact he
      · split <;> exact he

/-- To tell and to pop, so many times. -/
def pops : Nat → List QOp
  | 0 => []
  | n + 1 => ⟨2, [], 0⟩ :: ⟨1, [], 0⟩ :: pops n
theorem pops_snoc : ∀ n, pops (n + 1) = pops n ++ [⟨2, [], 0⟩, ⟨1, [], 0⟩]
  | 0 => rfl
  | n + 1 => by
    show _ :: _ :: pops (n + 1) = _ :: _ :: (pops n ++ _)
    rw [pops_snoc n]
theorem pops_length : ∀ n, (pops n).length = 2 * n
  | 0 => rfl
  | n + 1 => by simp only [pops, List.length_cons, pops_length n]; omega
theorem pops_mem : ∀ n, ∀ op ∈ pops n, op.data = [] ∧ (op.kind = 1 ∨ op.kind = 2)
  | 0, op, h => by cases h
  | n + 1, op, h => by
    simp only [pops, List.mem_cons] at h
    rcases h with rfl | rfl | h
    · exact ⟨rfl, .inr rfl⟩
    · exact ⟨rfl, .inl rfl⟩
    · exact pops_mem n op h
theorem okScript_pops : ∀ (n : Nat) (s : SL) (x : Qu), okScript s x (pops n)
  | 0, s, x => trivial
  | n + 1, s, x => by
    have h1 : ∀ s x, okScript s x (⟨1, [], 0⟩ :: pops n) := by
      intro s x
      unfold okScript
      split
      · trivial
      · rw [if_neg (by simp)]
        exact ⟨by simp, by simp, okScript_pops n _ _⟩
    show okScript s x (⟨2, [], 0⟩ :: ⟨1, [], 0⟩ :: pops n)
    unfold okScript
    rw [if_neg (by simp), if_neg (by simp)]
    exact ⟨by simp, by simp, h1 _ _⟩
theorem asks_pops (n : Nat) : asks (pops n) = 0 := by
  induction n with
  | zero => rfl
  | succ n ih => simp [pops, asks, ih]
theorem total_pops (n : Nat) : total (pops n) = 0 := by
  induction n with
  | zero => rfl
  | succ n ih => simpa [pops, total] using ih
theorem plain_pops (n : Nat) : ∀ op ∈ pops n, Plain6 op := fun op h => by
  obtain ⟨h1, h2⟩ := pops_mem n op h
  exact ⟨by omega, by rw [h1]; simp⟩

theorem step_two {x : Qu} : (qStep x ⟨2, [], 0⟩).1 = x := by
  unfold qStep
  simp only
  rw [if_neg (by decide), if_neg (by decide), if_pos trivial]
  cases x.old <;> rfl
theorem step_one (x : Qu) (hg : x.Good) : (x.items = [] ∧ qStep x ⟨1, [], 0⟩ = (x, ⟨1, 0, []⟩)) ∨ (∃ e, x.items = e :: x.pop.items ∧ (qStep x ⟨1, [], 0⟩).1 = x.pop) := by
  cases ho : x.old with
  | nil => exact .inl ⟨(items_nil hg).2 ho, by unfold qStep; simp [ho]⟩
  | cons b m => exact .inr ⟨_, items_cons ho, by unfold qStep; simp [ho]⟩
theorem pops_last : ∀ (n : Nat) (x : Qu), x.Good → x.items.length ≤ n → (qRun x (pops (n + 1)))[2 * n + 1]? = some ⟨1, 0, []⟩
  | n, x, hg, hl => by
    show (_ :: (qStep (qStep x ⟨2, [], 0⟩).1 ⟨1, [], 0⟩).2 :: qRun _ (pops n))[2 * n + 1]? = _
    rw [step_two]
    rcases step_one x hg with ⟨h1, h2⟩ | ⟨e, h1, h2⟩
    · rw [h2]
      cases n with
      | zero => rfl
      | succ n => exact pops_last n x hg (by rw [h1]; exact Nat.zero_le _)
    · rw [h2]
      cases n with
      | zero => rw [h1] at hl; simp at hl
      | succ n => exact pops_last n x.pop (pop_good hg) (by rw [h1] at hl; simpa using hl)
theorem pops_list : ∀ (n : Nat) (s : SL) (x : Qu), s.lost = false → s.ents.length ≤ n → (played s x (pops n)).lost = false ∧ (played s x (pops n)).ents = []
  | 0, s, x, hl, hn => ⟨hl, List.eq_nil_of_length_eq_zero (Nat.le_zero.1 hn)⟩
  | n + 1, s, x, hl, hn => by
    have h2 : played s x (pops (n + 1)) = played s (qStep x ⟨2, [], 0⟩).1 (⟨1, [], 0⟩ :: pops n) := by
      show played s x (⟨2, [], 0⟩ :: ⟨1, [], 0⟩ :: pops n) = _
      conv => lhs; unfold played
      rw [if_neg (by simp), if_neg (by simp)]
      congr 1
    rw [h2]
    unfold played
    rw [if_neg (by rw [hl]; simp), if_neg (by simp)]
    refine pops_list n _ _ ?_ ?_
    · unfold answered; rw [if_pos rfl, hl]; rfl
    · unfold answered; rw [if_pos rfl, hl]; show s.ents.tail.length ≤ n; simp; omega
theorem pops_lost (n : Nat) (s : SL) (x : Qu) (hl : s.lost = true) : (played s x (pops (n + 1))).lost = true := by
  have h2 : played s x (pops (n + 1)) = played s (qStep x ⟨2, [], 0⟩).1 (⟨1, [], 0⟩ :: pops n) := by
    show played s x (⟨2, [], 0⟩ :: ⟨1, [], 0⟩ :: pops n) = _
    conv => lhs; unfold played
    rw [if_neg (by simp), if_neg (by simp)]
    congr 1
  rw [h2]
  unfold played
  rw [if_pos ⟨rfl, hl⟩]
  exact hl
/-- A queue that is emptied: nothing is there, and behind the last one there is an error; or it is not said. -/
theorem emptied {q : List QOp} {x : Qu} {s : SL} (he : s.ended = false) (h0 : s.ents = []) (hr : Rel s x) (hg : x.Good) (hf : qFine x q) (hok : okScript s x q) :
    (played s x (q ++ pops (q.length + 1))).lost = true ∨ ((played s x (q ++ pops (q.length + 1))).lost = false ∧ (played s x (q ++ pops (q.length + 1))).ents = [] ∧ (qRun x (q ++ pops (q.length + 1)))[q.length + 2 * q.length + 1]? = some ⟨1, 0, []⟩) := by
  rcases played_rel q s x hr hg hf hok with ⟨h1, h2⟩ | ⟨h1, h2, h3⟩
  · left
    rw [played_ended q _ s x he h1]; exact h2
  · rw [he] at h1
    rw [played_append q _ s x he h1]
    have hlen := played_length q s x
    rw [h0, List.length_nil, Nat.zero_add] at hlen
    cases hl : (played s x q).lost with
    | true => exact .inl (pops_lost _ _ _ hl)
    | false =>
      right
      obtain ⟨g1, g2⟩ := pops_list (q.length + 1) (played s x q) (qEnd x q) hl (by omega)
      refine ⟨g1, g2, ?_⟩
      rw [qRun_append, List.getElem?_append_right (by rw [qRun_length]; omega), qRun_length, show q.length + 2 * q.length + 1 - q.length = 2 * q.length + 1 by omega]
      exact pops_last q.length _ h3 (by rw [← (h2.plain hl).1]; exact hlen)
end Go.Proofs.Ytkfkcinkkgdebaa
