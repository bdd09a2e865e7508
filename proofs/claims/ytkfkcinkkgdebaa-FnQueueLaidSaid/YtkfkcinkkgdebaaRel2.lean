/- A queue beside a plain list: what is popped, told, read. -/
import Derived.Test.YtkfkcinkkgdebaaRel
import Derived.Test.YtkfkcinkkgdebaaQi
set_option linter.unusedVariables false
namespace Go.Proofs.Ytkfkcinkkgdebaa
open Go.Vil Go.Vil.Qu

/-- An answer to an operation that is no push. -/
def okAns (s : SL) (op : QOp) (an : QAns) : Prop :=
  ((op.kind = 1 ∨ op.kind = 2) → (s.ents = [] → an.fault = 1) ∧ ∀ e l, s.ents = e :: l → an.fault = 0 ∧ (s.lost = false → an.data = e.2)) ∧
  ((op.kind = 3 ∨ op.kind = 4) → (∀ e, s.ents.find? (fun p => (p.1 : Int) == op.index) = some e → an.fault = 0 ∧ (op.kind = 3 → an.data = e.2)) ∧ (op.index ≤ 0 → an.fault = 1)) ∧
  (op.kind = 5 → an.fault = 0 ∧ (s.lost = false → an.number = s.ents.length)) ∧
  (op.kind = 6 → an.fault = 0 ∧ an.number = s.cap) ∧
  (op.kind = 7 → an.fault = 0)
/-- The list behind it. -/
def answered (s : SL) (k : Int) : SL := if k = 1 then (if s.lost then s else { s with ents := s.ents.tail }) else if k = 7 then { s with ents := [], lost := false } else s

theorem items_nil {x : Qu} (hg : x.Good) : x.items = [] ↔ x.old = [] := by
  obtain ⟨arr, hr⟩ := hg
  constructor
  · intro h
    unfold Qu.items at h
    have := (List.append_eq_nil_iff.1 h).1
    cases ho : x.old with
    | nil => rfl
    | cons b l => rw [ho] at this; simp [places] at this
  · intro h
    have := (hr.none h).2
    unfold Qu.items
    rw [h, this]; rfl
theorem items_cons {x : Qu} {b : Blk} {l : List Blk} (h : x.old = b :: l) : x.items = (x.head, b.p) :: x.pop.items := by
  unfold Qu.items Qu.pop
  rw [h]
  simp only
  by_cases hl : l = []
  · rw [if_pos hl, hl]; simp [places]
  · rw [if_neg hl]; simp [places]
theorem _root_.Go.Vil.Rel.ents_nil {s : SL} {x : Qu} (h : Rel s x) (hg : x.Good) (he : s.ents = []) : x.old = [] := by
  cases hl : s.lost with
  | true => obtain ⟨_, _, _, pre, e, h4, _⟩ := h.lost hl; rw [he] at h4; simp at h4
  | false => rw [(h.plain hl).1] at he; exact (items_nil hg).1 he
theorem _root_.Go.Vil.Rel.ents_cons {s : SL} {x : Qu} (h : Rel s x) (hg : x.Good) {e : Nat × List UInt8} {l : List (Nat × List UInt8)} (he : s.ents = e :: l) : ∃ b m, x.old = b :: m ∧ (s.lost = false → b.p = e.2 ∧ l = x.pop.items) := by
  cases ho : x.old with
  | nil =>
    exfalso
    cases hl : s.lost with
    | true => obtain ⟨_, _, h3, _⟩ := h.lost hl; have := h3 e (by rw [he]; simp); rw [ho] at this; cases this
    | false => rw [(h.plain hl).1, (items_nil hg).2 ho] at he; cases he
  | cons b m =>
    refine ⟨b, m, rfl, fun hl => ?_⟩
    rw [(h.plain hl).1, items_cons ho] at he
    cases he
    exact ⟨rfl, rfl⟩
theorem item_mem {x : Qu} {k : Nat} {b : Blk} (h : (k, b) ∈ blocksAt x.head x.old ∨ (k, b) ∈ blocksAt 1 x.young) : (k, b.p) ∈ x.items := by
  unfold Qu.items
  rw [places_blocks, places_blocks]
  rcases h with h | h
  · exact List.mem_append_left _ (List.mem_map.2 ⟨_, h, rfl⟩)
  · exact List.mem_append_right _ (List.mem_map.2 ⟨_, h, rfl⟩)
theorem item_of {x : Qu} {p : Nat × List UInt8} (h : p ∈ x.items) : ∃ b, b.p = p.2 ∧ ((p.1, b) ∈ blocksAt x.head x.old ∨ (p.1, b) ∈ blocksAt 1 x.young) := by
  unfold Qu.items at h
  rcases List.mem_append.1 h with h | h
  · obtain ⟨_, b, _, h2, _, h3⟩ := places_le h
    exact ⟨b, h2, .inl h3⟩
  · obtain ⟨_, b, _, h2, _, h3⟩ := places_le h
    exact ⟨b, h2, .inr h3⟩
/-- At a place there is one entry only. -/
theorem item_one {x : Qu} {arr : List UInt8} (hr : x.Rep arr) {k : Nat} {p q : List UInt8} (hp : (k, p) ∈ x.items) (hq : (k, q) ∈ x.items) : p = q := by
  obtain ⟨b, hb, h1⟩ := item_of hp
  obtain ⟨c, hc, h2⟩ := item_of hq
  simp only at hb hc h1 h2
  have pos : ∀ {b : Blk}, ((k, b) ∈ blocksAt x.head x.old ∨ (k, b) ∈ blocksAt 1 x.young) → 1 ≤ b.n := by
    intro b h
    rcases h with h | h
    · exact (hr.okO b (blocksAt_in h).2.2).pos
    · exact (hr.okY b (blocksAt_in h).2.2).pos
  have p1 := pos h1
  have p2 := pos h2
  have cross : ∀ {b c : Blk}, (k, b) ∈ blocksAt x.head x.old → (k, c) ∈ blocksAt 1 x.young → 1 ≤ c.n → False := by
    intro b c h1 h2 hc
    have h3 := (blocksAt_in h1).1
    have h4 := (blocksAt_in h2).2.1
    have hy : x.young ≠ [] := fun e => by rw [e] at h2; cases h2
    have := (hr.young hy).2
    omega
  rw [← hb, ← hc]
  rcases h1 with h1 | h1 <;> rcases h2 with h2 | h2
  · rcases blocksAt_apart h1 h2 with ⟨_, rfl⟩ | h | h
    · rfl
    · omega
    · omega
  · exact (cross h1 h2 p2).elim
  · exact (cross h2 h1 p1).elim
  · rcases blocksAt_apart h1 h2 with ⟨_, rfl⟩ | h | h
    · rfl
    · omega
    · omega
theorem _root_.Go.Vil.Rel.item {s : SL} {x : Qu} (h : Rel s x) {e : Nat × List UInt8} (he : e ∈ s.ents) : e ∈ x.items := by
  have := item_mem (h.at he)
  exact this
theorem find_ent {s : SL} {x : Qu} {arr : List UInt8} (h : Rel s x) (hr : x.Rep arr) {i : Int} {e : Nat × List UInt8} (he : s.ents.find? (fun p => (p.1 : Int) == i) = some e) : x.items.find? (fun p => (p.1 : Int) == i) = some e := by
  have h1 := List.mem_of_find?_eq_some he
  have h2 := List.find?_some he
  simp only [beq_iff_eq] at h2
  have h3 := h.item h1
  cases hf : x.items.find? (fun p => (p.1 : Int) == i) with
  | none => have := List.find?_eq_none.1 hf e h3; simp [h2] at this
  | some q =>
    have g1 := List.mem_of_find?_eq_some hf
    have g2 := List.find?_some hf
    simp only [beq_iff_eq] at g2
    have hk : q.1 = e.1 := by omega
    obtain ⟨qk, qp⟩ := q
    obtain ⟨ek, ep⟩ := e
    simp only at hk
    subst hk
    rw [item_one hr g1 h3]
theorem pop_isE {x : Qu} (h1 : ∀ b ∈ x.old, b.isE) (h2 : ∀ b ∈ x.young, b.isE) : (∀ b ∈ x.pop.old, b.isE) ∧ (∀ b ∈ x.pop.young, b.isE) := by
  unfold Qu.pop
  cases ho : x.old with
  | nil => simp only; rw [ho] at h1 ⊢; exact ⟨h1, h2⟩
  | cons b l =>
    simp only
    split
    · exact ⟨h2, by simp⟩
    · exact ⟨fun c hc => h1 c (by rw [ho]; exact List.mem_cons_of_mem _ hc), h2⟩

theorem step_rel {s : SL} {x : Qu} (h : Rel s x) (hg : x.Good) (op : QOp) (hk : op.kind = 1 ∨ op.kind = 2 ∨ op.kind = 3 ∨ op.kind = 4 ∨ op.kind = 5 ∨ op.kind = 6 ∨ op.kind = 7) (hp : op.kind = 1 → s.lost = false) :
    okAns s op (qStep x op).2 ∧ Rel (answered s op.kind) (qStep x op).1 := by
  obtain ⟨k, d, i⟩ := op
  simp only at hk hp
  have hgg := hg
  obtain ⟨arr, hr⟩ := hgg
  have triv : ∀ {P : Prop} {a b : Int}, a ≠ b → (a = b → P) := fun h h' => absurd h' h
  rcases hk with rfl | rfl | rfl | rfl | rfl | rfl | rfl
  · have hl := hp rfl
    have hpl := h.plain hl
    have eans : answered s 1 = { s with ents := s.ents.tail } := by unfold answered; rw [if_pos rfl, hl]; rfl
    cases ho : x.old with
    | nil =>
      have e1 : qStep x ⟨1, d, i⟩ = (x, ⟨1, 0, []⟩) := by unfold qStep; simp [ho]
      have e2 : s.ents = [] := by rw [hpl.1, (items_nil hg).2 ho]
      rw [e1]
      refine ⟨⟨fun _ => ⟨fun _ => rfl, fun e l he => (by rw [e2] at he; cases he)⟩, by simp, by simp, by simp, by simp⟩, ?_⟩
      show Rel (answered s 1) x
      rw [eans, e2]
      refine ⟨h.cap, h.most, fun _ => ⟨by show ([] : List (Nat × List UInt8)).tail = _; rw [(items_nil hg).2 ho]; rfl, hpl.2⟩, fun hl' => by rw [show ({ s with ents := ([] : List (Nat × List UInt8)).tail } : SL).lost = s.lost from rfl, hl] at hl'; cases hl'⟩
    | cons b m =>
      have e1 : qStep x ⟨1, d, i⟩ = (x.pop, ⟨0, 0, b.p⟩) := by unfold qStep; simp [ho]
      have e2 : s.ents = (x.head, b.p) :: x.pop.items := by rw [hpl.1, items_cons ho]
      obtain ⟨_, pc, pm, _⟩ := pop_rep hr ho
      rw [e1]
      refine ⟨⟨fun _ => ⟨fun he => (by rw [e2] at he; cases he), fun e l he => (by rw [e2] at he; cases he; exact ⟨rfl, fun _ => rfl⟩)⟩, by simp, by simp, by simp, by simp⟩, ?_⟩
      show Rel (answered s 1) x.pop
      rw [eans, e2]
      exact ⟨h.cap.trans pc.symm, h.most.trans pm.symm, fun _ => ⟨rfl, pop_isE hpl.2.1 hpl.2.2⟩, fun hl' => by rw [show ({ s with ents := ((x.head, b.p) :: x.pop.items).tail } : SL).lost = s.lost from rfl, hl] at hl'; cases hl'⟩
  · have eans : answered s 2 = s := by unfold answered; rw [if_neg (by decide), if_neg (by decide)]
    cases ho : x.old with
    | nil =>
      have e1 : qStep x ⟨2, d, i⟩ = (x, ⟨1, 0, []⟩) := by unfold qStep; simp [ho]
      rw [e1]
      refine ⟨⟨fun _ => ⟨fun _ => rfl, fun e l he => ?_⟩, by simp, by simp, by simp, by simp⟩, by show Rel (answered s 2) x; rw [eans]; exact h⟩
      obtain ⟨b, m, hb, _⟩ := h.ents_cons hg he
      rw [ho] at hb; cases hb
    | cons b m =>
      have e1 : qStep x ⟨2, d, i⟩ = (x, ⟨0, 0, b.p⟩) := by unfold qStep; simp [ho]
      rw [e1]
      refine ⟨⟨fun _ => ⟨fun he => ?_, fun e l he => ⟨rfl, fun hl => ?_⟩⟩, by simp, by simp, by simp, by simp⟩, by show Rel (answered s 2) x; rw [eans]; exact h⟩
      · have := h.ents_nil hg he; rw [ho] at this; cases this
      · obtain ⟨c, m', hb, h2⟩ := h.ents_cons hg he
        rw [ho] at hb; cases hb
        exact (h2 hl).1
  · have eans : answered s 3 = s := by unfold answered; rw [if_neg (by decide), if_neg (by decide)]
    have e0 : (qStep x ⟨3, d, i⟩).1 = x := by unfold qStep; simp only; rw [if_neg (by decide), if_neg (by decide), if_neg (by decide), if_pos trivial]; split <;> rfl
    refine ⟨⟨by simp, fun _ => ⟨fun e he => ?_, fun hi => ?_⟩, by simp, by simp, by simp⟩, by rw [e0]; show Rel (answered s 3) x; rw [eans]; exact h⟩
    · have := find_ent h hr he
      unfold qStep; simp only; rw [if_neg (by decide), if_neg (by decide), if_neg (by decide), if_pos trivial, this]
      exact ⟨rfl, fun _ => rfl⟩
    · have := items_none hr hi
      unfold qStep; simp only; rw [if_neg (by decide), if_neg (by decide), if_neg (by decide), if_pos trivial, this]
  · have eans : answered s 4 = s := by unfold answered; rw [if_neg (by decide), if_neg (by decide)]
    have e0 : (qStep x ⟨4, d, i⟩).1 = x := by unfold qStep; simp only; rw [if_neg (by decide), if_neg (by decide), if_neg (by decide), if_neg (by decide), if_pos trivial]; split <;> rfl
    refine ⟨⟨by simp, fun _ => ⟨fun e he => ?_, fun hi => ?_⟩, by simp, by simp, by simp⟩, by rw [e0]; show Rel (answered s 4) x; rw [eans]; exact h⟩
    · have := find_ent h hr he
      unfold qStep; simp only; rw [if_neg (by decide), if_neg (by decide), if_neg (by decide), if_neg (by decide), if_pos trivial, this]
      exact ⟨rfl, fun h => by simp at h⟩
    · have := items_none hr hi
      unfold qStep; simp only; rw [if_neg (by decide), if_neg (by decide), if_neg (by decide), if_neg (by decide), if_pos trivial, this]
  · have eans : answered s 5 = s := by unfold answered; rw [if_neg (by decide), if_neg (by decide)]
    have e1 : qStep x ⟨5, d, i⟩ = (x, ⟨0, x.count, []⟩) := by unfold qStep; simp
    rw [e1]
    refine ⟨⟨by simp, by simp, fun _ => ⟨rfl, fun hl => ?_⟩, by simp, by simp⟩, by show Rel (answered s 5) x; rw [eans]; exact h⟩
    rw [(h.plain hl).1]
    unfold Qu.items Qu.count
    simp
  · have eans : answered s 6 = s := by unfold answered; rw [if_neg (by decide), if_neg (by decide)]
    have e1 : qStep x ⟨6, d, i⟩ = (x, ⟨0, x.cap, []⟩) := by unfold qStep; simp
    rw [e1]
    exact ⟨⟨by simp, by simp, by simp, fun _ => ⟨rfl, by rw [h.cap]⟩, by simp⟩, by show Rel (answered s 6) x; rw [eans]; exact h⟩
  · have e1 : qStep x ⟨7, d, i⟩ = (x.reset, ⟨0, 0, []⟩) := by unfold qStep; simp
    have eans : answered s 7 = { s with ents := [], lost := false } := by unfold answered; rw [if_neg (by decide), if_pos rfl]
    rw [e1]
    refine ⟨⟨by simp, by simp, by simp, by simp, fun _ => rfl⟩, ?_⟩
    show Rel (answered s 7) x.reset
    rw [eans]
    exact ⟨h.cap, h.most, fun _ => ⟨rfl, fun b hb => (by cases hb), fun b hb => (by cases hb)⟩, fun hl => (by cases hl)⟩
end Go.Proofs.Ytkfkcinkkgdebaa
