/- A queue beside a plain list: every answer is one of the list. -/
import Derived.Test.YtkfkcinkkgdebaaInv
import Derived.Test.YtkfkcinkkgdebaaSpP
set_option linter.unusedVariables false
namespace Go.Vil
open Qu

/-- Where blocks lie from a place on. -/
def blocksAt (i : Nat) : List Blk → List (Nat × Blk)
  | [] => []
  | b :: l => (i, b) :: blocksAt (i + b.n) l
theorem blocksAt_append (a b : List Blk) : ∀ i, blocksAt i (a ++ b) = blocksAt i a ++ blocksAt (i + sz a) b := by
  induction a with
  | nil => intro i; simp [blocksAt]
  | cons x a ih => intro i; simp [blocksAt, ih, Nat.add_assoc]
theorem places_blocks : ∀ (l : List Blk) (i : Nat), places i l = (blocksAt i l).map fun p => (p.1, p.2.p)
  | [], _ => rfl
  | b :: l, i => by simp [places, blocksAt, places_blocks l]
theorem blocksAt_in : ∀ {l : List Blk} {i k : Nat} {b : Blk}, (k, b) ∈ blocksAt i l → i ≤ k ∧ k + b.n ≤ i + sz l ∧ b ∈ l
  | [], _, _, _, h => by cases h
  | c :: l, i, k, b, h => by
    simp only [blocksAt, List.mem_cons, Prod.mk.injEq] at h
    rcases h with ⟨rfl, rfl⟩ | h
    · exact ⟨Nat.le_refl _, by simp, List.mem_cons_self⟩
    · obtain ⟨h1, h2, h3⟩ := blocksAt_in h
      rw [sz_cons]
      exact ⟨by omega, by omega, List.mem_cons_of_mem _ h3⟩
/-- Two blocks: the same, or one behind the other. -/
theorem blocksAt_apart : ∀ {l : List Blk} {i k k' : Nat} {b b' : Blk}, (k, b) ∈ blocksAt i l → (k', b') ∈ blocksAt i l → (k = k' ∧ b = b') ∨ k + b.n ≤ k' ∨ k' + b'.n ≤ k
  | [], _, _, _, _, _, h, _ => by cases h
  | c :: l, i, k, k', b, b', h, h' => by
    simp only [blocksAt, List.mem_cons, Prod.mk.injEq] at h h'
    rcases h with ⟨rfl, rfl⟩ | h <;> rcases h' with ⟨rfl, rfl⟩ | h'
    · exact .inl ⟨rfl, rfl⟩
    · exact .inr (.inl (blocksAt_in h').1)
    · exact .inr (.inr (blocksAt_in h).1)
    · exact blocksAt_apart h h'

/-- A block that holds an entry. -/
def Blk.isE (b : Blk) : Prop := b.n = needs b.p.length
theorem Blk.isE.eq {b : Blk} (h : b.isE) : b = entry b.p := by
  cases b
  simp only [Blk.isE] at h
  simp [entry, h]
theorem entry_isE (d : List UInt8) : (entry d).isE := rfl

/-- The list goes on with a push. -/
def SL.pushed (s : SL) (d : List UInt8) (i c : Nat) : SL := { s with ents := s.ents ++ [(i, d)], cap := c, lost := s.lost || (decide (endP s.ents < 0) && decide (s.cap < c)) }
/-- Whether there is room behind the last entry. -/
def SL.room (s : SL) (n : Nat) : Prop := 0 ≤ endP s.ents ∧ endP s.ents + n ≤ s.cap
/-- An answer to a push. -/
def SL.okPush (s : SL) (d : List UInt8) (i c : Nat) : Prop :=
  s.cap ≤ c ∧ (0 < s.most → c ≤ Nat.max s.cap s.most) ∧ (s.room (needs d.length) → (i : Int) = endP s.ents ∧ c = s.cap) ∧ roomP s.ents c i (needs d.length)
def SL.okRefuse (s : SL) (d : List UInt8) : Prop := ¬ s.room (needs d.length) ∧ 0 < s.most ∧ s.most ≤ s.cap + needs d.length

/-- The list says what the queue has. -/
structure Rel (s : SL) (x : Qu) : Prop where
  cap : s.cap = x.cap
  most : s.most = x.max
  plain : s.lost = false → s.ents = x.items ∧ (∀ b ∈ x.old, b.isE) ∧ (∀ b ∈ x.young, b.isE)
  lost : s.lost = true → x.young = [] ∧ x.head = 1 ∧ (∀ e ∈ s.ents, (e.1, entry e.2) ∈ blocksAt 1 x.old) ∧ ∃ pre e, s.ents = pre ++ [e] ∧ e.1 + needs e.2.length = x.tail

theorem endP_snoc {pre : List (Nat × List UInt8)} {e : Nat × List UInt8} (h : ∀ x ∈ pre ++ [e], x.1 ≤ e.1) : endP (pre ++ [e]) = ((e.1 + needs e.2.length : Nat) : Int) := by
  unfold endP
  rw [List.getLast?_concat]
  simp only
  rw [if_neg]
  rintro ⟨x, hx, hlt⟩
  have := h x hx
  omega
theorem endP_neg {pre : List (Nat × List UInt8)} {e x : Nat × List UInt8} (hx : x ∈ pre) (h : e.1 < x.1) : endP (pre ++ [e]) = -1 := by
  unfold endP
  rw [List.getLast?_concat]
  simp only
  rw [if_pos ⟨x, List.mem_append_left _ hx, h⟩]

theorem places_le {l : List Blk} {i : Nat} {e : Nat × List UInt8} (h : e ∈ places i l) : i ≤ e.1 ∧ ∃ b ∈ l, b.p = e.2 ∧ e.1 + b.n ≤ i + sz l ∧ (e.1, b) ∈ blocksAt i l := by
  rw [places_blocks] at h
  obtain ⟨⟨k, b⟩, hb, rfl⟩ := List.mem_map.1 h
  obtain ⟨h1, h2, h3⟩ := blocksAt_in hb
  exact ⟨h1, b, h3, rfl, h2, hb⟩

/-- Where the last entry ends: at the tail, or ahead of older ones. -/
theorem Rel.end {s : SL} {x : Qu} {arr : List UInt8} (h : Rel s x) (hr : x.Rep arr) : (x.young = [] → endP s.ents = x.tail) ∧ (x.young ≠ [] → endP s.ents = -1) := by
  cases hl : s.lost with
  | true =>
    obtain ⟨h1, h2, h3, pre, e, h4, h5⟩ := h.lost hl
    refine ⟨fun _ => ?_, fun hy => absurd h1 hy⟩
    rw [h4, endP_snoc, h5]
    intro y hy
    by_cases hle : y.1 ≤ e.1
    · exact hle
    · exfalso
      have hy' := h3 y (by rw [h4]; exact hy)
      have he' := h3 e (by rw [h4]; simp)
      have hyb := blocksAt_in hy'
      have e1 : (entry y.2).n = needs y.2.length := rfl
      have e2 : (entry e.2).n = needs e.2.length := rfl
      have hp := needs_pos y.2.length
      have ht : x.tail = 1 + sz x.old := by rw [tail_plain h1]; unfold Qu.right; rw [h2]
      rcases blocksAt_apart hy' he' with ⟨h6, _⟩ | h6 | h6
      · omega
      · rw [e1] at h6; omega
      · rw [e2] at h6; rw [e1] at hyb; omega
  | false =>
    obtain ⟨h1, h2, h3⟩ := h.plain hl
    refine ⟨fun hy => ?_, fun hy => ?_⟩
    · rw [h1]
      unfold Qu.items
      rw [hy]
      simp only [places, List.append_nil]
      rcases List.eq_nil_or_concat x.old with ho | ⟨pre, b, ho⟩
      · have hn := hr.none ho
        rw [tail_plain hy]; unfold Qu.right
        rw [ho, hn.1]; rfl
      · rw [List.concat_eq_append] at ho
        have hb := h2 b (by rw [ho]; simp)
        have hsz : sz x.old = sz pre + b.n := by rw [ho]; simp
        rw [ho, places_append]
        simp only [places]
        rw [endP_snoc, tail_plain hy]
        · unfold Qu.right; rw [hsz, ← hb]; simp; omega
        · intro y hy'
          rcases List.mem_append.1 hy' with h5 | h5
          · obtain ⟨_, c, _, _, h6, _⟩ := places_le h5
            show y.1 ≤ x.head + sz pre
            omega
          · rw [List.mem_singleton.1 h5]; exact Nat.le_refl _
    · rw [h1]
      unfold Qu.items
      rcases List.eq_nil_or_concat x.young with ho | ⟨pre, b, ho⟩
      · exact absurd ho hy
      · rw [List.concat_eq_append] at ho
        have hyo := hr.young hy
        have hsz : sz x.young = sz pre + b.n := by rw [ho]; simp
        have hold := hr.old_of_young hy
        have hbp := (hr.okY b (by rw [ho]; simp)).pos
        rw [ho, places_append, ← List.append_assoc]
        simp only [places]
        cases hob : x.old with
        | nil => exact absurd hob hold
        | cons c l =>
          refine endP_neg (x := (x.head, c.p)) (List.mem_append_left _ (by simp [places])) ?_
          show 1 + sz pre < x.head
          omega

/-- What lies in the queue: each entry in a block of its own. -/
theorem Rel.at {s : SL} {x : Qu} (h : Rel s x) {e : Nat × List UInt8} (he : e ∈ s.ents) : (e.1, entry e.2) ∈ blocksAt x.head x.old ∨ (e.1, entry e.2) ∈ blocksAt 1 x.young := by
  cases hl : s.lost with
  | true =>
    obtain ⟨h1, h2, h3, _⟩ := h.lost hl
    rw [h2]; exact .inl (h3 e he)
  | false =>
    obtain ⟨h1, h2, h3⟩ := h.plain hl
    rw [h1] at he
    unfold Qu.items at he
    rcases List.mem_append.1 he with he | he
    · obtain ⟨_, b, hb, h4, _, h5⟩ := places_le he
      have := (h2 b hb).eq
      rw [h4] at this
      rw [← this]; exact .inl h5
    · obtain ⟨_, b, hb, h4, _, h5⟩ := places_le he
      have := (h3 b hb).eq
      rw [h4] at this
      rw [← this]; exact .inr h5

theorem after_plain {x : Qu} (hy : x.young = []) (need : Nat) : x.after need = decide (x.tail + need ≤ x.cap) := by
  unfold Qu.after
  have h1 : x.head ≤ x.tail := by rw [tail_plain hy]; unfold Qu.right; omega
  rw [full_plain hy, if_pos h1]
  simp
theorem Rel.room_iff {s : SL} {x : Qu} {arr : List UInt8} (h : Rel s x) (hr : x.Rep arr) (n : Nat) : s.room n ↔ x.young = [] ∧ x.tail + n ≤ x.cap := by
  obtain ⟨h1, h2⟩ := h.end hr
  unfold SL.room
  rw [h.cap]
  by_cases hy : x.young = []
  · rw [h1 hy]
    constructor
    · intro h; exact ⟨hy, by omega⟩
    · intro h; have := h.2; omega
  · rw [h2 hy]
    constructor
    · intro h; omega
    · intro h; exact absurd h.1 hy

/-- The entries lie apart from a place behind all old ones, or ahead of them. -/
theorem roomP_of {s : SL} {x : Qu} (h : Rel s x) {cap i n : Nat} (h1 : 1 ≤ i) (h2 : i + n ≤ cap) (ho : x.head + sz x.old ≤ i ∨ i + n ≤ x.head ∨ x.old = []) (hy : 1 + sz x.young ≤ i ∨ x.young = []) : roomP s.ents cap i n := by
  refine ⟨h1, h2, fun e he ⟨g1, g2⟩ => ?_⟩
  have en : (entry e.2).n = needs e.2.length := rfl
  rcases h.at he with hb | hb
  · obtain ⟨h3, h4, _⟩ := blocksAt_in hb
    rw [en] at h4
    rcases ho with ho | ho | ho
    · omega
    · omega
    · rw [ho] at hb; cases hb
  · obtain ⟨h3, h4, _⟩ := blocksAt_in hb
    rw [en] at h4
    rcases hy with hy | hy
    · omega
    · rw [hy] at hb; cases hb

theorem put_items {x : Qu} (b : Blk) : (x.put b).items = x.items ++ [(x.tail, b.p)] := by
  unfold Qu.put
  by_cases hy : x.young = []
  · rw [if_pos hy, tail_plain hy]
    unfold Qu.items
    rw [hy]
    simp [places, places_append, Qu.right]
  · rw [if_neg hy, tail_wrapped hy]
    unfold Qu.items
    simp [places, places_append]

/-- A push behind all. -/
theorem rel_put0 {s : SL} {x : Qu} (h : Rel s x) (d : List UInt8) : Rel (s.pushed d x.tail x.cap) (x.put (entry d)) := by
  have e1 : (x.put (entry d)).cap = x.cap := by unfold Qu.put; split <;> rfl
  have e2 : (x.put (entry d)).max = x.max := by unfold Qu.put; split <;> rfl
  have hlost : (s.pushed d x.tail x.cap).lost = s.lost := by
    show (s.lost || (decide (endP s.ents < 0) && decide (s.cap < x.cap))) = s.lost
    rw [h.cap, decide_eq_false (Nat.lt_irrefl x.cap)]; simp
  refine ⟨e1.symm, h.most.trans e2.symm, fun hp => ?_, fun hp => ?_⟩
  · rw [hlost] at hp
    obtain ⟨h1, h2, h3⟩ := h.plain hp
    refine ⟨?_, ?_, ?_⟩
    · show s.ents ++ [(x.tail, d)] = _
      rw [put_items, h1]; rfl
    · unfold Qu.put
      split
      · intro b hb
        rcases List.mem_append.1 hb with hb | hb
        · exact h2 b hb
        · rw [List.mem_singleton.1 hb]; exact entry_isE d
      · exact h2
    · unfold Qu.put
      split
      · exact h3
      · intro b hb
        rcases List.mem_append.1 hb with hb | hb
        · exact h3 b hb
        · rw [List.mem_singleton.1 hb]; exact entry_isE d
  · rw [hlost] at hp
    obtain ⟨h1, h2, h3, pre, e, h4, h5⟩ := h.lost hp
    have ep : x.put (entry d) = { x with old := x.old ++ [entry d] } := by unfold Qu.put; rw [if_pos h1]
    have ht : x.tail = 1 + sz x.old := by rw [tail_plain h1]; unfold Qu.right; rw [h2]
    rw [ep]
    refine ⟨h1, h2, fun y hy => ?_, s.ents, (x.tail, d), rfl, ?_⟩
    · show _ ∈ blocksAt 1 (x.old ++ [entry d])
      rw [blocksAt_append]
      rcases List.mem_append.1 hy with hy | hy
      · exact List.mem_append_left _ (h3 y hy)
      · rw [List.mem_singleton.1 hy]
        refine List.mem_append_right _ ?_
        rw [← ht]; exact List.mem_cons_self
    · rw [tail_plain (q := { x with old := x.old ++ [entry d] }) h1]
      unfold Qu.right
      show x.tail + needs d.length = x.head + sz (x.old ++ [entry d])
      rw [h2, ht, sz_append, sz_cons, sz_nil]
      show _ = 1 + (sz x.old + (needs d.length + 0))
      omega

/-- A push ahead of the oldest one. -/
theorem rel_wrap {s : SL} {x : Qu} (h : Rel s x) (d : List UInt8) (hy : x.young = []) (hf : 1 + needs d.length ≤ x.head) : Rel (s.pushed d 1 x.cap) (x.wrap (entry d)) := by
  have hn := needs_pos d.length
  have hlost : (s.pushed d 1 x.cap).lost = s.lost := by
    show (s.lost || (decide (endP s.ents < 0) && decide (s.cap < x.cap))) = s.lost
    rw [h.cap, decide_eq_false (Nat.lt_irrefl x.cap)]; simp
  refine ⟨rfl, h.most, fun hp => ?_, fun hp => ?_⟩
  · rw [hlost] at hp
    obtain ⟨h1, h2, h3⟩ := h.plain hp
    refine ⟨?_, h2, ?_⟩
    · show s.ents ++ [(1, d)] = _
      rw [h1]
      unfold Qu.items Qu.wrap
      simp [hy, places, entry]
    · intro b hb
      rw [show (x.wrap (entry d)).young = [entry d] by unfold Qu.wrap; simp [hy]] at hb
      rw [List.mem_singleton.1 hb]; exact entry_isE d
  · rw [hlost] at hp
    have := (h.lost hp).2.1
    omega

/-- A push into a greater array. -/
theorem rel_grow {s : SL} {x : Qu} {arr : List UInt8} (h : Rel s x) (hr : x.Rep arr) (d : List UInt8) (hc : x.cap < x.newCap (needs d.length)) (ht : (x.grow (needs d.length)).tail = x.right) :
    Rel (s.pushed d x.right (x.newCap (needs d.length))) ((x.grow (needs d.length)).put (entry d)) := by
  have hgy := grow_young (x := x) (needs d.length)
  obtain ⟨he1, he2⟩ := h.end hr
  have hlost : (s.pushed d x.right (x.newCap (needs d.length))).lost = (s.lost || decide (endP s.ents < 0)) := by
    show (s.lost || (decide (endP s.ents < 0) && decide (s.cap < x.newCap (needs d.length)))) = _
    rw [h.cap, decide_eq_true hc, Bool.and_true]
  by_cases hy : x.young = []
  · have eg : x.grow (needs d.length) = { x with cap := x.newCap (needs d.length) } := by
      unfold Qu.grow Qu.gap
      rw [if_pos hy, if_pos hy, hy]; rfl
    have hnn : decide (endP s.ents < 0) = false := by rw [he1 hy]; exact decide_eq_false (by omega)
    have h' : Rel { s with cap := x.newCap (needs d.length) } { x with cap := x.newCap (needs d.length) } := ⟨rfl, h.most, h.plain, h.lost⟩
    have hp := rel_put0 h' d
    rw [eg]
    have et : ({ x with cap := x.newCap (needs d.length) } : Qu).tail = x.right := by rw [← eg]; exact ht
    rw [et] at hp
    have es : s.pushed d x.right (x.newCap (needs d.length)) = SL.pushed { s with cap := x.newCap (needs d.length) } d x.right (x.newCap (needs d.length)) := by
      have hl2 : (SL.pushed { s with cap := x.newCap (needs d.length) } d x.right (x.newCap (needs d.length))).lost = s.lost := by
        show (s.lost || (decide (endP s.ents < 0) && _)) = s.lost
        rw [hnn]; simp
      have hl1 : (s.pushed d x.right (x.newCap (needs d.length))).lost = s.lost := by rw [hlost, hnn]; simp
      unfold SL.pushed at hl1 hl2 ⊢
      simp only at hl1 hl2 ⊢
      rw [hl1, hl2]
    rw [es]; exact hp
  · have hl : s.lost = false := by
      cases hl : s.lost with
      | false => rfl
      | true => exact absurd (h.lost hl).1 hy
    obtain ⟨h1, h2, h3⟩ := h.plain hl
    have hneg : decide (endP s.ents < 0) = true := by rw [he2 hy]; rfl
    have hlt : (s.pushed d x.right (x.newCap (needs d.length))).lost = true := by rw [hlost, hneg]; simp
    have eo : ((x.grow (needs d.length)).put (entry d)).old = x.young ++ x.gap ++ x.old ++ [entry d] := by unfold Qu.put; rw [if_pos hgy]; rfl
    have eh : ((x.grow (needs d.length)).put (entry d)).head = 1 := by
      unfold Qu.put; rw [if_pos hgy]
      show (if x.young = [] then x.head else 1) = 1
      rw [if_neg hy]
    have ey : ((x.grow (needs d.length)).put (entry d)).young = [] := by unfold Qu.put; rw [if_pos hgy]; exact hgy
    have ec : ((x.grow (needs d.length)).put (entry d)).cap = x.newCap (needs d.length) := by unfold Qu.put; rw [if_pos hgy]; rfl
    have em : ((x.grow (needs d.length)).put (entry d)).max = x.max := by unfold Qu.put; rw [if_pos hgy]; rfl
    have hty := hr.tail_young hy
    have hgap : 1 + sz x.young + sz x.gap = x.head := by
      unfold Qu.gap
      rw [if_neg hy]
      have := tail_wrapped hy
      split
      · simp; omega
      · simp [filler]; omega
    have hrt : 1 + sz (x.young ++ x.gap ++ x.old) = x.right := by simp only [sz_append]; unfold Qu.right; omega
    refine ⟨ec.symm, h.most.trans em.symm, fun hp => (by rw [hlt] at hp; cases hp), fun _ => ⟨ey, eh, fun y hy' => ?_, s.ents, (x.right, d), rfl, ?_⟩⟩
    · rw [eo, blocksAt_append, blocksAt_append, blocksAt_append]
      rcases List.mem_append.1 hy' with hy' | hy'
      · rcases h.at hy' with hb | hb
        · refine List.mem_append_left _ (List.mem_append_right _ ?_)
          rw [sz_append, ← Nat.add_assoc, hgap]; exact hb
        · exact List.mem_append_left _ (List.mem_append_left _ (List.mem_append_left _ hb))
      · rw [List.mem_singleton.1 hy']
        refine List.mem_append_right _ ?_
        rw [hrt]; exact List.mem_cons_self
    · rw [tail_plain ey]
      unfold Qu.right
      rw [eh, eo, sz_append, ← Nat.add_assoc, hrt]
      show x.right + needs d.length = x.right + sz [entry d]
      simp [entry]

theorem push_rel {s : SL} {x : Qu} (h : Rel s x) (hg : x.Good) (d : List UInt8) :
    (∀ i, (x.push d).2 = some i → s.okPush d i (x.push d).1.cap ∧ Rel (s.pushed d i (x.push d).1.cap) (x.push d).1) ∧
    ((x.push d).2 = none → s.okRefuse d ∧ (x.push d).1 = x) := by
  obtain ⟨arr, hr⟩ := hg
  have hn := needs_pos d.length
  have hpc := push_case x d
  have hroom := h.room_iff hr (needs d.length)
  obtain ⟨he1, he2⟩ := h.end hr
  generalize x.push d = r at hpc ⊢
  cases hpc with
  | after ha =>
    have e1 : (x.put (entry d)).cap = x.cap := by unfold Qu.put; split <;> rfl
    have hfit := after_fit hr hn ha
    refine ⟨fun i hi => ?_, fun hi => by cases hi⟩
    cases hi
    show s.okPush d x.tail (x.put (entry d)).cap ∧ Rel (s.pushed d x.tail (x.put (entry d)).cap) (x.put (entry d))
    rw [e1]
    refine ⟨⟨Nat.le_of_eq h.cap, fun _ => by rw [h.cap]; exact Nat.le_max_left _ _, fun hrm => ⟨(he1 (hroom.1 hrm).1).symm, h.cap.symm⟩, ?_⟩, rel_put0 h d⟩
    by_cases hy : x.young = []
    · rw [if_pos hy] at hfit
      have := hr.head
      have ht := tail_plain hy
      unfold Qu.right at ht
      exact roomP_of h (by omega) hfit (.inl (by omega)) (.inr hy)
    · rw [if_neg hy] at hfit
      have h1 := hr.tail_young hy
      have h2 := hr.right_le (hr.old_of_young hy)
      have ht := tail_wrapped hy
      exact roomP_of h (by omega) (by omega) (.inr (.inl hfit)) (.inl (by omega))
  | before ha hb =>
    obtain ⟨hy, hf⟩ := before_fit hr hn ha hb
    have ho : x.old ≠ [] := fun e => by have := (hr.none e).1; omega
    have h2 := hr.right_le ho
    have h3 : x.head ≤ x.right := by unfold Qu.right; omega
    refine ⟨fun i hi => ?_, fun hi => by cases hi⟩
    cases hi
    refine ⟨⟨Nat.le_of_eq h.cap, fun _ => by rw [h.cap]; exact Nat.le_max_left _ _, fun hrm => ?_, roomP_of h (Nat.le_refl 1) (by show 1 + needs d.length ≤ x.cap; omega) (.inr (.inl hf)) (.inr hy)⟩, rel_wrap h d hy hf⟩
    have := hroom.1 hrm
    rw [after_plain hy, decide_eq_false_iff_not] at ha
    exact absurd this.2 ha
  | refused ha hb hc =>
    refine ⟨fun i hi => (by cases hi), fun _ => ⟨⟨fun hrm => ?_, by rw [h.most]; exact hc.2, by rw [h.most, h.cap]; exact hc.1⟩, rfl⟩⟩
    obtain ⟨hy, h2⟩ := hroom.1 hrm
    rw [after_plain hy, decide_eq_false_iff_not] at ha
    exact ha h2
  | grown ha hb hc =>
    have h1 := newCap_room (x := x) hn hc
    have ht := grow_tail hr h1.1
    have ec : ((x.grow (needs d.length)).put (entry d)).cap = x.newCap (needs d.length) := by unfold Qu.put; rw [if_pos (grow_young _)]; rfl
    refine ⟨fun i hi => ?_, fun hi => by cases hi⟩
    cases hi
    show s.okPush d (x.grow (needs d.length)).tail ((x.grow (needs d.length)).put (entry d)).cap ∧ Rel (s.pushed d (x.grow (needs d.length)).tail ((x.grow (needs d.length)).put (entry d)).cap) _
    rw [ec, ht]
    refine ⟨⟨by rw [h.cap]; exact h1.1, fun hm => ?_, fun hrm => ?_, ?_⟩, rel_grow h hr d (by omega) ht⟩
    · rw [h.cap, h.most]
      have hm' : 0 < x.max := by rw [← h.most]; exact hm
      refine Nat.le_trans ?_ (Nat.le_max_right _ _)
      unfold Qu.newCap
      simp only
      split <;> (split <;> omega)
    · obtain ⟨hy, h2⟩ := hroom.1 hrm
      rw [after_plain hy, decide_eq_false_iff_not] at ha
      exact absurd h2 ha
    · have hgr := grow_room hr hn hc
      have hhd := hr.head
      refine roomP_of h (by unfold Qu.right; omega) hgr (.inl (Nat.le_refl _)) ?_
      by_cases hy : x.young = []
      · exact .inr hy
      · have h3 := hr.tail_young hy
        have h4 := tail_wrapped hy
        exact .inl (by omega)
end Go.Vil
