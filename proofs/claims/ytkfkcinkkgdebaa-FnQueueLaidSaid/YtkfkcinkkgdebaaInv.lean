/- What stays true of a queue through all operations: its bytes can lie in an array, its capacity stays small. -/
import Derived.Test.YtkfkcinkkgdebaaQuG
set_option linter.unusedVariables false
namespace Go.Vil
namespace Qu
/-- Some array has the bytes of the queue. -/
def Good (x : Qu) : Prop := ∃ arr, x.Rep arr
theorem fresh_good (cap max : Nat) : (fresh cap max).Good := ⟨zeros cap, zeros_length cap, by simp [fresh], by simp [fresh], Nat.le_refl _, fun _ => ⟨rfl, rfl⟩, fun h => absurd rfl h, fun h => absurd rfl h⟩
theorem reset_fresh (x : Qu) : x.reset = fresh x.cap x.max := rfl
theorem reset_good (x : Qu) : x.reset.Good := fresh_good _ _
theorem pop_good {x : Qu} (h : x.Good) : x.pop.Good := by
  obtain ⟨arr, hr⟩ := h
  cases ho : x.old with
  | nil => refine ⟨arr, ?_⟩; unfold pop; rw [ho]; exact hr
  | cons b l => exact ⟨arr, (pop_rep hr ho).1⟩
theorem grow_good {x : Qu} (h : x.Good) {need : Nat} (hn : 1 ≤ need) (hno : ¬ (x.cap + need ≥ x.max ∧ x.max > 0)) (hs : x.cap < 4294967296) : (x.grow need).Good := by
  obtain ⟨arr, hr⟩ := h
  have hroom := newCap_room (x := x) hn hno
  by_cases h1 : x.right = 1
  · exact ⟨zeros (x.newCap need), (grow_none hr h1 need _ (zeros_length _)).1⟩
  · have ho := hr.old_of_right h1
    have hrr := (hr.right_le ho).1
    by_cases hy : x.young = []
    · exact ⟨_, (grow_plain hr hy ho need (by omega)).1⟩
    · by_cases ht : x.tail = x.head
      · exact ⟨_, (grow_tight hr hy ht need (by omega)).1⟩
      · have := hr.tail_young hy
        exact ⟨_, (grow_gap hr hy ht need (by omega) (by omega)).1⟩
theorem put_good {x : Qu} (h : x.Good) {b : Blk} (hb : b.ok) (hfit : x.tail + b.n ≤ if x.young = [] then x.cap else x.head) : (x.put b).Good := by
  obtain ⟨arr, hr⟩ := h
  exact ⟨_, (put_rep hr hb hfit).1⟩
theorem wrap_good {x : Qu} (h : x.Good) {b : Blk} (hb : b.ok) (hy : x.young = []) (hfit : 1 + b.n ≤ x.head) : (x.wrap b).Good := by
  obtain ⟨arr, hr⟩ := h
  exact ⟨_, (wrap_rep hr hb hy hfit).1⟩
theorem needs_pos (n : Nat) : 1 ≤ needs n := by have := hsz_le n; unfold needs; omega
/-- The cases of a push. -/
inductive PushCase (x : Qu) (d : List UInt8) : Qu × Option Nat → Prop
  | after (h : x.after (needs d.length) = true) : PushCase x d (x.put (entry d), some x.tail)
  | before (h : x.after (needs d.length) = false) (h' : x.before (needs d.length) = true) : PushCase x d (x.wrap (entry d), some 1)
  | refused (h : x.after (needs d.length) = false) (h' : x.before (needs d.length) = false) (hc : x.cap + needs d.length ≥ x.max ∧ x.max > 0) : PushCase x d (x, none)
  | grown (h : x.after (needs d.length) = false) (h' : x.before (needs d.length) = false) (hc : ¬ (x.cap + needs d.length ≥ x.max ∧ x.max > 0)) : PushCase x d ((x.grow (needs d.length)).put (entry d), some (x.grow (needs d.length)).tail)
theorem push_case (x : Qu) (d : List UInt8) : PushCase x d (x.push d) := by
  unfold push
  split
  · exact .after ‹_›
  · rename_i h
    split
    · exact .before (by simpa using h) ‹_›
    · rename_i h'
      split
      · exact .refused (by simpa using h) (by simpa using h') ‹_›
      · exact .grown (by simpa using h) (by simpa using h') ‹_›
theorem push_good {x : Qu} (h : x.Good) {d : List UInt8} (hd : d.length < 4294967000) (hs : x.cap < 4294967296) : (x.push d).1.Good := by
  have hn := needs_pos d.length
  have hg := h
  obtain ⟨arr, hr⟩ := h
  have hpc := push_case x d
  generalize x.push d = r at hpc ⊢
  cases hpc with
  | after h => exact put_good hg (entry_ok hd) (after_fit hr hn h)
  | before h h' =>
    obtain ⟨h1, h2⟩ := before_fit hr hn h h'
    exact wrap_good hg (entry_ok hd) h1 h2
  | refused => exact hg
  | grown h h' hc =>
    have h1 := newCap_room (x := x) hn hc
    refine put_good (grow_good hg hn hc hs) (entry_ok hd) ?_
    rw [if_pos (grow_young _), grow_tail hr h1.1]
    exact grow_room hr hn hc

/-- The bound of the capacity: T is what all pushes so far have asked for. -/
structure Bnd (x : Qu) (c0 T : Nat) : Prop where
  cap : x.cap ≤ c0 ∨ x.cap ≤ x.max ∨ x.cap ≤ 4 * T + 4
  right : x.max = 0 → 2 * x.right ≤ x.cap + 2 * T + 2
  young : x.max = 0 → x.young ≠ [] → x.cap ≤ 2 * T + 2
theorem fresh_bnd (cap max : Nat) : (fresh cap max).Bnd cap 0 := ⟨.inl (Nat.le_refl _), fun _ => by simp only [fresh, right, sz_nil]; omega, fun _ h => absurd rfl h⟩
theorem Bnd.mono {x : Qu} {c0 T T' : Nat} (h : x.Bnd c0 T) (hT : T ≤ T') : x.Bnd c0 T' := ⟨by have := h.cap; omega, fun hm => by have := h.right hm; omega, fun hm hy => by have := h.young hm hy; omega⟩
theorem reset_bnd {x : Qu} {c0 T : Nat} (h : x.Bnd c0 T) : x.reset.Bnd c0 T := ⟨h.cap, fun _ => by simp only [reset, right, sz_nil]; omega, fun _ h => absurd rfl h⟩
theorem pop_bnd {x : Qu} {c0 T : Nat} (hg : x.Good) (h : x.Bnd c0 T) : x.pop.Bnd c0 T := by
  obtain ⟨arr, hr⟩ := hg
  cases ho : x.old with
  | nil => have : x.pop = x := by unfold pop; rw [ho]
           rw [this]; exact h
  | cons b l =>
    obtain ⟨_, h1, h2, _, _, h3, h4⟩ := pop_rep hr ho
    have hle := hr.tail_le
    have h1r : 1 ≤ x.right := by have := hr.head; unfold right; omega
    refine ⟨by rw [h1, h2]; exact h.cap, fun hm => ?_, fun hm hy => ?_⟩
    · rw [h2] at hm
      have := h.right hm
      rw [h1]
      by_cases hl : l = []
      · obtain ⟨_, _, g1, g2⟩ := h3 hl
        rw [g2, g1]
        split <;> omega
      · rw [(h4 hl).2.2.2]; exact this
    · rw [h2] at hm
      rw [h1]
      refine h.young hm fun e => hy ?_
      unfold pop; rw [ho]
      simp only
      split
      · rfl
      · exact e
theorem after_false {x : Qu} {arr : List UInt8} (hr : x.Rep arr) (hy : x.young = []) {need : Nat} (h : x.after need = false) : x.cap < x.right + need := by
  unfold after at h
  have h1 : x.head ≤ x.tail := by rw [tail_plain hy]; unfold right; omega
  rw [full_plain hy, if_pos h1, tail_plain hy] at h
  simpa using h
theorem newCap_le {x : Qu} {need c0 T : Nat} (hb : x.cap ≤ c0 ∨ x.cap ≤ x.max ∨ x.cap ≤ 4 * T + 4) (h : x.max = 0 → x.cap ≤ 2 * T + 2) (hn : need ≤ T) : x.newCap need ≤ c0 ∨ x.newCap need ≤ x.max ∨ x.newCap need ≤ 4 * T + 4 := by
  unfold newCap
  simp only
  split <;> split <;> omega
theorem newCap_twice {x : Qu} {need : Nat} (h : x.max = 0) : 2 * x.cap ≤ x.newCap need ∧ 2 ≤ x.newCap need ∨ need = 0 ∧ x.cap = 0 := by
  unfold newCap
  simp only [h]
  split <;> simp <;> omega
theorem put_right {x : Qu} (b : Blk) : (x.put b).right ≤ x.right + b.n ∧ x.right ≤ (x.put b).right := by
  unfold put
  split
  · simp [right]; omega
  · simp [right]
theorem push_bnd {x : Qu} {c0 T : Nat} (hg : x.Good) (h : x.Bnd c0 T) (d : List UInt8) : (x.push d).1.Bnd c0 (T + needs d.length) := by
  have hn := needs_pos d.length
  obtain ⟨arr, hr⟩ := hg
  have hm := h.mono (Nat.le_add_right T (needs d.length))
  have hen : (entry d).n = needs d.length := rfl
  have hpc := push_case x d
  generalize x.push d = r at hpc ⊢
  cases hpc with
  | after ha =>
    show Bnd (x.put (entry d)) c0 _
    have hp := put_right (x := x) (entry d)
    have e1 : (x.put (entry d)).cap = x.cap := by unfold put; split <;> rfl
    have e2 : (x.put (entry d)).max = x.max := by unfold put; split <;> rfl
    refine ⟨by rw [e1, e2]; exact hm.cap, fun h0 => ?_, fun h0 hy => ?_⟩
    · rw [e2] at h0; have := h.right h0; rw [e1]; rw [hen] at hp; omega
    · rw [e2] at h0; rw [e1]
      by_cases hyy : x.young = []
      · exfalso; apply hy; unfold put; rw [if_pos hyy]; exact hyy
      · exact hm.young h0 hyy
  | before ha hb =>
    obtain ⟨hy, hf⟩ := before_fit hr hn ha hb
    have h1 := after_false hr hy ha
    refine ⟨hm.cap, fun h0 => hm.right h0, fun h0 _ => ?_⟩
    have := h.right h0
    show x.cap ≤ _
    omega
  | refused => exact hm
  | grown ha hb hc =>
    show Bnd ((x.grow (needs d.length)).put (entry d)) c0 _
    have h1 := newCap_room (x := x) hn hc
    have hgy := grow_young (x := x) (needs d.length)
    have hgt := grow_tail hr h1.1
    have e1 : ((x.grow (needs d.length)).put (entry d)).cap = x.newCap (needs d.length) := by unfold put; rw [if_pos hgy]; rfl
    have e2 : ((x.grow (needs d.length)).put (entry d)).max = x.max := by unfold put; rw [if_pos hgy]; rfl
    have hcap : x.max = 0 → x.cap ≤ 2 * (T + needs d.length) + 2 := fun h0 => by
      by_cases hy : x.young = []
      · have h2 := after_false hr hy ha
        have := h.right h0
        omega
      · have := h.young h0 hy; omega
    have hrr : x.right ≤ x.cap ∨ x.right = 1 := by
      by_cases h1 : x.right = 1
      · exact .inr h1
      · exact .inl (hr.right_le (hr.old_of_right h1)).1
    have hp := put_right (x := x.grow (needs d.length)) (entry d)
    have hgr : (x.grow (needs d.length)).right = x.right := by rw [← tail_plain hgy]; exact hgt
    rw [hgr, hen] at hp
    refine ⟨by rw [e1, e2]; exact newCap_le hm.cap hcap (Nat.le_add_left _ _), fun h0 => ?_, fun h0 hy => ?_⟩
    · rw [e2] at h0
      rw [e1]
      have h3 := newCap_twice (x := x) (need := needs d.length) h0
      omega
    · exfalso; apply hy; unfold put; rw [if_pos hgy]; exact hgy
end Qu
end Go.Vil
