/- How the bytes of a queue lie when it has grown, been pushed to, popped from. -/
import Derived.Test.YtkfkcinkkgdebaaQuP
set_option linter.unusedVariables false
namespace Go.Vil
namespace Qu
def zeros (n : Nat) : List UInt8 := List.replicate n 0
@[simp] theorem zeros_length (n : Nat) : (zeros n).length = n := by simp [zeros]
variable {x : Qu} {arr : List UInt8}

theorem Rep.right_le (hr : x.Rep arr) (h : x.old ≠ []) : x.right ≤ x.cap ∧ 1 < x.right := by
  have h1 := (hr.old h).1
  rw [cat_length hr.okO, hr.len] at h1
  have h2 := sz_pos hr.okO h
  have := hr.head
  unfold Qu.right
  omega
theorem Rep.old_of_right (hr : x.Rep arr) (h : x.right ≠ 1) : x.old ≠ [] := by
  intro e
  have := (hr.none e).1
  apply h
  unfold Qu.right
  rw [this, e]; rfl
theorem Rep.old_of_young (hr : x.Rep arr) (h : x.young ≠ []) : x.old ≠ [] := fun e => h (hr.none e).2
theorem Rep.right_of_old (hr : x.Rep arr) (h : x.old ≠ []) : x.right ≠ 1 := by have := (hr.right_le h).2; omega
theorem Rep.tail_young (hr : x.Rep arr) (h : x.young ≠ []) : x.tail ≤ x.head ∧ x.head < x.right ∧ 1 < x.tail := by
  have h1 := (hr.young h).2
  have h2 := sz_pos hr.okO (hr.old_of_young h)
  have h3 := sz_pos hr.okY h
  rw [tail_wrapped h]
  unfold Qu.right
  omega
theorem Rep.tail_le (hr : x.Rep arr) : x.tail ≤ x.right := by
  by_cases h : x.young = []
  · rw [tail_plain h]; exact Nat.le_refl _
  · have := hr.tail_young h; omega
theorem Rep.head_tail (hr : x.Rep arr) (h : x.young = []) (h' : x.old ≠ []) : x.head < x.tail := by
  rw [tail_plain h]
  have := sz_pos hr.okO h'
  unfold Qu.right; omega

theorem grow_none (hr : x.Rep arr) (h : x.right = 1) (need : Nat) (arr' : List UInt8) (hl : arr'.length = x.newCap need) :
    (x.grow need).Rep arr' ∧ (x.grow need).tail = x.tail ∧ (x.grow need).head = x.head ∧ (x.grow need).right = x.right ∧ (x.grow need).count = x.count ∧ (x.grow need).full = false := by
  have ho : x.old = [] := by
    by_cases ho : x.old = []
    · exact ho
    · have := (hr.right_le ho).2; omega
  obtain ⟨h1, h2⟩ := hr.none ho
  have e : x.grow need = ⟨x.newCap need, x.max, 1, [], []⟩ := by
    unfold grow gap
    rw [if_pos h2, if_pos h2, h1, h2, ho]; rfl
  rw [e]
  refine ⟨⟨hl, by simp, by simp, Nat.le_refl _, fun _ => ⟨rfl, rfl⟩, fun h => absurd rfl h, fun h => absurd rfl h⟩, ?_, h1.symm, ?_, ?_, rfl⟩
  · rw [tail_plain h2, h]; rfl
  · rw [h]; rfl
  · unfold count; rw [ho, h2]

theorem lies_kept {i : Nat} {l more : List UInt8} (hh : Lies arr i l) (hi : i + l.length ≤ x.right) : Lies (arr.take x.right ++ more) i l :=
  (hh.take hi).append

theorem grow_plain (hr : x.Rep arr) (h : x.young = []) (ho : x.old ≠ []) (need : Nat) (hc : x.right ≤ x.newCap need) :
    (x.grow need).Rep (arr.take x.right ++ zeros (x.newCap need - x.right)) ∧ (x.grow need).tail = x.tail ∧ (x.grow need).head = x.head ∧ (x.grow need).right = x.right ∧ (x.grow need).count = x.count ∧ (x.grow need).full = false := by
  have e : x.grow need = ⟨x.newCap need, x.max, x.head, x.old, []⟩ := by
    unfold grow gap
    rw [if_pos h, if_pos h, h]; rfl
  have h1 := hr.right_le ho
  rw [e]
  refine ⟨⟨?_, hr.okO, by simp, hr.head, fun e => absurd e ho, fun _ => ?_, fun h => absurd rfl h⟩, by rw [tail_plain h, tail_plain rfl]; rfl, rfl, rfl, by simp [count, h], full_plain rfl⟩
  · rw [List.length_append, List.length_take, hr.len, zeros_length]
    show min x.right x.cap + (x.newCap need - x.right) = x.newCap need
    omega
  · refine lies_kept (hr.old ho) ?_
    rw [cat_length hr.okO]; exact Nat.le_refl _

theorem join3 {arr : List UInt8} {a b c : List Blk} (hb : ∀ x ∈ b, x.ok) (ha : ∀ x ∈ a, x.ok) (h1 : Lies arr 1 (cat a)) (h2 : Lies arr (1 + sz a) (cat b)) (h3 : Lies arr (1 + sz a + sz b) (cat c)) : Lies arr 1 (cat (a ++ b ++ c)) := by
  rw [cat_append, cat_append]
  refine (h1.join ?_).join ?_
  · rw [cat_length ha]; exact h2
  · rw [List.length_append, cat_length ha, cat_length hb, ← Nat.add_assoc]; exact h3

theorem grow_tight (hr : x.Rep arr) (h : x.young ≠ []) (ht : x.tail = x.head) (need : Nat) (hc : x.right ≤ x.newCap need) :
    (x.grow need).Rep (arr.take x.right ++ zeros (x.newCap need - x.right)) ∧ (x.grow need).tail = x.right ∧ (x.grow need).head = 1 ∧ (x.grow need).right = x.right ∧ (x.grow need).count = x.count ∧ (x.grow need).full = false := by
  have e : x.grow need = ⟨x.newCap need, x.max, 1, x.young ++ x.old, []⟩ := by
    unfold grow gap
    rw [if_neg h, if_neg h, if_pos ht]; simp
  have ho := hr.old_of_young h
  have h1 := hr.right_le ho
  rw [tail_wrapped h] at ht
  have hrt : 1 + sz (x.young ++ x.old) = x.right := by rw [sz_append]; unfold Qu.right; omega
  have hy := hr.young h
  rw [e]
  refine ⟨⟨?_, ?_, by simp, Nat.le_refl _, fun e => ?_, fun _ => ?_, fun h => absurd rfl h⟩, by rw [tail_plain rfl]; exact hrt, rfl, hrt, by simp [count, Nat.add_comm], full_plain rfl⟩
  · rw [List.length_append, List.length_take, hr.len, zeros_length]
    show min x.right x.cap + (x.newCap need - x.right) = x.newCap need
    omega
  · intro b hb
    rcases List.mem_append.1 hb with hb | hb
    · exact hr.okY b hb
    · exact hr.okO b hb
  · exact absurd (List.append_eq_nil_iff.1 e).1 h
  · have h2 : Lies (arr.take x.right ++ zeros (x.newCap need - x.right)) 1 (cat x.young) := lies_kept hy.1 (by rw [cat_length hr.okY, ← hrt, sz_append]; omega)
    have h3 : Lies (arr.take x.right ++ zeros (x.newCap need - x.right)) x.head (cat x.old) := lies_kept (hr.old ho) (by rw [cat_length hr.okO]; exact Nat.le_refl _)
    have := join3 (b := []) (by simp) hr.okY h2 (by simpa using Lies.nil (by have := h2.1; rwa [cat_length hr.okY] at this)) (by rw [sz_nil, Nat.add_zero, ht]; exact h3)
    simpa using this

theorem grow_gap (hr : x.Rep arr) (h : x.young ≠ []) (ht : x.tail ≠ x.head) (need : Nat) (hc : x.right ≤ x.newCap need) (hs : x.head < 4294967296) :
    (x.grow need).Rep (splice (arr.take x.right ++ zeros (x.newCap need - x.right)) x.tail (uv (x.head - x.tail) ++ (zeros (x.head - x.tail)).take (x.head - x.tail - uvl (x.head - x.tail)))) ∧
      (x.grow need).tail = x.right ∧ (x.grow need).head = 1 ∧ (x.grow need).right = x.right ∧ (x.grow need).count = x.count + 1 ∧ (x.grow need).full = false := by
  have e : x.grow need = ⟨x.newCap need, x.max, 1, x.young ++ [filler (x.head - x.tail)] ++ x.old, []⟩ := by
    unfold grow gap
    rw [if_neg h, if_neg h, if_neg ht]
  have ho := hr.old_of_young h
  have h1 := hr.right_le ho
  have hty := hr.tail_young h
  have hf : (filler (x.head - x.tail)).ok := filler_ok (by omega) (by omega)
  have hbytes : uv (x.head - x.tail) ++ (zeros (x.head - x.tail)).take (x.head - x.tail - uvl (x.head - x.tail)) = (filler (x.head - x.tail)).bytes := by
    unfold Blk.bytes filler zeros
    simp [List.take_replicate]
  have hfn : (filler (x.head - x.tail)).n = x.head - x.tail := rfl
  have hty2 := tail_wrapped h
  have hrt : 1 + sz (x.young ++ [filler (x.head - x.tail)] ++ x.old) = x.right := by simp only [sz_append, sz_cons, sz_nil, hfn]; unfold Qu.right; omega
  have hy := hr.young h
  have hlen : (arr.take x.right ++ zeros (x.newCap need - x.right)).length = x.newCap need := by
    rw [List.length_append, List.length_take, hr.len, zeros_length]; omega
  have hfit : x.tail + (filler (x.head - x.tail)).bytes.length ≤ (arr.take x.right ++ zeros (x.newCap need - x.right)).length := by
    rw [hf.len, hlen, hfn]; omega
  rw [hbytes, e]
  refine ⟨⟨?_, ?_, by simp, Nat.le_refl _, fun e => ?_, fun _ => ?_, fun h => absurd rfl h⟩, by rw [tail_plain rfl]; exact hrt, rfl, hrt, by simp [count]; omega, full_plain rfl⟩
  · rw [splice_length _ _ _ hfit, hlen]
  · intro b hb
    simp only [List.mem_append, List.mem_singleton] at hb
    rcases hb with (hb | rfl) | hb
    · exact hr.okY b hb
    · exact hf
    · exact hr.okO b hb
  · simp at e
  · have h2 : Lies (arr.take x.right ++ zeros (x.newCap need - x.right)) 1 (cat x.young) := lies_kept hy.1 (by rw [cat_length hr.okY]; omega)
    have h3 : Lies (arr.take x.right ++ zeros (x.newCap need - x.right)) x.head (cat x.old) := lies_kept (hr.old ho) (by rw [cat_length hr.okO]; exact Nat.le_refl _)
    have h4 := h2.splice (t := x.tail) hfit (.inl (by rw [cat_length hr.okY]; omega))
    have h5 := h3.splice (t := x.tail) hfit (.inr (by rw [hf.len, hfn]; omega))
    have h6 := Lies.spliced hfit
    refine join3 (by intro b hb; rw [List.mem_singleton.1 hb]; exact hf) hr.okY h4 ?_ ?_
    · rw [← hty2, cat_cons, cat_nil, List.append_nil]; exact h6
    · rw [sz_cons, sz_nil, hfn, ← hty2, show x.tail + (x.head - x.tail + 0) = x.head by omega]; exact h5

/-- A block behind all. -/
theorem put_rep (hr : x.Rep arr) {b : Blk} (hb : b.ok) (hfit : x.tail + b.n ≤ if x.young = [] then x.cap else x.head) : (x.put b).Rep (splice arr x.tail b.bytes) ∧ (x.put b).tail = x.tail + b.n ∧ (x.put b).head = x.head ∧ (x.put b).count = x.count + 1 ∧ (x.put b).cap = x.cap ∧
    (x.put b).right = (if x.head < x.tail + b.n then x.tail + b.n else x.right) ∧ (x.put b).full = (if x.tail + b.n = x.head then true else x.full) ∧ (x.put b).max = x.max := by
  have hbp := hb.pos
  have hbl := hb.len
  by_cases h : x.young = []
  · rw [if_pos h] at hfit
    have e : x.put b = { x with old := x.old ++ [b] } := by unfold put; rw [if_pos h]
    have hfit' : x.tail + b.bytes.length ≤ arr.length := by rw [hbl, hr.len]; exact hfit
    have ht := tail_plain h
    have hht : x.head ≤ x.tail := by rw [ht]; unfold Qu.right; omega
    have hrt : x.head + sz (x.old ++ [b]) = x.tail + b.n := by rw [ht]; unfold Qu.right; simp; omega
    rw [e]
    refine ⟨⟨by rw [splice_length _ _ _ hfit']; exact hr.len, ?_, hr.okY, hr.head, fun e => by simp at e, fun _ => ?_, fun h' => absurd h h'⟩, ?_, rfl, by simp [count]; omega, rfl, ?_, ?_, rfl⟩
    · intro c hc
      rcases List.mem_append.1 hc with hc | hc
      · exact hr.okO c hc
      · rw [List.mem_singleton.1 hc]; exact hb
    · show Lies _ x.head (cat (x.old ++ [b]))
      rw [cat_append, cat_cons, cat_nil, List.append_nil]
      have h3 : Lies (splice arr x.tail b.bytes) (x.head + (cat x.old).length) b.bytes := by
        rw [cat_length hr.okO]
        have : x.head + sz x.old = x.tail := by rw [ht]; rfl
        rw [this]; exact Lies.spliced hfit'
      by_cases ho : x.old = []
      · rw [ho] at h3 ⊢
        simpa using h3
      · exact ((hr.old ho).splice hfit' (.inl (by rw [cat_length hr.okO, ht]; exact Nat.le_refl _))).join h3
    · exact (tail_plain (q := { x with old := x.old ++ [b] }) h).trans hrt
    · rw [if_pos (by omega)]; exact hrt
    · rw [if_neg (by omega), full_plain h]; exact full_plain h
  · rw [if_neg h] at hfit
    have e : x.put b = { x with young := x.young ++ [b] } := by unfold put; rw [if_neg h]
    have ho := hr.old_of_young h
    have h1 := hr.right_le ho
    have hy := hr.young h
    have ht := tail_wrapped h
    have hty := hr.tail_young h
    have hfit' : x.tail + b.bytes.length ≤ arr.length := by rw [hbl, hr.len]; omega
    have hn : x.young ++ [b] ≠ [] := by simp
    have hst : 1 + sz (x.young ++ [b]) = x.tail + b.n := by rw [ht]; simp; omega
    rw [e]
    refine ⟨⟨by rw [splice_length _ _ _ hfit']; exact hr.len, hr.okO, ?_, hr.head, fun e => absurd e ho, fun _ => ?_, fun _ => ⟨?_, ?_⟩⟩, ?_, rfl, by simp [count]; omega, rfl, ?_, ?_, rfl⟩
    · intro c hc
      rcases List.mem_append.1 hc with hc | hc
      · exact hr.okY c hc
      · rw [List.mem_singleton.1 hc]; exact hb
    · exact (hr.old ho).splice hfit' (.inr (by rw [hbl]; exact hfit))
    · show Lies _ 1 (cat (x.young ++ [b]))
      rw [cat_append, cat_cons, cat_nil, List.append_nil]
      refine (hy.1.splice hfit' (.inl (by rw [cat_length hr.okY, ht]; exact Nat.le_refl _))).join ?_
      rw [cat_length hr.okY, ← ht]; exact Lies.spliced hfit'
    · show 1 + sz (x.young ++ [b]) ≤ x.head
      rw [hst]; exact hfit
    · exact (tail_wrapped (q := { x with young := x.young ++ [b] }) hn).trans hst
    · rw [if_neg (by omega)]; rfl
    · rw [full_wrapped (q := { x with young := x.young ++ [b] }) hn, tail_wrapped (q := { x with young := x.young ++ [b] }) hn]
      show decide (1 + sz (x.young ++ [b]) = x.head) = _
      rw [hst]
      split
      · rename_i h9; simp [h9]
      · rename_i h9
        rw [full_wrapped h]; simp; omega

theorem wrap_rep (hr : x.Rep arr) {b : Blk} (hb : b.ok) (h : x.young = []) (hfit : 1 + b.n ≤ x.head) : (x.wrap b).Rep (splice arr 1 b.bytes) ∧ (x.wrap b).tail = 1 + b.n ∧ (x.wrap b).head = x.head ∧ (x.wrap b).count = x.count + 1 ∧ (x.wrap b).cap = x.cap ∧
    (x.wrap b).right = x.right ∧ (x.wrap b).full = (if 1 + b.n = x.head then true else false) ∧ (x.wrap b).max = x.max := by
  have hbp := hb.pos
  have hbl := hb.len
  have e : x.wrap b = { x with young := [b] } := by unfold wrap; rw [h]; rfl
  have ho : x.old ≠ [] := fun ho => by have := (hr.none ho).1; omega
  have h1 := hr.right_le ho
  have hox := sz_pos hr.okO ho
  have hfit' : 1 + b.bytes.length ≤ arr.length := by
    rw [hbl, hr.len]; unfold Qu.right at h1; omega
  rw [e]
  refine ⟨⟨by rw [splice_length _ _ _ hfit']; exact hr.len, hr.okO, by intro c hc; rw [List.mem_singleton.1 hc]; exact hb, hr.head, fun e => absurd e ho, fun _ => ?_, fun _ => ⟨?_, ?_⟩⟩, ?_, rfl, by simp [count, h], rfl, rfl, ?_, rfl⟩
  · exact (hr.old ho).splice hfit' (.inr (by rw [hbl]; exact hfit))
  · show Lies _ 1 (cat [b])
    rw [cat_cons, cat_nil, List.append_nil]
    exact Lies.spliced hfit'
  · simpa using hfit
  · rw [tail_wrapped (by simp)]; simp
  · rw [full_wrapped (by simp), tail_wrapped (by simp)]
    simp only [sz_cons, sz_nil, Nat.add_zero]
    split <;> simp_all

theorem pop_rep (hr : x.Rep arr) {b : Blk} {l : List Blk} (h : x.old = b :: l) : x.pop.Rep arr ∧ x.pop.cap = x.cap ∧ x.pop.max = x.max ∧ x.pop.count + 1 = x.count ∧ x.pop.full = false ∧
    (l = [] → x.head + b.n = x.right ∧ x.pop.head = 1 ∧ x.pop.tail = (if x.tail = x.right then 1 else x.tail) ∧ x.pop.right = x.pop.tail) ∧
    (l ≠ [] → x.head + b.n ≠ x.right ∧ x.pop.head = x.head + b.n ∧ x.pop.tail = x.tail ∧ x.pop.right = x.right) := by
  have hb := hr.okO b (by rw [h]; exact List.mem_cons_self)
  have hbp := hb.pos
  have ho : x.old ≠ [] := by rw [h]; simp
  have hl : ∀ c ∈ l, c.ok := fun c hc => hr.okO c (by rw [h]; exact List.mem_cons_of_mem _ hc)
  have hrt : x.right = x.head + (b.n + sz l) := by unfold Qu.right; rw [h, sz_cons]
  by_cases hln : l = []
  · have e : x.pop = { x with head := 1, old := x.young, young := [] } := by unfold pop; rw [h]; simp [hln]
    subst hln
    rw [e]
    refine ⟨⟨hr.len, hr.okY, by simp, Nat.le_refl _, fun h => ⟨rfl, rfl⟩, fun h => (hr.young h).1, fun h => absurd rfl h⟩, rfl, rfl, by simp [count, h]; omega, full_plain rfl, fun _ => ⟨by rw [hrt]; simp, rfl, ?_, by rw [tail_plain rfl]⟩, fun h => absurd rfl h⟩
    rw [tail_plain rfl]
    show 1 + sz x.young = _
    by_cases hy : x.young = []
    · rw [if_pos (by rw [tail_plain hy]), hy]; rfl
    · have := hr.tail_young hy
      rw [if_neg (by omega), tail_wrapped hy]
  · have e : x.pop = { x with head := x.head + b.n, old := l } := by unfold pop; rw [h]; simp [hln]
    have hlp := sz_pos hl hln
    have hold := hr.old ho
    rw [h, cat_cons] at hold
    have h2 := hold.split.2
    rw [hb.len] at h2
    have htt : x.pop.tail = x.tail := by
      rw [e]
      by_cases hy : x.young = []
      · rw [tail_plain hy, tail_plain (q := { x with head := x.head + b.n, old := l }) hy, hrt]
        show x.head + b.n + sz l = _
        omega
      · rw [tail_wrapped hy, tail_wrapped (q := { x with head := x.head + b.n, old := l }) hy]
    rw [e] at htt ⊢
    refine ⟨⟨hr.len, hl, hr.okY, by have := hr.head; show 1 ≤ x.head + b.n; omega, fun h => absurd h hln, fun _ => h2, fun hy => ⟨(hr.young hy).1, by have := (hr.young hy).2; show 1 + sz x.young ≤ x.head + b.n; omega⟩⟩, rfl, rfl, by simp [count, h]; omega, ?_, fun h => absurd h hln, fun _ => ⟨by omega, rfl, htt, ?_⟩⟩
    · by_cases hy : x.young = []
      · exact full_plain hy
      · rw [full_wrapped (q := { x with head := x.head + b.n, old := l }) hy, htt]
        have := hr.tail_young hy
        simp; omega
    · show x.head + b.n + sz l = _
      omega

theorem after_fit (hr : x.Rep arr) {need : Nat} (hn : 1 ≤ need) (h : x.after need = true) : x.tail + need ≤ if x.young = [] then x.cap else x.head := by
  unfold after at h
  by_cases hy : x.young = []
  · rw [if_pos hy]
    have h1 : x.head ≤ x.tail := by rw [tail_plain hy]; unfold Qu.right; omega
    rw [full_plain hy, if_pos h1] at h
    simpa using h
  · rw [if_neg hy]
    have h1 := hr.tail_young hy
    by_cases h2 : x.head ≤ x.tail
    · rw [full_wrapped hy] at h
      simp at h
      omega
    · rw [if_neg h2] at h
      simp at h
      omega
theorem before_fit (hr : x.Rep arr) {need : Nat} (hn : 1 ≤ need) (h : x.after need = false) (h' : x.before need = true) : x.young = [] ∧ 1 + need ≤ x.head := by
  by_cases hy : x.young = []
  · refine ⟨hy, ?_⟩
    unfold before at h'
    have h1 : x.head ≤ x.tail := by rw [tail_plain hy]; unfold Qu.right; omega
    rw [full_plain hy, if_pos h1] at h'
    simp at h'; omega
  · exfalso
    have h1 := hr.tail_young hy
    unfold before at h'
    unfold after at h
    by_cases h2 : x.head ≤ x.tail
    · rw [full_wrapped hy] at h'
      simp at h'; omega
    · rw [if_neg h2] at h h'
      rw [h] at h'; cases h'
theorem newCap_room {need : Nat} (hn : 1 ≤ need) (hno : ¬ (x.cap + need ≥ x.max ∧ x.max > 0)) : x.cap ≤ x.newCap need ∧ x.cap + need ≤ x.newCap need ∧ (x.cap = 0 → 1 + need ≤ x.newCap need) := by
  unfold newCap
  simp only
  split <;> (split <;> omega)
theorem grow_room (hr : x.Rep arr) {need : Nat} (hn : 1 ≤ need) (hno : ¬ (x.cap + need ≥ x.max ∧ x.max > 0)) : x.right + need ≤ x.newCap need := by
  have h := newCap_room (x := x) hn hno
  by_cases ho : x.old = []
  · have h1 := (hr.none ho).1
    have : x.right = 1 := by unfold Qu.right; rw [h1, ho]; rfl
    omega
  · have := (hr.right_le ho).1; omega
theorem grow_young (need : Nat) : (x.grow need).young = [] := rfl
theorem grow_tail (hr : x.Rep arr) {need : Nat} (hc : x.cap ≤ x.newCap need) : (x.grow need).tail = x.right := by
  by_cases h1 : x.right = 1
  · obtain ⟨_, g2, _, g4, _⟩ := grow_none hr h1 need (zeros _) (zeros_length _)
    rw [g2, h1]
    have ho : x.old = [] := by
      by_cases ho : x.old = []
      · exact ho
      · have := (hr.right_le ho).2; omega
    rw [tail_plain (hr.none ho).2, h1]
  · have ho := hr.old_of_right h1
    have hrr := (hr.right_le ho).1
    by_cases hy : x.young = []
    · rw [(grow_plain hr hy ho need (by omega)).2.1, tail_plain hy]
    · rw [tail_plain (grow_young need)]
      show (if x.young = [] then x.head else 1) + sz (x.young ++ x.gap ++ x.old) = _
      rw [if_neg hy]
      have h2 := hr.tail_young hy
      have h3 := tail_wrapped hy
      simp only [sz_append]
      unfold gap
      rw [if_neg hy]
      split
      · unfold Qu.right; simp; omega
      · unfold Qu.right; simp [filler]; omega
end Qu
end Go.Vil
