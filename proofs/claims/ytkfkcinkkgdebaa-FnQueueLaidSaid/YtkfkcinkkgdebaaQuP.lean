/- A queue of bytes in plain Lean: its blocks, how they lie in its array, what its operations do. -/
import Derived.Test.YtkfkcinkkgdebaaPlain
namespace Go.Vil

/-- A number in groups of 7 bits, the lowest one first. -/
def uv (n : Nat) : List UInt8 := if n < 128 then [UInt8.ofNat n] else UInt8.ofNat (n % 128 + 128) :: uv (n / 128)
termination_by n
theorem uv_small {n : Nat} (h : n < 128) : uv n = [UInt8.ofNat n] := by rw [uv, if_pos h]
theorem uv_great {n : Nat} (h : ¬ n < 128) : uv n = UInt8.ofNat (n % 128 + 128) :: uv (n / 128) := by rw [uv, if_neg h]
def uvl (n : Nat) : Nat := (uv n).length
theorem uvl_small {n : Nat} (h : n < 128) : uvl n = 1 := by rw [uvl, uv_small h]; rfl
theorem uvl_great {n : Nat} (h : ¬ n < 128) : uvl n = uvl (n / 128) + 1 := by rw [uvl, uv_great h]; rfl
theorem uvl_pos (n : Nat) : 1 ≤ uvl n := by
  by_cases h : n < 128
  · rw [uvl_small h]; exact Nat.le_refl _
  · rw [uvl_great h]; omega
theorem uvl_2 {n : Nat} (h : 128 ≤ n) (h' : n < 16384) : uvl n = 2 := by
  rw [uvl_great (by omega), uvl_small (by omega)]
theorem uvl_3 {n : Nat} (h : 16384 ≤ n) (h' : n < 2097152) : uvl n = 3 := by
  rw [uvl_great (by omega), uvl_2 (by omega) (by omega)]
theorem uvl_4 {n : Nat} (h : 2097152 ≤ n) (h' : n < 268435456) : uvl n = 4 := by
  rw [uvl_great (by omega), uvl_3 (by omega) (by omega)]
theorem uvl_5 {n : Nat} (h : 268435456 ≤ n) (h' : n < 34359738368) : uvl n = 5 := by
  rw [uvl_great (by omega), uvl_4 (by omega) (by omega)]
theorem uvl_le5 {n : Nat} (h : n < 34359738368) : uvl n ≤ 5 := by
  by_cases h1 : n < 128
  · rw [uvl_small h1]; omega
  by_cases h2 : n < 16384
  · rw [uvl_2 (by omega) h2]; omega
  by_cases h3 : n < 2097152
  · rw [uvl_3 (by omega) h3]; omega
  by_cases h4 : n < 268435456
  · rw [uvl_4 (by omega) h4]; omega
  · rw [uvl_5 (by omega) h]; exact Nat.le_refl _
theorem uvl_le (n : Nat) : n ≠ 0 → uvl n ≤ n := by
  induction n using Nat.strongRecOn with
  | _ n ih =>
    intro h0
    by_cases h : n < 128
    · rw [uvl_small h]; omega
    · rw [uvl_great h]
      have := ih (n / 128) (by omega) (by omega)
      omega

/-- How many bytes the number takes that tells how many bytes an entry takes. -/
def hsz (l : Nat) : Nat := if l < 127 then 1 else if l < 16382 then 2 else if l < 2097149 then 3 else if l < 268435452 then 4 else 5
def needs (l : Nat) : Nat := l + hsz l
theorem hsz_le (l : Nat) : 1 ≤ hsz l ∧ hsz l ≤ 5 := by
  unfold hsz; split <;> (try split) <;> (try split) <;> (try split) <;> omega
theorem uvl_needs {l : Nat} (h : l < 34359738300) : uvl (needs l) = hsz l := by
  unfold needs hsz
  split
  · exact uvl_small (by omega)
  split
  · exact uvl_2 (by omega) (by omega)
  split
  · exact uvl_3 (by omega) (by omega)
  split
  · exact uvl_4 (by omega) (by omega)
  · exact uvl_5 (by omega) (by omega)

/-- A block of a queue: how many bytes it takes, and the bytes in it. -/
structure Blk where
  n : Nat
  p : List UInt8
def Blk.ok (b : Blk) : Prop := b.n = uvl b.n + b.p.length ∧ b.n < 4294967296
def Blk.bytes (b : Blk) : List UInt8 := uv b.n ++ b.p
theorem Blk.ok.len {b : Blk} (h : b.ok) : b.bytes.length = b.n := by
  unfold Blk.bytes; rw [List.length_append]; exact h.1.symm
theorem Blk.ok.pos {b : Blk} (h : b.ok) : 1 ≤ b.n := by have := h.1; have := uvl_pos b.n; omega
/-- The block of an entry. -/
def entry (d : List UInt8) : Blk := ⟨needs d.length, d⟩
theorem entry_ok {d : List UInt8} (h : d.length < 4294967000) : (entry d).ok := by
  refine ⟨?_, ?_⟩
  · show needs d.length = uvl (needs d.length) + d.length
    rw [uvl_needs (by omega)]; unfold needs; omega
  · show needs d.length < _
    have := hsz_le d.length
    unfold needs; omega
/-- A block without an entry, of so many bytes. -/
def filler (k : Nat) : Blk := ⟨k, List.replicate (k - uvl k) 0⟩
theorem filler_ok {k : Nat} (h0 : k ≠ 0) (h : k < 4294967296) : (filler k).ok := by
  refine ⟨?_, h⟩
  show k = uvl k + (List.replicate (k - uvl k) (0 : UInt8)).length
  have := uvl_le k h0
  simp; omega

def sz (l : List Blk) : Nat := (l.map Blk.n).sum
@[simp] theorem sz_nil : sz [] = 0 := rfl
@[simp] theorem sz_cons (b : Blk) (l : List Blk) : sz (b :: l) = b.n + sz l := by simp [sz]
@[simp] theorem sz_append (a b : List Blk) : sz (a ++ b) = sz a + sz b := by simp [sz]
theorem sz_pos {l : List Blk} (h : ∀ b ∈ l, b.ok) (hn : l ≠ []) : 1 ≤ sz l := by
  cases l with
  | nil => exact absurd rfl hn
  | cons b l => have := (h b List.mem_cons_self).pos; simp; omega
theorem length_le_sz {l : List Blk} (h : ∀ b ∈ l, b.ok) : l.length ≤ sz l := by
  induction l with
  | nil => simp
  | cons b l ih =>
    have h1 := (h b List.mem_cons_self).pos
    have h2 := ih fun x hx => h x (List.mem_cons_of_mem _ hx)
    simp only [List.length_cons, sz_cons]; omega
/-- All bytes of blocks, one behind the other. -/
def cat (l : List Blk) : List UInt8 := l.flatMap Blk.bytes
@[simp] theorem cat_nil : cat [] = [] := rfl
@[simp] theorem cat_cons (b : Blk) (l : List Blk) : cat (b :: l) = b.bytes ++ cat l := by simp [cat]
@[simp] theorem cat_append (a b : List Blk) : cat (a ++ b) = cat a ++ cat b := by simp [cat]
theorem cat_length {l : List Blk} (h : ∀ b ∈ l, b.ok) : (cat l).length = sz l := by
  induction l with
  | nil => rfl
  | cons b l ih =>
    rw [cat_cons, List.length_append, (h b List.mem_cons_self).len, ih fun x hx => h x (List.mem_cons_of_mem _ hx), sz_cons]
/-- These bytes lie from a place on. -/
def Lies (arr : List UInt8) (i : Nat) (l : List UInt8) : Prop := i + l.length ≤ arr.length ∧ (arr.drop i).take l.length = l
theorem Lies.nil {arr : List UInt8} {i : Nat} (h : i ≤ arr.length) : Lies arr i [] := ⟨by simpa using h, by simp⟩
theorem Lies.get? {arr l : List UInt8} {i : Nat} (h : Lies arr i l) (j : Nat) (hj : j < l.length) : arr[i + j]? = l[j]? := by
  have := congrArg (·[j]?) h.2
  simp only [List.getElem?_take, if_pos hj, List.getElem?_drop] at this
  exact this
theorem Lies.of_get? {arr l : List UInt8} {i : Nat} (hl : i + l.length ≤ arr.length) (h : ∀ j, j < l.length → arr[i + j]? = l[j]?) : Lies arr i l := by
  refine ⟨hl, List.ext_getElem? fun j => ?_⟩
  by_cases hj : j < l.length
  · rw [List.getElem?_take, if_pos hj, List.getElem?_drop]; exact h j hj
  · rw [List.getElem?_take, if_neg hj, List.getElem?_eq_none (by omega)]
theorem Lies.split {arr a b : List UInt8} {i : Nat} (h : Lies arr i (a ++ b)) : Lies arr i a ∧ Lies arr (i + a.length) b := by
  have h1 := h.1
  rw [List.length_append] at h1
  refine ⟨.of_get? (by omega) fun j hj => ?_, .of_get? (by omega) fun j hj => ?_⟩
  · rw [h.get? j (by simp; omega), List.getElem?_append_left hj]
  · rw [Nat.add_assoc, h.get? (a.length + j) (by simp; omega), List.getElem?_append_right (by omega)]
    congr 1; omega
theorem Lies.join {arr a b : List UInt8} {i : Nat} (h : Lies arr i a) (k : Lies arr (i + a.length) b) : Lies arr i (a ++ b) := by
  have h1 := h.1
  have h2 := k.1
  refine .of_get? (by simp; omega) fun j hj => ?_
  by_cases h3 : j < a.length
  · rw [h.get? j h3, List.getElem?_append_left h3]
  · rw [List.getElem?_append_right (by omega), ← k.get? (j - a.length) (by simp at hj; omega)]
    congr 1; omega
/-- What lies elsewhere stays. -/
theorem Lies.splice {arr l xs : List UInt8} {i t : Nat} (h : Lies arr i l) (ht : t + xs.length ≤ arr.length) (ha : i + l.length ≤ t ∨ t + xs.length ≤ i) : Lies (splice arr t xs) i l := by
  refine .of_get? (by rw [splice_length _ _ _ ht]; exact h.1) fun j hj => ?_
  rw [splice_get? _ _ _ ht]
  have := h.get? j hj
  split
  · exact this
  split
  · omega
  · exact this
theorem Lies.spliced {arr xs : List UInt8} {t : Nat} (ht : t + xs.length ≤ arr.length) : Lies (Vil.splice arr t xs) t xs :=
  ⟨by rw [splice_length _ _ _ ht]; exact ht, splice_at _ _ _ ht⟩
theorem Lies.append {arr l more : List UInt8} {i : Nat} (h : Lies arr i l) : Lies (arr ++ more) i l := by
  have := h.1
  refine .of_get? (by simp; omega) fun j hj => ?_
  rw [List.getElem?_append_left (by omega)]
  exact h.get? j hj
theorem Lies.take {arr l : List UInt8} {i r : Nat} (h : Lies arr i l) (hr : i + l.length ≤ r) : Lies (arr.take r) i l := by
  have := h.1
  refine .of_get? (by simp; omega) fun j hj => ?_
  rw [List.getElem?_take, if_pos (by omega)]
  exact h.get? j hj

/-- Where blocks lie from a place on: the place of each, and what is in it. -/
def places (i : Nat) : List Blk → List (Nat × List UInt8)
  | [] => []
  | b :: l => (i, b.p) :: places (i + b.n) l
theorem places_append (a b : List Blk) : ∀ i, places i (a ++ b) = places i a ++ places (i + sz a) b := by
  induction a with
  | nil => intro i; simp [places]
  | cons x a ih => intro i; simp [places, ih, Nat.add_assoc]
@[simp] theorem places_length (l : List Blk) : ∀ i, (places i l).length = l.length := by
  induction l with
  | nil => intro i; rfl
  | cons x l ih => intro i; simp [places, ih]
/-- The block at one of the places. -/
theorem Lies.block {arr : List UInt8} : ∀ {l : List Blk} {i k : Nat} {p : List UInt8}, (∀ b ∈ l, b.ok) → Lies arr i (cat l) → (k, p) ∈ places i l → ∃ b : Blk, b.ok ∧ b.p = p ∧ Lies arr k b.bytes ∧ i ≤ k ∧ k + b.n ≤ i + sz l
  | [], i, k, p, _, _, h => by cases h
  | b :: l, i, k, p, hok, hl, h => by
    have hb := hok b List.mem_cons_self
    rw [cat_cons] at hl
    obtain ⟨h1, h2⟩ := hl.split
    rw [hb.len] at h2
    simp only [places, List.mem_cons, Prod.mk.injEq] at h
    rcases h with ⟨rfl, rfl⟩ | h
    · exact ⟨b, hb, rfl, h1, Nat.le_refl _, by simp⟩
    · obtain ⟨b', h3, h4, h5, h6, h7⟩ := Lies.block (fun x hx => hok x (List.mem_cons_of_mem _ hx)) h2 h
      exact ⟨b', h3, h4, h5, by omega, by rw [sz_cons]; omega⟩

/-- A queue: its capacity, its limit, where the oldest entry lies, the blocks from there on, and those at the beginning. -/
structure Qu where
  cap : Nat
  max : Nat
  head : Nat
  old : List Blk
  young : List Blk
namespace Qu
def right (q : Qu) : Nat := q.head + sz q.old
def tail (q : Qu) : Nat := if q.young = [] then q.right else 1 + sz q.young
def count (q : Qu) : Nat := q.old.length + q.young.length
def full (q : Qu) : Bool := !q.young.isEmpty && decide (q.tail = q.head)
/-- The bytes in the array. -/
structure Rep (q : Qu) (arr : List UInt8) : Prop where
  len : arr.length = q.cap
  okO : ∀ b ∈ q.old, b.ok
  okY : ∀ b ∈ q.young, b.ok
  head : 1 ≤ q.head
  none : q.old = [] → q.head = 1 ∧ q.young = []
  old : q.old ≠ [] → Lies arr q.head (cat q.old)
  young : q.young ≠ [] → Lies arr 1 (cat q.young) ∧ 1 + sz q.young ≤ q.head
theorem tail_wrapped {q : Qu} (h : q.young ≠ []) : q.tail = 1 + sz q.young := if_neg h
theorem tail_plain {q : Qu} (h : q.young = []) : q.tail = q.right := if_pos h
theorem full_plain {q : Qu} (h : q.young = []) : q.full = false := by simp [full, h]
theorem full_wrapped {q : Qu} (h : q.young ≠ []) : q.full = decide (q.tail = q.head) := by
  unfold full; cases hy : q.young with
  | nil => exact absurd hy h
  | cons => simp
def after (q : Qu) (need : Nat) : Bool := !q.full && if q.head ≤ q.tail then decide (q.tail + need ≤ q.cap) else decide (q.head = q.tail + need ∨ q.tail + need + 17 ≤ q.head)
def before (q : Qu) (need : Nat) : Bool := !q.full && if q.head ≤ q.tail then decide (q.head = 1 + need ∨ 1 + need + 17 ≤ q.head) else decide (q.head = q.tail + need ∨ q.tail + need + 17 ≤ q.head)
/-- Behind all: the block in its place. -/
def put (q : Qu) (b : Blk) : Qu := if q.young = [] then { q with old := q.old ++ [b] } else { q with young := q.young ++ [b] }
def wrap (q : Qu) (b : Blk) : Qu := { q with young := q.young ++ [b] }
def newCap (q : Qu) (need : Nat) : Nat :=
  let c := (if q.cap < need then q.cap + need else q.cap) * 2
  if c > q.max ∧ q.max > 0 then q.max else c
def gap (q : Qu) : List Blk := if q.young = [] then [] else if q.tail = q.head then [] else [filler (q.head - q.tail)]
def grow (q : Qu) (need : Nat) : Qu :=
  { cap := q.newCap need, max := q.max, head := if q.young = [] then q.head else 1, old := q.young ++ q.gap ++ q.old, young := [] }
/-- What a push does, and where the entry lies. -/
def push (q : Qu) (d : List UInt8) : Qu × Option Nat :=
  if q.after (needs d.length) then (q.put (entry d), some q.tail)
  else if q.before (needs d.length) then (q.wrap (entry d), some 1)
  else if q.cap + needs d.length ≥ q.max ∧ q.max > 0 then (q, none)
  else ((q.grow (needs d.length)).put (entry d), some (q.grow (needs d.length)).tail)
def pop (q : Qu) : Qu :=
  match q.old with
  | [] => q
  | b :: l => if l = [] then { q with head := 1, old := q.young, young := [] } else { q with head := q.head + b.n, old := l }
def reset (q : Qu) : Qu := { q with head := 1, old := [], young := [] }
def fresh (cap max : Nat) : Qu := ⟨cap, max, 1, [], []⟩
/-- The entries, the oldest one first: where each lies, and its bytes. -/
def items (q : Qu) : List (Nat × List UInt8) := places q.head q.old ++ places 1 q.young
end Qu
end Go.Vil
