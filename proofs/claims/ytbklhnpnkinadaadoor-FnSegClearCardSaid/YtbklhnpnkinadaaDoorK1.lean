/- Plain facts on lists of bytes: written over, numbers as bytes. · A segment of a cache in plain Lean: a list of entries, the oldest first; operations, scripts, and what they answer. · A small calculus of memory, over any program: which blocks there are, and what an operation does to them. · Laws of single operations over the calculus of memory, over any program. · Regions that draw their order: the head only reads, whatever the order, in every world of a class; the tail has one order. · Laws of slices: literals, append, copy, conversions, over any program. · Regions that draw their order, some of whose operations make memory: what only reads comes first, whatever the order; each operation that makes memory comes up alone. · Printed by gen_ty.py: what the laws of the calculus of memory ask of the types of this program. · Regions that draw their order, some of whose operations turn what is there: what only reads does so in what stays. -/
import Derived.RowKit
import Derived.WalkKit
import Derived.ProofKit
import Derived.BigQuiet
import Derived.Laws.AppendOwn
import Derived.Laws.OwnMore
import Derived.StillTail
import Derived.Deep.Quiet
import Derived.Test.YtbklhnpnkinadaaDoorRows
section
namespace Go.Vil

/-- A list with some of its elements written over from a place on. -/
def splice {α : Type} (l : List α) (i : Nat) (xs : List α) : List α := l.take i ++ xs ++ l.drop (i + xs.length)

theorem splice_length {α : Type} (l : List α) (i : Nat) (xs : List α) (h : i + xs.length ≤ l.length) : (splice l i xs).length = l.length := by
  simp [splice]; omega
theorem splice_nil {α : Type} (l : List α) (i : Nat) : splice l i [] = l := by simp [splice]
theorem splice_get? {α : Type} (l : List α) (i : Nat) (xs : List α) (h : i + xs.length ≤ l.length) (k : Nat) :
    (splice l i xs)[k]? = if k < i then l[k]? else if k < i + xs.length then xs[k - i]? else l[k]? := by
  unfold splice
  have hi : min i l.length = i := by omega
  by_cases h1 : k < i
  · rw [if_pos h1, List.append_assoc, List.getElem?_append_left (by simp; omega), List.getElem?_take, if_pos h1]
  · rw [if_neg h1, List.append_assoc, List.getElem?_append_right (by simp; omega)]
    simp only [List.length_take, hi]
    by_cases h2 : k < i + xs.length
    · rw [if_pos h2, List.getElem?_append_left (by omega)]
    · rw [if_neg h2, List.getElem?_append_right (by omega), List.getElem?_drop]
      congr 1; omega
theorem set_splice {α : Type} (l : List α) (i : Nat) (xs : List α) (x : α) (h : i + xs.length < l.length) : (splice l i xs).set (i + xs.length) x = splice l i (xs ++ [x]) := by
  apply List.ext_getElem?
  intro k
  rw [List.getElem?_set, splice_length _ _ _ (by omega), splice_get? _ _ _ (by omega), splice_get? _ _ _ (by simp; omega)]
  simp only [List.length_append, List.length_singleton]
  by_cases h1 : i + xs.length = k
  · subst h1
    rw [if_pos rfl, if_pos h, if_neg (by omega), if_pos (by omega), show i + xs.length - i = xs.length by omega]
    simp
  · rw [if_neg h1]
    by_cases h2 : k < i
    · simp [h2]
    · by_cases h3 : k < i + xs.length
      · rw [if_neg h2, if_neg h2, if_pos h3, if_pos (by omega), List.getElem?_append_left (by omega)]
      · rw [if_neg h2, if_neg h2, if_neg h3, if_neg (by omega)]
theorem set_one {α : Type} (l : List α) (i : Nat) (x : α) (h : i < l.length) : l.set i x = splice l i [x] := by
  have := set_splice l i [] x (by simpa using h)
  simpa [splice_nil] using this

theorem set_two {α : Type} (l : List α) (i : Nat) (a b : α) (h : i + 2 ≤ l.length) : (l.set i a).set (i + 1) b = splice l i [a, b] := by
  rw [set_one l i a (by omega)]
  exact set_splice l i [a] b (by simp; omega)
theorem set_four {α : Type} (l : List α) (i : Nat) (a b c d : α) (h : i + 4 ≤ l.length) : (((l.set i a).set (i + 1) b).set (i + 2) c).set (i + 3) d = splice l i [a, b, c, d] := by
  rw [set_two l i a b (by omega), show i + 2 = i + [a, b].length from rfl, set_splice l i [a, b] c (by simp; omega)]
  exact set_splice l i [a, b, c] d (by simp; omega)
theorem set_eight {α : Type} (l : List α) (i : Nat) (a b c d e f g h : α) (hl : i + 8 ≤ l.length) :
    (((((((l.set i a).set (i + 1) b).set (i + 2) c).set (i + 3) d).set (i + 4) e).set (i + 5) f).set (i + 6) g).set (i + 7) h = splice l i [a, b, c, d, e, f, g, h] := by
  rw [set_four l i a b c d (by omega), show i + 4 = i + [a, b, c, d].length from rfl, set_splice l i [a, b, c, d] e (by simp; omega),
    show i + 5 = i + [a, b, c, d, e].length from rfl, show [a, b, c, d] ++ [e] = [a, b, c, d, e] from rfl, set_splice l i [a, b, c, d, e] f (by simp; omega),
    show i + 6 = i + [a, b, c, d, e, f].length from rfl, show [a, b, c, d, e] ++ [f] = [a, b, c, d, e, f] from rfl, set_splice l i [a, b, c, d, e, f] g (by simp; omega)]
  exact set_splice l i [a, b, c, d, e, f, g] h (by simp; omega)

theorem splice_at {α : Type} (l : List α) (i : Nat) (xs : List α) (h : i + xs.length ≤ l.length) : ((splice l i xs).drop i).take xs.length = xs := by
  unfold splice
  have hi : (l.take i).length = i := by simp; omega
  rw [List.append_assoc, List.drop_append, hi, Nat.sub_self, List.drop_zero, List.drop_eq_nil_of_le (by omega), List.nil_append, List.take_left]

/-- Writing over what was just written, behind it: both together. -/
theorem splice_splice {α : Type} (l : List α) (i : Nat) (xs ys : List α) (h : i + xs.length + ys.length ≤ l.length) : splice (splice l i xs) (i + xs.length) ys = splice l i (xs ++ ys) := by
  apply List.ext_getElem?
  intro k
  rw [splice_get? _ _ _ (by rw [splice_length _ _ _ (by omega)]; omega), splice_get? _ _ _ (by omega), splice_get? _ _ _ (by simp; omega)]
  simp only [List.length_append]
  by_cases h1 : k < i
  · rw [if_pos (by omega), if_pos h1, if_pos h1]
  · by_cases h2 : k < i + xs.length
    · rw [if_pos h2, if_neg h1, if_pos h2, if_neg h1, if_pos (by omega), List.getElem?_append_left (by omega)]
    · rw [if_neg h2]
      by_cases h3 : k < i + xs.length + ys.length
      · rw [if_pos h3, if_neg h1, if_pos (by omega), List.getElem?_append_right (by omega)]
        congr 1; omega
      · rw [if_neg h3, if_neg h1, if_neg h2, if_neg h1, if_neg (by omega)]

/-- The lowest bytes of a number, the lowest one first. -/
def le : Nat → Nat → List UInt8
  | 0, _ => []
  | k + 1, v => UInt8.ofNat v :: le k (v / 256)
@[simp] theorem le_length (k : Nat) : ∀ v, (le k v).length = k := by
  induction k with
  | zero => intro v; rfl
  | succ k ih => intro v; simp [le, ih]
/-- The number of bytes, the lowest one first. -/
def leVal : List UInt8 → Nat
  | [] => 0
  | c :: l => c.toNat + 256 * leVal l
theorem leVal_le (k : Nat) : ∀ v, leVal (le k v) = v % 256 ^ k := by
  induction k with
  | zero => intro v; simp [le, leVal, Nat.mod_one]
  | succ k ih =>
    intro v
    simp only [le, leVal, ih]
    have : (UInt8.ofNat v).toNat = v % 256 := UInt8.toNat_ofNat' ..
    rw [this, Nat.pow_succ, Nat.mul_comm (256 ^ k) 256, Nat.mod_mul]
theorem leVal_lt (l : List UInt8) : leVal l < 256 ^ l.length := by
  induction l with
  | nil => simp [leVal]
  | cons c l ih =>
    simp only [leVal, List.length_cons, Nat.pow_succ]
    have := c.toNat_lt
    omega
theorem le_leVal (l : List UInt8) : le l.length (leVal l) = l := by
  induction l with
  | nil => rfl
  | cons c l ih =>
    simp only [List.length_cons, le, leVal]
    have hc := c.toNat_lt
    have h1 : (c.toNat + 256 * leVal l) / 256 = leVal l := by omega
    rw [h1, ih]
    congr 1
    apply UInt8.toNat_inj.1
    rw [UInt8.toNat_ofNat']; omega
theorem ofNat_mod (v : Nat) : UInt8.ofNat (v % 256) = UInt8.ofNat v := by
  apply UInt8.toNat_inj.1
  rw [UInt8.toNat_ofNat', UInt8.toNat_ofNat']; omega
theorem ofNat_int (v : Int) (h : 0 ≤ v) : UInt8.ofNat (v % 256).toNat = UInt8.ofNat v.toNat := by
  rw [← ofNat_mod v.toNat]; congr 1; omega

end Go.Vil
end
section
set_option linter.unusedVariables false
set_option linter.unusedSimpArgs false
namespace Go.Vil

/-- An entry: its slot and hash, key and value, the room for the value, the times of its last access and of its end, and whether it is gone. -/
structure En where
  slot : Nat
  hash : Nat
  key : List UInt8
  value : List UInt8
  room : Nat
  access : Nat
  expire : Nat
  gone : Bool
namespace En
def len (e : En) : Nat := 24 + e.key.length + e.room
def is (e : En) (slot hash : Nat) (key : List UInt8) : Bool := !e.gone && e.slot == slot && e.hash == hash && e.key == key
end En
/-- A segment: its entries, and what was counted. -/
structure Sg where
  size : Nat
  list : List En
  missed : Nat
  hit : Nat
  evacuated : Nat
  expired : Nat
  over : Nat
  touched : Nat
/-- An operation (with the hash that counts), an answer. -/
structure FOp where
  kind : Int
  key : List UInt8
  value : List UInt8
  expire : Int
  now : Nat
  hash : Nat
structure FAns where
  fault : Int
  value : List UInt8
  number : Nat
  is : Bool
  numbers : List Int
namespace Sg
def fresh (size : Nat) : Sg := ⟨size, [], 0, 0, 0, 0, 0, 0⟩
def used (l : List En) : Nat := (l.map En.len).sum
def times (l : List En) : Nat := (l.map En.access).sum
def free (s : Sg) : Nat := s.size - used s.list
def ended (at' now : Nat) : Bool := decide (at' ≠ 0 ∧ at' ≤ now)
def ends (now : Nat) (sec : Int) : Nat := if sec ≤ 0 then 0 else now + sec.toNat
def find (s : Sg) (slot hash : Nat) (key : List UInt8) : Option Nat := s.list.findIdx? fun e => e.is slot hash key
def at' (s : Sg) (i : Nat) (f : En → En) : Sg := { s with list := s.list.modify i f }
/-- Whether the oldest entry is kept. -/
def keeps (e : En) (l : List En) (now row : Nat) : Bool := !ended e.expire now && decide (times (e :: l) < e.access * (l.length + 1)) && decide (row ≤ 5)
def popS (s : Sg) (l : List En) : Sg := { s with list := l }
def keepS (s : Sg) (e : En) (l : List En) : Sg := { s with list := l ++ [e], evacuated := s.evacuated + 1 }
def dropS (s : Sg) (e : En) (l : List En) (now : Nat) : Sg := if ended e.expire now then { s with list := l, expired := s.expired + 1 } else { s with list := l, evacuated := s.evacuated + 1 }
theorem dropS_list (s : Sg) (e : En) (l : List En) (now : Nat) : (dropS s e l now).list = l := by unfold dropS; split <;> rfl
theorem keeps_row {e : En} {l : List En} {now row : Nat} (h : keeps e l now row = true) : row ≤ 5 := by
  unfold keeps at h
  simp only [Bool.and_eq_true, decide_eq_true_eq] at h
  exact h.2
/-- Room is made. -/
def evac (need now : Nat) (s : Sg) (row : Nat) : Sg :=
  if need ≤ s.free then s
  else match h : s.list with
    | [] => s
    | e :: l =>
      if e.gone then evac need now (popS s l) 0
      else if hk : keeps e l now row = true then evac need now (keepS s e l) (row + 1)
      else evac need now (dropS s e l now) 0
termination_by (s.list.length, 7 - row)
decreasing_by
  · simp [h, popS, Prod.lex_def]
  · have := keeps_row hk
    simp [h, keepS, Prod.lex_def]; omega
  · simp [h, dropS_list, Prod.lex_def]
theorem evac_full {need now : Nat} {s : Sg} {row : Nat} (h : need ≤ s.free) : evac need now s row = s := by rw [evac, if_pos h]
theorem evac_nil {need now : Nat} {s : Sg} {row : Nat} (hl : s.list = []) : evac need now s row = s := by
  rw [evac]
  split
  · rfl
  · split
    · rfl
    · rename_i h; rw [hl] at h; cases h
theorem evac_gone {need now : Nat} {s : Sg} {row : Nat} {e : En} {l : List En} (h : ¬ need ≤ s.free) (hl : s.list = e :: l) (hg : e.gone = true) : evac need now s row = evac need now (popS s l) 0 := by
  rw [evac, if_neg h]
  split
  · rename_i h2; rw [hl] at h2; cases h2
  · rename_i h2; rw [hl] at h2; cases h2; rw [if_pos hg]
theorem evac_keep {need now : Nat} {s : Sg} {row : Nat} {e : En} {l : List En} (h : ¬ need ≤ s.free) (hl : s.list = e :: l) (hg : e.gone = false) (hk : keeps e l now row = true) : evac need now s row = evac need now (keepS s e l) (row + 1) := by
  rw [evac, if_neg h]
  split
  · rename_i h2; rw [hl] at h2; cases h2
  · rename_i h2; rw [hl] at h2; cases h2; rw [if_neg (by simp [hg]), dif_pos hk]
theorem evac_drop {need now : Nat} {s : Sg} {row : Nat} {e : En} {l : List En} (h : ¬ need ≤ s.free) (hl : s.list = e :: l) (hg : e.gone = false) (hk : keeps e l now row = false) : evac need now s row = evac need now (dropS s e l now) 0 := by
  rw [evac, if_neg h]
  split
  · rename_i h2; rw [hl] at h2; cases h2
  · rename_i h2; rw [hl] at h2; cases h2; rw [if_neg (by simp [hg]), dif_neg (by simp [hk])]
/-- How it is reckoned. -/
theorem evac_ind {motive : Sg → Nat → Prop} (need now : Nat) (full : ∀ s row, need ≤ s.free → motive s row) (nil : ∀ s row, ¬ need ≤ s.free → s.list = [] → motive s row)
    (gone : ∀ s row e l, ¬ need ≤ s.free → s.list = e :: l → e.gone = true → motive (popS s l) 0 → motive s row)
    (keep : ∀ s row e l, ¬ need ≤ s.free → s.list = e :: l → e.gone = false → keeps e l now row = true → motive (keepS s e l) (row + 1) → motive s row)
    (drop : ∀ s row e l, ¬ need ≤ s.free → s.list = e :: l → e.gone = false → keeps e l now row = false → motive (dropS s e l now) 0 → motive s row) (s : Sg) (row : Nat) : motive s row := by
  by_cases h : need ≤ s.free
  · exact full s row h
  · cases hl : s.list with
    | nil => exact nil s row h hl
    | cons e l =>
      cases hg : e.gone with
      | true => exact gone s row e l h hl hg (evac_ind need now full nil gone keep drop (popS s l) 0)
      | false =>
        cases hk : keeps e l now row with
        | true => exact keep s row e l h hl hg hk (evac_ind need now full nil gone keep drop (keepS s e l) (row + 1))
        | false => exact drop s row e l h hl hg hk (evac_ind need now full nil gone keep drop (dropS s e l now) 0)
termination_by (s.list.length, 7 - row)
decreasing_by
  all_goals first
    | (simp [hl, popS, Prod.lex_def]; done)
    | (simp [hl, dropS_list, Prod.lex_def]; done)
    | (have := keeps_row (by assumption); simp [hl, keepS, Prod.lex_def]; omega)
def add (s : Sg) (e : En) (now : Nat) : Sg := { evac e.len now s 0 with list := (evac e.len now s 0).list ++ [e] }
def grow (r n : Nat) : Nat := if r = 0 ∨ n ≤ r then r else grow (2 * r) n
termination_by n - r
decreasing_by omega
def set (s : Sg) (key value : List UInt8) (hash : Nat) (sec : Int) (now : Nat) : Sg × Bool :=
  if 65535 < key.length ∨ s.size / 4 < 24 + key.length + value.length then (s, false)
  else match s.find (hash / 256 % 256) (hash / 65536 % 65536) key with
    | none => (s.add ⟨hash / 256 % 256, hash / 65536 % 65536, key, value, max value.length 1, now, ends now sec, false⟩ now, true)
    | some i =>
      if value.length ≤ (s.list.getD i ⟨0, 0, [], [], 0, 0, 0, true⟩).room then ({ s.at' i (fun e => { e with access := now, expire := ends now sec, value := value }) with over := s.over + 1 }, true)
      else ((s.at' i fun e => { e with gone := true }).add ⟨hash / 256 % 256, hash / 65536 % 65536, key, value, min (grow (s.list.getD i ⟨0, 0, [], [], 0, 0, 0, true⟩).room value.length) (s.size / 4 - 24 - key.length), now, ends now sec, false⟩ now, true)
def count (l : List En) : Nat := (l.filter fun e => !e.gone).length
def none' : FAns := ⟨1, [], 0, false, []⟩
def ok : FAns := ⟨0, [], 0, false, []⟩
def nums (s : Sg) : List Int := [s.missed, s.hit, count s.list, s.list.length, times s.list, s.evacuated, s.expired, s.over, s.touched, s.free]
def step (s : Sg) (op : FOp) : Sg × FAns :=
  let f := s.find (op.hash / 256 % 256) (op.hash / 65536 % 65536) op.key
  let g := fun i => s.list.getD i ⟨0, 0, [], [], 0, 0, 0, true⟩
  if op.kind = 0 then ((s.set op.key op.value op.hash op.expire op.now).1, if (s.set op.key op.value op.hash op.expire op.now).2 then ok else none')
  else if op.kind = 1 ∨ op.kind = 2 ∨ op.kind = 8 then
    match f with
    | none => ({ s with missed := s.missed + 1 }, none')
    | some i =>
      if ended (g i).expire op.now then ({ s.at' i (fun e => { e with gone := true }) with expired := s.expired + 1, missed := s.missed + 1 }, none')
      else ({ s.at' i (fun e => { e with access := op.now }) with hit := s.hit + 1 }, ⟨0, (g i).value, if op.kind = 2 then (g i).expire else 0, false, []⟩)
  else if op.kind = 3 ∨ op.kind = 4 ∨ op.kind = 9 then
    match f with
    | none => (s, none')
    | some i => (s, ⟨0, (g i).value, if op.kind = 4 then (g i).expire else 0, false, []⟩)
  else if op.kind = 5 then
    match f with
    | none => (s, none')
    | some i =>
      if ended (g i).expire op.now then ({ s.at' i (fun e => { e with gone := true }) with expired := s.expired + 1, missed := s.missed + 1 }, none')
      else ({ s.at' i (fun e => { e with access := op.now, expire := ends op.now op.expire }) with touched := s.touched + 1 }, ok)
  else if op.kind = 6 then
    match f with
    | none => (s, none')
    | some i => if ended (g i).expire op.now then (s, none') else (s, ⟨0, [], if (g i).expire ≠ 0 then (g i).expire - op.now else 0, false, []⟩)
  else if op.kind = 7 then
    match f with
    | none => (s, ok)
    | some i => (s.at' i fun e => { e with gone := true }, ⟨0, [], 0, true, []⟩)
  else if op.kind = 10 then (s, ⟨0, [], 0, false, s.nums⟩)
  else if op.kind = 11 then ({ fresh s.size with touched := s.touched }, ok)
  else if op.kind = 12 then ({ s with missed := 0, hit := 0, evacuated := 0, expired := 0, over := 0 }, ok)
  else (s, ⟨3, [], 0, false, []⟩)
def run : Sg → List FOp → List FAns
  | _, [] => []
  | s, op :: l => (s.step op).2 :: run (s.step op).1 l
def endS : Sg → List FOp → Sg
  | s, [] => s
  | s, op :: l => endS (s.step op).1 l
theorem run_append : ∀ (a : List FOp) (s : Sg) (b : List FOp), s.run (a ++ b) = s.run a ++ (s.endS a).run b
  | [], _, _ => rfl
  | op :: a, s, b => by
    show (s.step op).2 :: run (s.step op).1 (a ++ b) = _
    rw [run_append a (s.step op).1 b]; rfl
theorem run_length : ∀ (a : List FOp) (s : Sg), (s.run a).length = a.length
  | [], _ => rfl
  | op :: a, s => by
    show (run (s.step op).1 a).length + 1 = _
    rw [run_length a]; rfl
/-- What only looks. -/
def looks (op : FOp) : Bool := decide (op.kind = 3 ∨ op.kind = 4 ∨ op.kind = 6 ∨ op.kind = 9)
theorem step_looks (s : Sg) (op : FOp) (h : looks op = true) : (s.step op).1 = s := by
  have hk : op.kind = 3 ∨ op.kind = 4 ∨ op.kind = 6 ∨ op.kind = 9 := of_decide_eq_true h
  unfold step
  rcases hk with h | h | h | h
  all_goals (simp only [h]; simp only [Int.reduceEq, if_false, if_true, or_false, or_true, false_or, true_or])
  all_goals (split <;> first | rfl | (split <;> rfl))
end Sg
end Go.Vil
end
section
namespace Go.Vil
open Go.RowKit

/-- A slice whose elements, of so many cells each, lie in a block that is its own, from wherever on; or nil. -/
def hasRow (w : World) (e : TypeId) (size : Nat) (v : Value) (n : Nat) (xs : List Value) : Prop :=
  xs.length = n * size ∧ ((v = .slice none 0 0 ∧ n = 0) ∨ ∃ (g o cap : Nat) (cur : Array Value), v = .slice (some ⟨g, o, none⟩) n cap ∧ w.heap[g]? = some (.cells cur e (0, 0)) ∧ n ≤ cap ∧ cap ≤ maxLen ∧ o + cap * size ≤ cur.size ∧ (cur.toList.drop o).take (n * size) = xs)
theorem hasRow.lt {w : World} {e : TypeId} {size : Nat} {v : Value} {n : Nat} {xs : List Value} (h : hasRow w e size v n xs) (b : Nat) (hb : v.ownBlock = some b) : b < w.heap.size := by
  rcases h.2 with ⟨rfl, _⟩ | ⟨g, o, cap, cur, rfl, hg, _⟩
  · simp [Value.ownBlock] at hb
  · simp only [Value.ownBlock, Option.some.injEq] at hb; subst hb
    exact (Array.getElem?_eq_some_iff.1 hg).1
/-- A thing in memory: a block that is known, a row that grows by append (nil, or a block of its own), a block of which something is known. -/
inductive Res where
  | blk (b : Nat) (o : Obj)
  | row (e : TypeId) (size : Nat) (v : Value) (n : Nat) (xs : List Value)
  | sat (b : Nat) (p : Obj → Prop)
  | orow (e : TypeId) (size : Nat) (v : Value) (n : Nat) (xs : List Value)

/-- The block that it takes. -/
def Res.foot : Res → Option Nat
  | .blk b _ => some b
  | .row _ _ v _ _ => v.ownBlock
  | .sat b _ => some b
  | .orow _ _ v _ _ => v.ownBlock

def Res.holds (w : World) : Res → Prop
  | .blk b o => w.heap[b]? = some o
  | .row e size v n xs => w.ownsRow 0 e size v n xs
  | .sat b p => ∃ o, w.heap[b]? = some o ∧ p o
  | .orow e size v n xs => hasRow w e size v n xs

theorem Res.holds_lt {w : World} {r : Res} (h : r.holds w) : ∀ b, r.foot = some b → b < w.heap.size := by
  intro b hb
  cases r with
  | blk b' o =>
    simp only [Res.foot, Option.some.injEq] at hb; subst hb
    exact (Array.getElem?_eq_some_iff.1 h).1
  | row e size v n xs => exact (World.ownsRow.lt h b hb).2
  | sat b' p =>
    simp only [Res.foot, Option.some.injEq] at hb; subst hb
    obtain ⟨o, ho, _⟩ := h
    exact (Array.getElem?_eq_some_iff.1 ho).1
  | orow e size v n xs => exact hasRow.lt h b hb

theorem Res.holds_of_block {w w' : World} {r : Res} (h : r.holds w) (hb : ∀ b, r.foot = some b → w'.heap[b]? = w.heap[b]?) : r.holds w' := by
  cases r with
  | blk b o => exact (hb b rfl).trans h
  | row e size v n xs =>
    refine ⟨h.1, ?_⟩
    rcases h.2 with h1 | ⟨g, cap, cur, rfl, h2, hg, h3⟩
    · exact .inl h1
    · exact .inr ⟨g, cap, cur, rfl, h2, (hb g rfl).trans hg, h3⟩
  | sat b p =>
    obtain ⟨o, ho, hp⟩ := h
    exact ⟨o, (hb b rfl).trans ho, hp⟩
  | orow e size v n xs =>
    refine ⟨h.1, ?_⟩
    rcases h.2 with h1 | ⟨g, o, cap, cur, rfl, hg, h3⟩
    · exact .inl h1
    · exact .inr ⟨g, o, cap, cur, rfl, (hb g rfl).trans hg, h3⟩

/-- These things are there, each with a block of its own. -/
def Mem (w : World) (l : List Res) : Prop := (l.filterMap Res.foot).Nodup ∧ ∀ r ∈ l, r.holds w

/-- What turned between two worlds: blocks of a list, and new ones. -/
structure Chg (bs : List Nat) (w w' : World) : Prop where
  os : w'.os = w.os
  tape : w'.tape = w.tape
  output : w'.output = w.output
  size : w.heap.size ≤ w'.heap.size
  block : ∀ k, k < w.heap.size → k ∉ bs → w'.heap[k]? = w.heap[k]?

theorem Chg.refl (bs : List Nat) (w : World) : Chg bs w w := ⟨rfl, rfl, rfl, Nat.le_refl _, fun _ _ _ => rfl⟩
theorem Chg.trans {bs : List Nat} {a b c : World} (h : Chg bs a b) (k : Chg bs b c) : Chg bs a c :=
  ⟨k.os.trans h.os, k.tape.trans h.tape, k.output.trans h.output, Nat.le_trans h.size k.size, fun i hi hn => (k.block i (Nat.lt_of_lt_of_le hi h.size) hn).trans (h.block i hi hn)⟩
theorem Chg.mono {bs bs' : List Nat} {a b : World} (h : Chg bs a b) (hs : ∀ k ∈ bs, k ∈ bs') : Chg bs' a b :=
  ⟨h.os, h.tape, h.output, h.size, fun i hi hn => h.block i hi (fun e => hn (hs i e))⟩
theorem Chg.below {w w' : World} (h : Chg [] w w') : Below w.heap.size w w' := ⟨h.os, h.tape, h.output, h.size, fun k hk => h.block k hk (by simp)⟩
theorem Chg.of_below {w w' : World} (h : Below w.heap.size w w') : Chg [] w w' := ⟨h.os, h.tape, h.output, h.size, fun k hk _ => h.block k hk⟩
/-- Behind a change: what was added to the changes of before: each block of it is an allowed one, or was not there at the beginning. -/
theorem Chg.on {bs bs' : List Nat} {a b c : World} (h : Chg bs a b) (k : Chg bs' b c) (hm : ∀ x ∈ bs', x ∈ bs ∨ a.heap.size ≤ x) : Chg bs a c :=
  ⟨k.os.trans h.os, k.tape.trans h.tape, k.output.trans h.output, Nat.le_trans h.size k.size, fun i hi hn =>
    (k.block i (Nat.lt_of_lt_of_le hi h.size) (fun e => (hm i e).elim hn (fun h' => by omega))).trans (h.block i hi hn)⟩
theorem Chg.cell {bs : List Nat} {w w' : World} (h : Chg bs w w') {a : Addr} {v : Value} (hc : w.cell? a = some v) (hn : a.block ∉ bs) : w'.cell? a = some v :=
  (World.cell?_of_block (h.block a.block (World.block_lt_of_cell? w a hc) hn)).trans hc

/-- The state of a walk: what is there, what has turned since its beginning (blocks of a list, and new ones), and that what is there lies in those. -/
structure St (w0 : World) (bs : List Nat) (w : World) (l : List Res) : Prop where
  mem : Mem w l
  chg : Chg bs w0 w
  org : ∀ r ∈ l, ∀ b, r.foot = some b → b ∈ bs ∨ w0.heap.size ≤ b

/-- A world in such a state, or a given one. (A structure of its own, so that simp sees that there is one.) -/
structure StW (wc w0 : World) (bs : List Nat) (l : List Res) where
  w : World
  st : w = wc ∨ St w0 bs w l
instance (wc w0 : World) (bs : List Nat) (l : List Res) : Nonempty (StW wc w0 bs l) := ⟨⟨wc, .inl rfl⟩⟩
theorem St.of {w0 : World} {bs : List Nat} {l : List Res} {w' wc : World} (S : St w0 bs wc l) (h : ∃ p : StW wc w0 bs l, w' = p.w) : St w0 bs w' l := by
  obtain ⟨⟨w, h⟩, rfl⟩ := h
  rcases h with rfl | h
  · exact S
  · exact h
theorem St.inSt {w0 : World} {bs : List Nat} {l : List Res} {w' : World} (wc : World) (h : St w0 bs w' l) : ∃ p : StW wc w0 bs l, w' = p.w := ⟨⟨w', .inr h⟩, rfl⟩

theorem St.inSt' {w0 : World} {bs : List Nat} {l : List Res} {w' : World} (_ : St w0 bs w' l) : ∃ p : StW w' w0 bs l, w' = p.w := ⟨⟨w', .inl rfl⟩, rfl⟩
theorem Mem.nil (w : World) : Mem w [] := ⟨by simp, by simp⟩
theorem St.start {w : World} {l : List Res} (h : Mem w l) : St w (l.filterMap Res.foot) w l := ⟨h, Chg.refl _ _, fun r hr _ hb => .inl (List.mem_filterMap.2 ⟨r, hr, hb⟩)⟩
theorem St.begin (w : World) : St w [] w [] := ⟨Mem.nil w, Chg.refl _ _, by simp⟩

/-- One thing is replaced by another, in place. -/
inductive At (r r' : Res) : List Res → List Res → Prop
  | head {l : List Res} : At r r' (r :: l) (r' :: l)
  | tail {p : Res} {l l' : List Res} : At r r' l l' → At r r' (p :: l) (p :: l')

/-- One thing is taken out. -/
inductive Pull (r : Res) : List Res → List Res → Prop
  | head {l : List Res} : Pull r (r :: l) l
  | tail {p : Res} {l l' : List Res} : Pull r l l' → Pull r (p :: l) (p :: l')

/-- Some things, out of others, in any order. -/
inductive Sel : List Res → List Res → Prop
  | nil {l : List Res} : Sel [] l
  | cons {r : Res} {rs l l' : List Res} : Pull r l l' → Sel rs l' → Sel (r :: rs) l

theorem Pull.perm {r : Res} {l l' : List Res} (h : Pull r l l') : l.Perm (r :: l') := by
  induction h with
  | head => exact .refl _
  | tail _ ih => exact (List.Perm.cons _ ih).trans (.swap _ _ _)

theorem Mem.perm {w : World} {l l' : List Res} (h : Mem w l) (hp : l.Perm l') : Mem w l' :=
  ⟨(hp.filterMap Res.foot).nodup_iff.1 h.1, fun r hr => h.2 r (hp.mem_iff.2 hr)⟩

theorem Mem.tail {w : World} {r : Res} {l : List Res} (h : Mem w (r :: l)) : Mem w l := by
  refine ⟨?_, fun x hx => h.2 x (List.mem_cons_of_mem _ hx)⟩
  have := h.1
  rw [List.filterMap_cons] at this
  split at this
  · exact this
  · exact (List.nodup_cons.1 this).2

theorem Mem.head {w : World} {r : Res} {l : List Res} (h : Mem w (r :: l)) : r.holds w := h.2 r List.mem_cons_self

theorem Mem.cons {w : World} {r : Res} {l : List Res} (h : Mem w l) (hr : r.holds w) (hf : ∀ b, r.foot = some b → ∀ x ∈ l, x.foot ≠ some b) : Mem w (r :: l) := by
  refine ⟨?_, fun x hx => by cases hx with | head => exact hr | tail _ hx => exact h.2 x hx⟩
  rw [List.filterMap_cons]
  split
  · exact h.1
  · rename_i b hb
    refine List.nodup_cons.2 ⟨fun hm => ?_, h.1⟩
    obtain ⟨x, hx, hxb⟩ := List.mem_filterMap.1 hm
    exact hf b hb x hx hxb

theorem Mem.apart {w : World} {r : Res} {l : List Res} (h : Mem w (r :: l)) : ∀ b, r.foot = some b → ∀ x ∈ l, x.foot ≠ some b := by
  intro b hb x hx hxb
  have := h.1
  rw [List.filterMap_cons, hb] at this
  exact (List.nodup_cons.1 this).1 (List.mem_filterMap.2 ⟨x, hx, hxb⟩)

theorem Mem.sel {w : World} {rs l : List Res} (hs : Sel rs l) : Mem w l → Mem w rs := by
  induction hs with
  | nil => intro _; exact Mem.nil w
  | @cons r rs l l' hp hs ih =>
    intro h
    have h1 := h.perm hp.perm
    refine (ih h1.tail).cons h1.head fun b hb x hx => h1.apart b hb x ?_
    clear ih h h1 hp hb
    induction hs with
    | nil => cases hx
    | @cons r' rs' m m' hp' _ ih' =>
      cases hx with
      | head => exact hp'.perm.mem_iff.2 List.mem_cons_self
      | tail _ hx => exact hp'.perm.mem_iff.2 (List.mem_cons_of_mem _ (ih' hx))

theorem Sel.sub {rs l : List Res} (hs : Sel rs l) : ∀ x ∈ rs, x ∈ l := by
  induction hs with
  | nil => intro x hx; cases hx
  | @cons r rs l l' hp _ ih =>
    intro x hx
    cases hx with
    | head => exact hp.perm.mem_iff.2 List.mem_cons_self
    | tail _ hx => exact hp.perm.mem_iff.2 (List.mem_cons_of_mem _ (ih x hx))
theorem St.sel {w0 : World} {bs : List Nat} {w : World} {rs l : List Res} (h : St w0 bs w l) (hs : Sel rs l) : St w0 bs w rs := ⟨h.mem.sel hs, h.chg, fun r hr => h.org r (hs.sub r hr)⟩

theorem Mem.keep {w w' : World} {l : List Res} (h : Mem w l) (hb : ∀ r ∈ l, ∀ b, r.foot = some b → w'.heap[b]? = w.heap[b]?) : Mem w' l :=
  ⟨h.1, fun r hr => Res.holds_of_block (h.2 r hr) (hb r hr)⟩

/-- Some things are taken out, one after the other. -/
inductive Pulls : List Res → List Res → List Res → Prop
  | nil {l : List Res} : Pulls [] l l
  | cons {r : Res} {rs l l' F : List Res} : Pull r l l' → Pulls rs l' F → Pulls (r :: rs) l F
theorem Pulls.perm {rs l F : List Res} (h : Pulls rs l F) : l.Perm (rs ++ F) := by
  induction h with
  | nil => exact .refl _
  | cons hp _ ih => exact hp.perm.trans (List.Perm.cons _ ih)

/-- What a call did to the things that it was handed: they go out of the list, those that it leaves come in. -/
theorem St.callP {w0 : World} {bs : List Nat} {w w' : World} {l rs rs' F : List Res} (S : St w0 bs w l) (hp : l.Perm (rs ++ F)) (C : St w (rs.filterMap Res.foot) w' rs') : St w0 bs w' (rs' ++ F) := by
  have h1 := S.mem.perm hp
  have hF : Mem w F := ⟨by have := h1.1; rw [List.filterMap_append] at this; exact (List.nodup_append.1 this).2.1, fun r hr => h1.2 r (List.mem_append_right _ hr)⟩
  have hap : ∀ x ∈ rs, ∀ y ∈ F, ∀ b, x.foot = some b → y.foot ≠ some b := by
    intro x hx y hy b hxb hyb
    have := h1.1
    rw [List.filterMap_append] at this
    exact (List.nodup_append.1 this).2.2 b (List.mem_filterMap.2 ⟨x, hx, hxb⟩) b (List.mem_filterMap.2 ⟨y, hy, hyb⟩) rfl
  have hF' : Mem w' F := hF.keep fun r hr b hb => C.chg.block b (Res.holds_lt (hF.2 r hr) b hb) fun hb' => by
    obtain ⟨x, hx, hxb⟩ := List.mem_filterMap.1 hb'
    exact hap x hx r hr b hxb hb
  have horg : ∀ b ∈ rs.filterMap Res.foot, b ∈ bs ∨ w0.heap.size ≤ b := fun b hb => by
    obtain ⟨x, hx, hxb⟩ := List.mem_filterMap.1 hb
    exact S.org x (hp.mem_iff.2 (List.mem_append_left _ hx)) b hxb
  refine ⟨⟨?_, fun r hr => (List.mem_append.1 hr).elim (C.mem.2 r) (hF'.2 r)⟩, S.chg.on C.chg horg, fun r hr b hb => ?_⟩
  · rw [List.filterMap_append]
    refine List.nodup_append.2 ⟨C.mem.1, hF'.1, fun b hb c hc e => ?_⟩
    subst e
    obtain ⟨x, hx, hxb⟩ := List.mem_filterMap.1 hb
    obtain ⟨y, hy, hyb⟩ := List.mem_filterMap.1 hc
    rcases C.org x hx b hxb with hb' | hlt
    · obtain ⟨z, hz, hzb⟩ := List.mem_filterMap.1 hb'
      exact hap z hz y hy b hzb hyb
    · have := Res.holds_lt (hF.2 y hy) b hyb; omega
  · rcases List.mem_append.1 hr with hr | hr
    · rcases C.org r hr b hb with hb' | hlt
      · exact horg b hb'
      · have := S.chg.size; right; omega
    · exact S.org r (hp.mem_iff.2 (List.mem_append_right _ hr)) b hb
/-- The things that take these blocks are taken out. -/
inductive PullF (b : Nat) : List Res → List Res → Prop
  | head {r : Res} {l : List Res} (h : r.foot = some b) : PullF b (r :: l) l
  | tail {p : Res} {l l' : List Res} : PullF b l l' → PullF b (p :: l) (p :: l')
inductive PullsF : List Nat → List Res → List Res → Prop
  | nil {l : List Res} : PullsF [] l l
  | cons {b : Nat} {bs : List Nat} {l l' F : List Res} : PullF b l l' → PullsF bs l' F → PullsF (b :: bs) l F
theorem PullF.perm {b : Nat} {l F : List Res} (h : PullF b l F) : ∃ r : Res, r.foot = some b ∧ l.Perm (r :: F) := by
  induction h with
  | head h => exact ⟨_, h, .refl _⟩
  | tail _ ih =>
    obtain ⟨r, h1, h2⟩ := ih
    exact ⟨r, h1, (List.Perm.cons _ h2).trans (.swap _ _ _)⟩
theorem PullsF.perm {bs : List Nat} {l F : List Res} (h : PullsF bs l F) : ∃ rs : List Res, rs.filterMap Res.foot = bs ∧ l.Perm (rs ++ F) := by
  induction h with
  | nil => exact ⟨[], rfl, .refl _⟩
  | cons hp _ ih =>
    obtain ⟨r, h1, h2⟩ := hp.perm
    obtain ⟨rs, h3, h4⟩ := ih
    exact ⟨r :: rs, by simp [h1, h3], h2.trans (List.Perm.cons _ h4)⟩
theorem St.call {w0 : World} {bs bs' : List Nat} {w w' : World} {l rs' F : List Res} (S : St w0 bs w l) (C : St w bs' w' rs')
    (hp : PullsF bs' l F := by repeat (first | exact PullsF.nil | (apply PullsF.cons; (repeat (first | exact PullF.head rfl | apply PullF.tail))))) : St w0 bs w' (rs' ++ F) := by
  obtain ⟨rs, h1, h2⟩ := hp.perm
  exact S.callP h2 (h1.symm ▸ C)

/-- Some of the things, found by looking. -/
theorem St.sel1 {w0 : World} {bs : List Nat} {w : World} {l F : List Res} {r : Res} (S : St w0 bs w l) (hp : Pull r l F := by repeat (first | exact Pull.head | apply Pull.tail)) : Mem w [r] := S.mem.sel (.cons hp .nil)
theorem St.sel2 {w0 : World} {bs : List Nat} {w : World} {l F F1 : List Res} {r r1 : Res} (S : St w0 bs w l) (hp : Pull r l F1 := by repeat (first | exact Pull.head | apply Pull.tail)) (hp1 : Pull r1 F1 F := by repeat (first | exact Pull.head | apply Pull.tail)) : Mem w [r, r1] :=
  S.mem.sel (.cons hp (.cons hp1 .nil))
theorem St.sel3 {w0 : World} {bs : List Nat} {w : World} {l F F1 F2 : List Res} {r r1 r2 : Res} (S : St w0 bs w l) (hp : Pull r l F1 := by repeat (first | exact Pull.head | apply Pull.tail)) (hp1 : Pull r1 F1 F2 := by repeat (first | exact Pull.head | apply Pull.tail))
    (hp2 : Pull r2 F2 F := by repeat (first | exact Pull.head | apply Pull.tail)) : Mem w [r, r1, r2] := S.mem.sel (.cons hp (.cons hp1 (.cons hp2 .nil)))
theorem St.sel4 {w0 : World} {bs : List Nat} {w : World} {l F F1 F2 F3 : List Res} {r r1 r2 r3 : Res} (S : St w0 bs w l) (hp : Pull r l F1 := by repeat (first | exact Pull.head | apply Pull.tail)) (hp1 : Pull r1 F1 F2 := by repeat (first | exact Pull.head | apply Pull.tail))
    (hp2 : Pull r2 F2 F3 := by repeat (first | exact Pull.head | apply Pull.tail)) (hp3 : Pull r3 F3 F := by repeat (first | exact Pull.head | apply Pull.tail)) : Mem w [r, r1, r2, r3] := S.mem.sel (.cons hp (.cons hp1 (.cons hp2 (.cons hp3 .nil))))
/-- Nothing that is there has turned. -/
theorem St.same {w0 : World} {bs : List Nat} {w w' : World} {l : List Res} (S : St w0 bs w l) (C : Chg [] w w') : St w0 bs w' l :=
  ⟨S.mem.keep fun r hr b hb => C.block b (Res.holds_lt (S.mem.2 r hr) b hb) (by simp), S.chg.on C (by simp), S.org⟩

/-- Something new. -/
theorem St.add {w0 : World} {bs : List Nat} {w w' : World} {l : List Res} {r : Res} (S : St w0 bs w l) (C : Chg [] w w') (hr : r.holds w') (hf : ∀ b, r.foot = some b → w.heap.size ≤ b) : St w0 bs w' (r :: l) := by
  have S' := S.same C
  refine ⟨S'.mem.cons hr fun b hb x hx hxb => ?_, S'.chg, fun x hx b hb => ?_⟩
  · have := Res.holds_lt (S.mem.2 x hx) b hxb
    have := hf b hb
    omega
  · cases hx with
    | head => have := hf b hb; have := S.chg.size; right; omega
    | tail _ hx => exact S.org x hx b hb

theorem At.perm {r r' : Res} {l l' : List Res} (h : At r r' l l') : ∃ F, l.Perm (r :: F) ∧ l'.Perm (r' :: F) := by
  induction h with
  | head => exact ⟨_, .refl _, .refl _⟩
  | tail _ ih =>
    obtain ⟨F, h1, h2⟩ := ih
    exact ⟨_ :: F, (List.Perm.cons _ h1).trans (.swap _ _ _), (List.Perm.cons _ h2).trans (.swap _ _ _)⟩

theorem St.perm {w0 : World} {bs : List Nat} {w : World} {l l' : List Res} (S : St w0 bs w l) (h : l.Perm l') : St w0 bs w l' := ⟨S.mem.perm h, S.chg, fun r hr => S.org r (h.mem_iff.2 hr)⟩

/-- One thing is written, or made anew. -/
theorem St.set {w0 : World} {bs : List Nat} {w w' : World} {l l' : List Res} {r r' : Res} (S : St w0 bs w l) (hA : At r r' l l') (C : Chg r.foot.toList w w') (hr' : r'.holds w')
    (hf : ∀ c, r'.foot = some c → r.foot = some c ∨ w.heap.size ≤ c) : St w0 bs w' l' := by
  obtain ⟨F, h1, h2⟩ := hA.perm
  have hM : Mem w' [r'] := (Mem.nil w').cons hr' (by simp)
  have hfm : [r].filterMap Res.foot = r.foot.toList := by cases h : r.foot <;> simp [h]
  have := S.callP (rs := [r]) (rs' := [r']) (F := F) h1 ⟨hM, by rw [hfm]; exact C, fun x hx b hb => by
    rw [hfm]
    obtain rfl : x = r' := by simpa using hx
    rcases hf b hb with h | h
    · left; simp [h]
    · right; exact h⟩
  exact this.perm h2.symm

theorem At.mem {r r' : Res} {l l' : List Res} (h : At r r' l l') : r ∈ l := by
  induction h with
  | head => exact List.mem_cons_self
  | tail _ ih => exact List.mem_cons_of_mem _ ih
theorem Pull.mem {r : Res} {l l' : List Res} (h : Pull r l l') : r ∈ l := by
  induction h with
  | head => exact List.mem_cons_self
  | tail _ ih => exact List.mem_cons_of_mem _ ih

theorem St.blk {w0 : World} {bs : List Nat} {w : World} {l F : List Res} {b : Nat} {o : Obj} (S : St w0 bs w l) (h : Pull (.blk b o) l F) : w.heap[b]? = some o := S.mem.2 _ h.mem

theorem Chg.drew {bs : List Nat} {w w' : World} (h : Chg bs w w') : Chg bs w w'.drew := ⟨h.os, h.tape, h.output, h.size, h.block⟩
theorem St.drew {w0 : World} {bs : List Nat} {w : World} {l : List Res} (S : St w0 bs w l) : St w0 bs w.drew l := S.same ⟨rfl, rfl, rfl, Nat.le_refl _, fun _ _ _ => rfl⟩

theorem Chg.alloc (w : World) (o : Obj) : Chg [] w (w.alloc o) := ⟨rfl, rfl, rfl, by simp, fun k hk _ => Below.heap_alloc w o k hk⟩
theorem Chg.setCell (w : World) (a : Addr) (v : Value) : Chg [a.block] w (w.setCell a v) := ⟨rfl, rfl, rfl, by simp, fun k _ hn => heap_setCell_other w a k v (by simpa using hn)⟩
theorem Chg.grown {w w' : World} {row : Option Nat} (h : w.grownBy w' row) : Chg row.toList w w' :=
  ⟨h.os, h.tape, h.output, h.size, fun k hk hn => h.block k hk (fun e => hn (by simp [← e]))⟩

end Go.Vil
end
section
namespace Go.Vil
open Go.RowKit

/-! ### What is asked of types: found by their numbers -/
class TOne (P : Program) (t : TypeId) : Prop where
  agg : ∀ w, (isAgg t).run P w = .ok false w
  size : ∀ w, (sizeOf t).run P w = .ok 1 w
class TAgg (P : Program) (t : TypeId) (n : outParam Nat) : Prop where
  agg : ∀ w, (isAgg t).run P w = .ok true w
  size : ∀ w, (sizeOf t).run P w = .ok n w
class TZero (P : Program) (t : TypeId) (z : outParam Value) : Prop where
  zero : ∀ w, (zeroValue t).run P w = .ok z w
class TSlice (P : Program) (t : TypeId) (e : outParam TypeId) : Prop where
  is : P.underlying t = some (.slice e)
class TElem (P : Program) (e : TypeId) (z : outParam Value) (size bytes : outParam Nat) : Prop where
  is : ∃ i, P.info? e = some i ∧ i.zero = some z ∧ i.size = size ∧ i.bytes = bytes ∧ z.cells.size = size
/-- What can be the source of an append or a copy: a slice or a string. -/
class TRow (P : Program) (t : TypeId) : Prop where
  is : ∃ d, P.underlying t = some d ∧ ∀ k, d ≠ .int k

/-- Bytes as cells. -/
def u8s (l : List UInt8) : List Value := l.map fun c => .int .u8 (c.toNat : Int)
@[simp] theorem length_u8s (l : List UInt8) : (u8s l).length = l.length := by simp [u8s]
theorem u8s_get? (l : List UInt8) (i : Nat) : (u8s l)[i]? = (l[i]?).map fun c => .int .u8 (c.toNat : Int) := by simp [u8s]
theorem u8s_append (a b : List UInt8) : u8s (a ++ b) = u8s a ++ u8s b := by simp [u8s]
theorem u8s_take (a : List UInt8) (n : Nat) : u8s (a.take n) = (u8s a).take n := by simp [u8s, List.map_take]
theorem u8s_drop (a : List UInt8) (n : Nat) : u8s (a.drop n) = (u8s a).drop n := by simp [u8s, List.map_drop]
theorem u8s_one (l : List UInt8) : ∀ u ∈ u8s l, u.oneCell' = true := by
  intro u hu
  obtain ⟨c, _, rfl⟩ := List.mem_map.1 hu
  rfl

section
variable {P : Program} {ops : Array Oper} {Q : Exit → Act → World → Prop} {rest : List Oper} {o : Oper} {a : Act} {w w' : World}

theorem wpList_run {v : Value} (hw : Region.wanted o (yielded ops a.tmps) = true) (h : (execOp a.eval o).run P w = .ok (.value v) w') (k : wpList P ops Q rest (a.put o.dst v) w') : wpList P ops Q (o :: rest) a w := by
  refine wpList_step fun K hK => ?_
  rw [if_pos hw]
  unfold Oper.wp
  rw [h]
  exact hK _ _ k
theorem wpList_run_skip (hw : Region.wanted o (yielded ops a.tmps) = true) (h : (execOp a.eval o).run P w = .ok .skip w') (k : wpList P ops Q rest (a.put o.dst undef) w') : wpList P ops Q (o :: rest) a w := by
  refine wpList_step fun K hK => ?_
  rw [if_pos hw]
  unfold Oper.wp
  rw [h]
  exact hK _ _ k
theorem quiet_run {C : World → Prop} {K : Act → Prop} {v : Value} (h : ∀ w, C w → (execOp a.eval o).run P w = .ok (.value v) w) (hk : K (a.put o.dst v)) : o.quiet P a C K :=
  ⟨v, fun w hw => by unfold Oper.quietAt; rw [h w hw]; exact ⟨rfl, rfl⟩, hk⟩

/-- What an operand is: read off the frame quickly. -/
def slot (a : Act) : Operand → Option Value
  | .tmp n => a.tmps.toList[n]?
  | .const v => some v
  | x => some (a.eval x)
theorem eval_slot {x : Operand} {v : Value} (h : slot a x = some v) : a.eval x = v := by
  cases x with
  | tmp n =>
    simp only [slot, Array.getElem?_toList] at h
    simp [Act.eval, h]
  | const u => exact Option.some.inj h
  | global g => exact Option.some.inj h
  | func g => exact Option.some.inj h
/-- The frame with a slot written, written out. -/
structure Put (a : Act) (d : Option Tmp) (v : Value) (a' : Act) : Prop where
  is : a.put d v = a'
theorem put_of {l l' : List Value} {ds : List Deferred} {d : Nat} {v : Value} (h : l.set d v = l') : Put ⟨l.toArray, ds⟩ (some d) v ⟨l'.toArray, ds⟩ := ⟨by simp [Act.put, h]⟩

/-! ### Loads -/
theorem cell_at {w : World} {b i : Nat} {c : Array Value} {T : TypeId} {fr : Nat × Nat} (h : w.heap[b]? = some (.cells c T fr)) : w.cell? ⟨b, i, none⟩ = c[i]? := by
  simp [World.cell?, h]
theorem frozen_at {w : World} {b i : Nat} {c : Array Value} {T : TypeId} (h : w.heap[b]? = some (.cells c T (0, 0))) : w.frozen? ⟨b, i, none⟩ = false := by
  simp [World.frozen?, h]

theorem run_ld (ty : TypeId) (x : Operand) (ho : o.op = .load ty x) {ad : Addr} (ha : a.eval x = .pointer (some ad)) [h1 : TOne P ty] {v : Value} (hc : w.cell? ad = some v) :
    (execOp a.eval o).run P w = .ok (.value v) w := by
  simp [execOp, ho, ha, Instr.loadAt, Instr.sureAddr, loadVar, h1.agg, hc]
theorem run_ldA (ty : TypeId) (x : Operand) (ho : o.op = .load ty x) {ad : Addr} (ha : a.eval x = .pointer (some ad)) {n : Nat} [h1 : TAgg P ty n] {cs : List Value} (hl : cs.length = n)
    (hc : ∀ j v, cs[j]? = some v → w.cell? (ad.add j) = some v) : (execOp a.eval o).run P w = .ok (.value (.agg cs.toArray)) w := by
  have := run_loadCells_list (P := P) w ad cs hc
  rw [hl] at this
  simp [execOp, ho, ha, Instr.loadAt, Instr.sureAddr, loadVar, h1.agg, h1.size, this]

/-- A load out of a block that is known. -/
theorem wpList_ld {w0 : World} {bs : List Nat} {L F : List Res} (S : St w0 bs w L) {a' : Act} {ty : TypeId} {x : Operand} {b i : Nat} {c : List Value} {T : TypeId} {fr : Nat × Nat} {v : Value}
    (k : wpList P ops Q rest a' w)
    (hw : Region.wanted o (yielded ops a.tmps) = true := by rfl) (ho : o.op = .load ty x := by rfl) (hT0 : TOne P ty := by infer_instance) (ha : slot a x = some (.pointer (some ⟨b, i, none⟩)) := by rfl)
    (hp : Pull (.blk b (.cells c.toArray T fr)) L F := by repeat (first | exact Pull.head | apply Pull.tail)) (hi : c[i]? = some v := by rfl) (hput : Put a o.dst v a' := by exact put_of (by conv => lhs; simp only [List.set_cons_succ, List.set_cons_zero])) : wpList P ops Q (o :: rest) a w :=
  wpList_run hw (run_ld ty x ho (eval_slot ha) ((cell_at (S.blk hp)).trans (by simpa using hi))) (hput.is ▸ k)
theorem quiet_ld {w0 : World} {bs : List Nat} {L F : List Res} (S : St w0 bs w L) {K : Act → Prop} {a' : Act} {ty : TypeId} {x : Operand} {b i : Nat} {c : List Value} {T : TypeId} {fr : Nat × Nat} {v : Value}
    (k : K a')
    (ho : o.op = .load ty x := by rfl) (hT0 : TOne P ty := by infer_instance) (ha : slot a x = some (.pointer (some ⟨b, i, none⟩)) := by rfl)
    (hp : Pull (.blk b (.cells c.toArray T fr)) L F := by repeat (first | exact Pull.head | apply Pull.tail)) (hi : c[i]? = some v := by rfl) (hput : Put a o.dst v a' := by exact put_of (by conv => lhs; simp only [List.set_cons_succ, List.set_cons_zero])) : o.quiet P a (fun w' => ∃ p : StW w w0 bs L, w' = p.w) K :=
  quiet_run (fun _ hS => have S := S.of hS; run_ld ty x ho (eval_slot ha) ((cell_at (S.blk hp)).trans (by simpa using hi))) (hput.is ▸ k)

/-- A load of a struct or an array out of a block that is known. -/
theorem run_ldAblk {w0 : World} {bs : List Nat} {L F : List Res} (S : St w0 bs w L) (ty : TypeId) (x : Operand) (ho : o.op = .load ty x) {b i : Nat} (ha : a.eval x = .pointer (some ⟨b, i, none⟩)) {n : Nat} [TAgg P ty n]
    {c : List Value} {T : TypeId} {fr : Nat × Nat} (hp : Pull (.blk b (.cells c.toArray T fr)) L F) (hi : i + n ≤ c.length) :
    (execOp a.eval o).run P w = .ok (.value (.agg ((c.drop i).take n).toArray)) w := by
  refine run_ldA ty x ho ha (n := n) (by simp; omega) fun j v hv => ?_
  have hj : j < n := by
    have := (List.getElem?_eq_some_iff.1 hv).1
    simp at this; omega
  rw [Addr.add_lit, cell_at (S.blk hp)]
  rw [List.getElem?_take, if_pos hj, List.getElem?_drop] at hv
  simpa using hv
theorem wpList_ldA {w0 : World} {bs : List Nat} {L F : List Res} (S : St w0 bs w L) {a' : Act} {ty : TypeId} {x : Operand} {b i : Nat} {n : Nat} {c : List Value} {T : TypeId} {fr : Nat × Nat}
    (k : wpList P ops Q rest a' w)
    (hw : Region.wanted o (yielded ops a.tmps) = true := by rfl) (ho : o.op = .load ty x := by rfl) (hT0 : TAgg P ty n := by infer_instance) (ha : slot a x = some (.pointer (some ⟨b, i, none⟩)) := by rfl)
    (hp : Pull (.blk b (.cells c.toArray T fr)) L F := by repeat (first | exact Pull.head | apply Pull.tail)) (hi : i + n ≤ c.length := by (first | decide | omega | (simp; done) | (simp; omega))) (hput : Put a o.dst (.agg ((c.drop i).take n).toArray) a' := by exact put_of (by conv => lhs; simp only [List.set_cons_succ, List.set_cons_zero])) : wpList P ops Q (o :: rest) a w :=
  wpList_run hw (run_ldAblk S ty x ho (eval_slot ha) hp hi) (hput.is ▸ k)
theorem quiet_ldA {w0 : World} {bs : List Nat} {L F : List Res} (S : St w0 bs w L) {K : Act → Prop} {a' : Act} {ty : TypeId} {x : Operand} {b i : Nat} {n : Nat} {c : List Value} {T : TypeId} {fr : Nat × Nat}
    (k : K a')
    (ho : o.op = .load ty x := by rfl) (hT0 : TAgg P ty n := by infer_instance) (ha : slot a x = some (.pointer (some ⟨b, i, none⟩)) := by rfl)
    (hp : Pull (.blk b (.cells c.toArray T fr)) L F := by repeat (first | exact Pull.head | apply Pull.tail)) (hi : i + n ≤ c.length := by (first | decide | omega | (simp; done) | (simp; omega))) (hput : Put a o.dst (.agg ((c.drop i).take n).toArray) a' := by exact put_of (by conv => lhs; simp only [List.set_cons_succ, List.set_cons_zero])) : o.quiet P a (fun w' => ∃ p : StW w w0 bs L, w' = p.w) K :=
  quiet_run (fun _ hS => have S := S.of hS; run_ldAblk S ty x ho (eval_slot ha) hp hi) (hput.is ▸ k)

/-- A load of a struct without fields. -/
theorem wpList_ld0 {a' : Act} {ty : TypeId} {x : Operand} {ad : Addr}
    (k : wpList P ops Q rest a' w)
    (hw : Region.wanted o (yielded ops a.tmps) = true := by rfl) (ho : o.op = .load ty x := by rfl) (hT0 : TAgg P ty 0 := by infer_instance) (ha : slot a x = some (.pointer (some ad)) := by rfl) (hput : Put a o.dst (.agg #[]) a' := by exact put_of (by conv => lhs; simp only [List.set_cons_succ, List.set_cons_zero])) : wpList P ops Q (o :: rest) a w :=
  wpList_run hw (run_ldA ty x ho (eval_slot ha) (n := 0) (cs := []) rfl (by simp)) (hput.is ▸ k)
theorem quiet_ld0 {C : World → Prop} {K : Act → Prop} {a' : Act} {ty : TypeId} {x : Operand} {ad : Addr}
    (k : K a')
    (ho : o.op = .load ty x := by rfl) (hT0 : TAgg P ty 0 := by infer_instance) (ha : slot a x = some (.pointer (some ad)) := by rfl) (hput : Put a o.dst (.agg #[]) a' := by exact put_of (by conv => lhs; simp only [List.set_cons_succ, List.set_cons_zero])) : o.quiet P a C K :=
  quiet_run (fun _ _ => run_ldA ty x ho (eval_slot ha) (n := 0) (cs := []) rfl (by simp)) (hput.is ▸ k)

/-- A load of a byte out of a block of bytes. -/
theorem wpList_ld8 {w0 : World} {bs : List Nat} {L F : List Res} (S : St w0 bs w L) {a' : Act} {ty : TypeId} {x : Operand} {b i : Nat} {l : List UInt8} {T : TypeId} {fr : Nat × Nat}
    (k : wpList P ops Q rest a' w)
    (hw : Region.wanted o (yielded ops a.tmps) = true := by rfl) (ho : o.op = .load ty x := by rfl) (hT0 : TOne P ty := by infer_instance) (ha : slot a x = some (.pointer (some ⟨b, i, none⟩)) := by rfl)
    (hp : Pull (.blk b (.cells (u8s l).toArray T fr)) L F := by repeat (first | exact Pull.head | apply Pull.tail)) (hi : i < l.length := by (first | omega | (simp; omega))) (hput : Put a o.dst (.int .u8 ((l.getD i 0).toNat : Int)) a' := by exact put_of (by conv => lhs; simp only [List.set_cons_succ, List.set_cons_zero])) : wpList P ops Q (o :: rest) a w :=
  wpList_run hw (run_ld ty x ho (eval_slot ha) ((cell_at (S.blk hp)).trans (by simp [u8s, hi]))) (hput.is ▸ k)
theorem quiet_ld8 {w0 : World} {bs : List Nat} {L F : List Res} (S : St w0 bs w L) {K : Act → Prop} {a' : Act} {ty : TypeId} {x : Operand} {b i : Nat} {l : List UInt8} {T : TypeId} {fr : Nat × Nat}
    (k : K a')
    (ho : o.op = .load ty x := by rfl) (hT0 : TOne P ty := by infer_instance) (ha : slot a x = some (.pointer (some ⟨b, i, none⟩)) := by rfl)
    (hp : Pull (.blk b (.cells (u8s l).toArray T fr)) L F := by repeat (first | exact Pull.head | apply Pull.tail)) (hi : i < l.length := by (first | omega | (simp; omega))) (hput : Put a o.dst (.int .u8 ((l.getD i 0).toNat : Int)) a' := by exact put_of (by conv => lhs; simp only [List.set_cons_succ, List.set_cons_zero])) : o.quiet P a (fun w' => ∃ p : StW w w0 bs L, w' = p.w) K :=
  quiet_run (fun _ hS => have S := S.of hS; run_ld ty x ho (eval_slot ha) ((cell_at (S.blk hp)).trans (by simp [u8s, hi]))) (hput.is ▸ k)

/-! ### Stores -/
theorem run_st (ty : TypeId) (x y : Operand) (ho : o.op = .store ty x y) {ad : Addr} (ha : a.eval x = .pointer (some ad)) {v : Value} (hv : a.eval y = v) [h1 : TOne P ty] (hv1 : v.oneCell' = true) {u : Value} (hc : w.cell? ad = some u) (hf : w.frozen? ad = false) :
    (execOp a.eval o).run P w = .ok .skip (w.setCell ad v) := by
  have hcs : v.cells = #[v] := by cases v <;> first | rfl | (simp [Value.oneCell'] at hv1)
  simp [execOp, ho, ha, hv, Instr.storeAt, Instr.sureAddr, storeVar, h1.size, hcs, storeCells, Addr.add_zero', run_store P w ad v _ hv1, hc, hf]

theorem heap_set {w : World} {b i : Nat} {c : Array Value} {T : TypeId} {v : Value} (h : w.heap[b]? = some (.cells c T (0, 0))) : (w.setCell ⟨b, i, none⟩ v).heap[b]? = some (.cells (c.setIfInBounds i v) T (0, 0)) := by
  simp only [World.setCell, Array.getElem?_modify, h]
  simp

theorem St.setBlk {w0 : World} {bs : List Nat} {L L' : List Res} (S : St w0 bs w L) {b i : Nat} {c c' : Array Value} {T : TypeId} {v : Value}
    (hA : At (.blk b (.cells c T (0, 0))) (.blk b (.cells c' T (0, 0))) L L') (hc' : c.setIfInBounds i v = c') : St w0 bs (w.setCell ⟨b, i, none⟩ v) L' := by
  have hb : w.heap[b]? = some (.cells c T (0, 0)) := S.mem.2 _ hA.mem
  exact S.set hA (Chg.setCell w ⟨b, i, none⟩ v) (by subst hc'; exact heap_set hb) (by simp [Res.foot])

/-- A store into a block that is known. -/
theorem wpList_st {w0 : World} {bs : List Nat} {L L' : List Res} (S : St w0 bs w L) {ty : TypeId} {x y : Operand} {b i : Nat} {c c' : List Value} {T : TypeId} {v : Value}
    (k : ∀ w', St w0 bs w' L' → wpList P ops Q rest a w')
    (hw : Region.wanted o (yielded ops a.tmps) = true := by rfl) (ho : o.op = .store ty x y := by rfl) (hd : o.dst = none := by rfl) (hT0 : TOne P ty := by infer_instance) (ha : slot a x = some (.pointer (some ⟨b, i, none⟩)) := by rfl) (hv : slot a y = some v := by rfl)
    (hA : At (.blk b (.cells c.toArray T (0, 0))) (.blk b (.cells c'.toArray T (0, 0))) L L' := by repeat (first | exact At.head | apply At.tail))
    (hi : i < c.length := by (first | decide | (simp; done) | omega))
    (hc' : c.set i v = c' := by (conv => lhs; simp only [List.set_cons_succ, List.set_cons_zero]))
    (hv1 : v.oneCell' = true := by rfl) : wpList P ops Q (o :: rest) a w := by
  have hb : w.heap[b]? = some (.cells c.toArray T (0, 0)) := S.mem.2 _ hA.mem
  refine wpList_run_skip hw (run_st ty x y ho (eval_slot ha) (eval_slot hv) hv1 (u := c[i]) (by rw [cell_at hb]; simp [hi]) (frozen_at hb)) (by rw [hd]; exact k _ (S.setBlk hA (by subst hc'; simp)))

/-- A store of a byte into a block of bytes. -/
theorem wpList_st8 {w0 : World} {bs : List Nat} {L L' : List Res} (S : St w0 bs w L) {ty : TypeId} {x y : Operand} {b i : Nat} {l : List UInt8} {T : TypeId} {z : Int}
    (k : ∀ w', St w0 bs w' L' → wpList P ops Q rest a w')
    (hw : Region.wanted o (yielded ops a.tmps) = true := by rfl) (ho : o.op = .store ty x y := by rfl) (hd : o.dst = none := by rfl) (hT0 : TOne P ty := by infer_instance) (ha : slot a x = some (.pointer (some ⟨b, i, none⟩)) := by rfl) (hv : slot a y = some (.int .u8 z) := by rfl)
    (hA : At (.blk b (.cells (u8s l).toArray T (0, 0))) (.blk b (.cells (u8s (l.set i (UInt8.ofNat z.toNat))).toArray T (0, 0))) L L' := by repeat (first | exact At.head | apply At.tail))
    (hi : i < l.length := by (first | omega | (simp; omega)))
    (hz : 0 ≤ z ∧ z < 256 := by first | omega | (simp only [IntKind.wrap_u8]; omega))
    : wpList P ops Q (o :: rest) a w := by
  have hb : w.heap[b]? = some (.cells (u8s l).toArray T (0, 0)) := S.mem.2 _ hA.mem
  have hcc : (u8s l).toArray.setIfInBounds i (.int .u8 z) = (u8s (l.set i (UInt8.ofNat z.toNat))).toArray := by
    have hzz : ((UInt8.ofNat z.toNat).toNat : Int) = z := by rw [UInt8.toNat_ofNat']; omega
    simp only [List.setIfInBounds_toArray]
    congr 1
    simp only [u8s, List.map_set, hzz]
  refine wpList_run_skip hw (run_st ty x y ho (eval_slot ha) (eval_slot hv) rfl (u := .int .u8 ((l.getD i 0).toNat : Int)) (by rw [cell_at hb]; simp [u8s, hi]) (frozen_at hb)) (by rw [hd]; exact k _ (S.setBlk hA hcc))

/-! ### New blocks -/
theorem St.alloc {w0 : World} {bs : List Nat} {L : List Res} (S : St w0 bs w L) (ob : Obj) : St w0 bs (w.alloc ob) (.blk w.heap.size ob :: L) :=
  S.add (Chg.alloc w ob) (heap_alloc_new w ob) (by simp [Res.foot])

theorem wpList_box {w0 : World} {bs : List Nat} {L : List Res} {a' : Nat → Act} (S : St w0 bs w L) {ty : TypeId} {x : Operand} {v : Value} {cs : List Value}
    (k : ∀ n w', w0.heap.size ≤ n → St w0 bs w' (.blk n (.cells cs.toArray ty (0, 0)) :: L) → wpList P ops Q rest (a' n) w')
    (hw : Region.wanted o (yielded ops a.tmps) = true := by rfl) (ho : o.op = .box ty x := by rfl) (hv : slot a x = some v := by rfl) (hc : v.cells = cs.toArray := by rfl) (hput : ∀ n, Put a o.dst (.pointer (some ⟨n, 0, none⟩)) (a' n) := by (intro _; exact put_of (by conv => lhs; simp only [List.set_cons_succ, List.set_cons_zero]))) : wpList P ops Q (o :: rest) a w := by
  refine wpList_run hw (w' := w.alloc (.cells cs.toArray ty)) (v := .pointer (some ⟨w.heap.size, 0, none⟩)) ?_ (by rw [(hput _).is]; exact k _ _ S.chg.size (S.alloc _))
  simp [execOp, ho, Instr.box, newVar, newRow, (eval_slot hv), hc]

theorem wpList_alloc {w0 : World} {bs : List Nat} {L : List Res} {a' : Nat → Act} (S : St w0 bs w L) {ty : TypeId} {z : Value} {cs : List Value}
    (k : ∀ n w', w0.heap.size ≤ n → St w0 bs w' (.blk n (.cells cs.toArray ty (0, 0)) :: L) → wpList P ops Q rest (a' n) w')
    (hw : Region.wanted o (yielded ops a.tmps) = true := by rfl) (ho : o.op = .alloc ty := by rfl) (hz : TZero P ty z := by infer_instance) (hv : z.cells = cs.toArray := by rfl) (hput : ∀ n, Put a o.dst (.pointer (some ⟨n, 0, none⟩)) (a' n) := by (intro _; exact put_of (by conv => lhs; simp only [List.set_cons_succ, List.set_cons_zero]))) : wpList P ops Q (o :: rest) a w := by
  refine wpList_run hw (w' := w.alloc (.cells cs.toArray ty)) (v := .pointer (some ⟨w.heap.size, 0, none⟩)) ?_ (by rw [(hput _).is]; exact k _ _ S.chg.size (S.alloc _))
  simp [execOp, ho, Instr.alloc, newVar, newRow, hz.zero, hv]

/-- make([]T, l, c), each element of one cell. -/
theorem wpList_mk {w0 : World} {bs : List Nat} {L : List Res} (S : St w0 bs w L) {a' : Nat → Act} {ty e : TypeId} {x y : Operand} {z : Value} {bytes : Nat} {kl kc : IntKind} {l c : Int} {ln cn : Nat}
    (k : ∀ n w', w0.heap.size ≤ n → St w0 bs w' (.blk n (.cells (List.replicate cn z).toArray e (0, 0)) :: L) → wpList P ops Q rest (a' n) w')
    (hw : Region.wanted o (yielded ops a.tmps) = true := by rfl) (ho : o.op = .makeSlice ty x y := by rfl) (ht : TSlice P ty e := by infer_instance) (he : TElem P e z 1 bytes := by infer_instance)
    (hx : slot a x = some (.int kl l) := by rfl) (hy : slot a y = some (.int kc c) := by rfl) (hz1 : z.cells = #[z] := by rfl)
    (hln : l.toNat = ln := by (first | exact Int.toNat_natCast _ | rfl)) (hcn : c.toNat = cn := by (first | exact Int.toNat_natCast _ | rfl))
    (h0 : 0 ≤ l := by omega) (hlc : l ≤ c := by omega) (hb : bytes * c ≤ 281474976710656 := by omega) (h63 : c ≤ 9223372036854775807 := by omega)
    (hput : ∀ n, Put a o.dst (.slice (some ⟨n, 0, none⟩) ln cn) (a' n) := by (intro _; exact put_of (by conv => lhs; simp only [List.set_cons_succ, List.set_cons_zero]))) : wpList P ops Q (o :: rest) a w := by
  obtain ⟨i, hi, hz, hs, hby, hzs⟩ := he.is
  subst hby hln hcn
  have hr := run_make (P := P) w ty e i z ht.is hi hz kl kc l c h0 hlc hb h63
  have hcells : madeCells z.cells (c.toNat * i.size) = (List.replicate c.toNat z).toArray := by
    rw [hs, Nat.mul_one, hz1]
    apply Array.ext'
    rw [toList_madeCells_one z c.toNat]
  rw [hcells] at hr
  refine wpList_run hw (w' := w.alloc (.cells (List.replicate c.toNat z).toArray e)) (v := .slice (some ⟨w.heap.size, 0, none⟩) l.toNat c.toNat) ?_ (by rw [(hput _).is]; exact k _ _ S.chg.size (S.alloc _))
  simp [execOp, ho, eval_slot hx, eval_slot hy, hr]
theorem u8s_zeros (n : Nat) : u8s (List.replicate n 0) = List.replicate n (.int .u8 0) := by simp [u8s]
/-- make([]byte, l, c). -/
theorem wpList_mk8 {w0 : World} {bs : List Nat} {L : List Res} (S : St w0 bs w L) {a' : Nat → Act} {ty e : TypeId} {x y : Operand} {kl kc : IntKind} {l c : Int} {ln cn : Nat}
    (k : ∀ n w', w0.heap.size ≤ n → St w0 bs w' (.blk n (.cells (u8s (List.replicate cn 0)).toArray e (0, 0)) :: L) → wpList P ops Q rest (a' n) w')
    (hw : Region.wanted o (yielded ops a.tmps) = true := by rfl) (ho : o.op = .makeSlice ty x y := by rfl) (ht : TSlice P ty e := by infer_instance) (he : TElem P e (.int .u8 0) 1 1 := by infer_instance)
    (hx : slot a x = some (.int kl l) := by rfl) (hy : slot a y = some (.int kc c) := by rfl)
    (hln : l.toNat = ln := by (first | exact Int.toNat_natCast _ | rfl)) (hcn : c.toNat = cn := by (first | exact Int.toNat_natCast _ | rfl))
    (h0 : 0 ≤ l := by omega) (hlc : l ≤ c := by omega) (hb : 1 * c ≤ 281474976710656 := by omega) (h63 : c ≤ 9223372036854775807 := by omega)
    (hput : ∀ n, Put a o.dst (.slice (some ⟨n, 0, none⟩) ln cn) (a' n) := by (intro _; exact put_of (by conv => lhs; simp only [List.set_cons_succ, List.set_cons_zero]))) : wpList P ops Q (o :: rest) a w :=
  wpList_mk S (fun n w' hn S' => k n w' hn (by rw [u8s_zeros]; exact S')) hw ho ht he hx hy rfl hln hcn h0 hlc hb h63 hput

end
end Go.Vil
end
section
namespace Go.Vil
open Go Go.RowKit

section
variable {P : Program} {ops : Array Oper} {md : Region.Mode} {C : World → Prop}

/-- The first so many operations, in whatever order, each with one value in all worlds of the class; then L. -/
def anyHead (P : Program) (md : Region.Mode) (ops : Array Oper) (C : World → Prop) (n : Nat) (L : Array Bool → Act → Prop) : Nat → Array Bool → Act → Prop
  | 0, listed, a => L listed a
  | f + 1, listed, a => Region.ready md ops listed ≠ [] ∧ ∀ i ∈ Region.ready md ops listed, i < n ∧ qOp P ops C i (anyHead P md ops C n L f (listed.setIfInBounds i true)) a

theorem wpAny_of_anyHead {n g : Nat} {L : Array Bool → Act → Prop} {Q' : Exit → Act → World → Prop} (hL : ∀ listed a w, C w → L listed a → wpAny P md ops Q' g listed a w) :
    ∀ (f : Nat) (listed : Array Bool) (a : Act) (w : World), C w → anyHead P md ops C n L f listed a → wpAny P md ops Q' (f + g) listed a w
  | 0, listed, a, w, hw, h => by rw [Nat.zero_add]; exact hL _ _ _ hw h
  | f + 1, listed, a, w, hw, h => by
    rw [show f + 1 + g = (f + g) + 1 by omega]
    exact ⟨fun h0 => absurd h0 h.1, fun i hi => wpOp_of_qOp hw (fun a' w' hw' h' => wpAny_of_anyHead hL f _ a' w' hw' h') (h.2 i hi).2⟩

theorem anyHead_first {n i : Nat} {oi : Oper} {v : Value} {L : Array Bool → Act → Prop} (hi : ops[i]? = some oi) (hsel : ∀ (j : Nat) (o : Oper) cs b, ops[j]? = some o → o.op ≠ .select cs b)
    (hs : Region.sinkB md ops n = true) (hc : Region.chainB md ops n = true) (hn : n < ops.size) (hin : i < n)
    (hdone : ∀ listed a, L listed a → ∀ j ∈ Region.ready md ops listed, n ≤ j) :
    ∀ (f : Nat) (listed : Array Bool) (a : Act), HeadInv md ops n listed →
      (∀ j oj, ops[j]? = some oj → j ≠ i → listed.getD j true = false → (∀ e ∈ oj.after, Region.binds md e = true → e.on ≠ i) → oi.apart ops oj = true) →
      i ∈ Region.ready md ops listed → YieldsIn P ops C oi v a →
      anyHead P md ops C n L f (listed.setIfInBounds i true) (a.put oi.dst v) → anyHead P md ops C n L (f + 1) listed a := by
  intro f
  induction f with
  | zero =>
    intro listed a inv _ hr hy H
    have hun := (mem_ready.1 hr).1
    refine ⟨fun h => (by rw [h] at hr; cases hr), fun j hj => ?_⟩
    have hjn : j < n := by
      rcases Nat.lt_or_ge j n with h | h
      · exact h
      · exact absurd hj (tail_waits hs hc hn inv _ i rfl hin hun j h)
    refine ⟨hjn, ?_⟩
    by_cases hji : j = i
    · subst hji; exact hy.qOp hi H
    · have := hdone _ _ H j (ready_mono hj hji)
      omega
  | succ f ih =>
    intro listed a inv hfree hr hy H
    have hun := (mem_ready.1 hr).1
    refine ⟨fun h => (by rw [h] at hr; cases hr), fun j hj => ?_⟩
    have hjn : j < n := by
      rcases Nat.lt_or_ge j n with h | h
      · exact h
      · exact absurd hj (tail_waits hs hc hn inv _ i rfl hin hun j h)
    refine ⟨hjn, ?_⟩
    by_cases hji : j = i
    · subst hji; exact hy.qOp hi H
    · have h1 := (H.2 j (ready_mono hj hji)).2
      obtain ⟨hjun, oj, hoj, hall⟩ := mem_ready.1 hj
      have hnot : ∀ e ∈ oj.after, Region.binds md e = true → e.on ≠ i := fun e he hb heq => by
        have h1 := hall e he hb
        rw [heq, getD_both hun] at h1
        cases h1
      have h2 := qOp_put hoj (hfree j oj hoj hji hjun hnot) (fun cs b => hsel i oi cs b hi) (fun cs b => hsel j oj cs b hoj) hy h1
      have hfree' : ∀ k ok, ops[k]? = some ok → k ≠ i → (listed.setIfInBounds j true).getD k true = false →
          (∀ e ∈ ok.after, Region.binds md e = true → e.on ≠ i) → oi.apart ops ok = true := fun k ok hk hki hun hno => by
        refine hfree k ok hk hki ?_ hno
        by_cases hjk : j = k
        · subst hjk; exact hjun
        · rw [getD_set_ne true hjk] at hun; exact hun
      refine qOp_mono (fun a' h3 => ih (listed.setIfInBounds j true) a' (inv.set hj hjn) hfree' (ready_mono hr (Ne.symm hji)) h3.1 ?_) h2
      rw [Array.setIfInBounds_comm _ _ hji]
      exact h3.2

theorem anyHead_lex {n g : Nat} {Lq : Act → Prop} (hsel : Region.noSelect ops = true) (hs : Region.sinkB md ops n = true) (hc : Region.chainB md ops n = true) (hn : n < ops.size) :
    ∀ (l : List Oper) (k : Nat) (listed : Array Bool) (a : Act), (∀ j, j < l.length → l[j]? = ops[k + j]?) → k + l.length = n → HeadInv md ops n listed →
    Region.lexHead md ops g l.length k listed = true → wpQuiet P ops C Lq l a →
    anyHead P md ops C n (fun listed' a' => Region.seqB md ops g n listed' = true ∧ Lq a') l.length listed a
  | [], k, listed, a, _, hk, _, hB, h => by
    have : k = n := by simpa using hk
    subst this
    exact ⟨by simpa [Region.lexHead] using hB, h⟩
  | o :: l, k, listed, a, hl, hk, inv, hB, h => by
    have h0 : ops[k]? = some o := by simpa using (hl 0 (by simp)).symm
    simp only [List.length_cons, Region.lexHead, Bool.and_eq_true] at hB
    obtain ⟨⟨hr, hf⟩, hB'⟩ := hB
    have hkn : k < n := by simp only [List.length_cons] at hk; omega
    have hr' : k ∈ Region.ready md ops listed := by simpa using hr
    have hst : qOp P ops C k (wpQuiet P ops C Lq l) a := by unfold qOp; simp only [h0]; exact h
    obtain ⟨v, hy, hK⟩ := yieldsIn_of_qOp h0 hst
    exact anyHead_first h0 (Region.noSelect_spec hsel) hs hc hn hkn (fun listed' a' hL => seqB_ready hL.1) l.length listed a inv (Region.free_spec h0 hf) hr' hy
      (anyHead_lex hsel hs hc hn l (k + 1) _ _ (fun j hj => by have := hl (j + 1) (by simp; omega); simpa [Nat.add_assoc, Nat.add_comm 1 j] using this) (by simp only [List.length_cons] at hk; omega) (inv.set hr' hkn) hB' hK)

theorem wpQuiet_mono {Q Q' : Act → Prop} (hq : ∀ a, Q a → Q' a) : ∀ (l : List Oper) (a : Act), wpQuiet P ops C Q l a → wpQuiet P ops C Q' l a
  | [], a, h => hq a h
  | o :: l, a, h => by
    unfold wpQuiet at h ⊢
    split
    · rename_i hw; rw [if_pos hw] at h; exact Oper.quiet_mono (fun a' h' => wpQuiet_mono hq l a' h') h
    · rename_i hw; rw [if_neg hw] at h; exact wpQuiet_mono hq l _ h

/-- The head reads, in every world of the class; what is behind it is done in the order of the text. -/
theorem wp_region_qtail {id : Nat} {Q : Exit → Act → World → Prop} {a : Act} {w : World} {l : List Oper} (n : Nat) (hm : P.follows .mixedOrders = true) (hB : Region.lexTailB .any l.toArray n = true) (hC : C { w with drawn := w.drawn + 1 })
    (h : wpQuiet P l.toArray C (fun a' => ∀ w', C w' → wpList P l.toArray Q (l.drop n) a' w') (l.take n) a) : (Code.region id l.toArray true).wp P Q a w := by
  simp only [Region.lexTailB, Bool.and_eq_true, decide_eq_true_eq] at hB
  obtain ⟨⟨⟨⟨hsel, hn⟩, hs⟩, hc⟩, hlex⟩ := hB
  have hn' : n < l.length := by simpa using hn
  have htl : (l.take n).length = n := by simp; omega
  have hdl : (l.drop n).length = l.toArray.size - n := by simp
  have inv0 : HeadInv .any l.toArray n (Array.replicate l.toArray.size false) :=
    ⟨by simp, fun j oj _ hl => (by rw [getD_replicate_false] at hl; cases hl), fun t _ ht => getD_in (by simpa using ht) (getD_replicate_false _ _)⟩
  have H := anyHead_lex (C := C) (md := .any) (g := l.toArray.size - n) hsel hs hc hn (l.take n) 0 _ a (fun j hj => by
    have hj' : j < n := by rw [htl] at hj; exact hj
    simp [hj']) (by simpa using htl) inv0 (by rw [htl]; exact hlex) h
  refine wp_region_any hm ?_
  have := wpAny_of_anyHead (Q' := Q) (g := l.toArray.size - n) (fun listed a' w' hw' hL => by
    have := wpAny_of_seq (md := .any) (Q' := Q) (l.drop n) n listed a' w' (fun j => by simp [List.getElem?_drop]) (by rw [hdl]; exact hL.1) (hL.2 w' hw')
    rwa [hdl] at this) _ _ _ _ hC H
  rw [htl, show n + (l.toArray.size - n) = l.toArray.size by omega] at this
  exact this

/-- All of it reads. -/
theorem wp_region_qall {id : Nat} {Q : Exit → Act → World → Prop} {a : Act} {w : World} {l : List Oper} (hm : P.follows .mixedOrders = true) (hB : Region.lexB .any l.toArray = true) (hC : C { w with drawn := w.drawn + 1 })
    (h : wpQuiet P l.toArray C (fun a' => ∀ w', C w' → Q .normal a' w') l a) : (Code.region id l.toArray true).wp P Q a w :=
  wp_region_quiet (C := C) hm hB hC (by simpa using h)
end

/-- A region that draws, its head walked over the things that are there. -/
theorem St.region {P : Program} {id : Nat} {Q : Exit → Act → World → Prop} {a : Act} {w w0 : World} {bs : List Nat} {L : List Res} {l : List Oper} (S : St w0 bs w L) (n : Nat) (hm : P.follows .mixedOrders = true) (hB : Region.lexTailB .any l.toArray n = true)
    (h : wpQuiet P l.toArray (fun w' => ∃ p : StW w w0 bs L, w' = p.w) (fun a' => ∀ w', St w0 bs w' L → wpList P l.toArray Q (l.drop n) a' w') (l.take n) a) : (Code.region id l.toArray true).wp P Q a w := by
  refine wp_region_qtail (C := fun w' => ∃ p : StW w w0 bs L, w' = p.w) n hm hB (S.drew.inSt w) (wpQuiet_mono (fun _ h' w' hw' => h' w' (S.of hw')) _ _ h)
/-- All but the last, and the last. -/
inductive Snoc : List Oper → List Oper → Oper → Prop
  | one {o : Oper} : Snoc [o] [] o
  | more {o x : Oper} {l p : List Oper} : Snoc l p o → Snoc (x :: l) (x :: p) o
theorem Snoc.eq {l p : List Oper} {o : Oper} (h : Snoc l p o) : l = p ++ [o] := by
  induction h with
  | one => rfl
  | more _ ih => rw [ih]; rfl
/-- The same with the last operation as the tail. -/
theorem St.regionLast {P : Program} {id : Nat} {Q : Exit → Act → World → Prop} {a : Act} {w w0 : World} {bs : List Nat} {L : List Res} {l p : List Oper} {o : Oper} (S : St w0 bs w L)
    (h : wpQuiet P l.toArray (fun w' => ∃ p : StW w w0 bs L, w' = p.w) (fun a' => ∀ w', St w0 bs w' L → wpList P l.toArray Q [o] a' w') p a)
    (hs : Snoc l p o := by repeat (first | exact Snoc.one | apply Snoc.more))
    (hm : P.follows .mixedOrders = true := by kernel_rfl) (hB : Region.lexTailB .any l.toArray (l.length - 1) = true := by kernel_rfl) : (Code.region id l.toArray true).wp P Q a w := by
  have e := hs.eq
  refine St.region S (l.length - 1) hm hB ?_
  have h1 : l.take (l.length - 1) = p := by rw [e]; simp
  have h2 : l.drop (l.length - 1) = [o] := by rw [e]; simp
  rw [h1, h2]
  exact h
theorem St.regionAll {P : Program} {id : Nat} {Q : Exit → Act → World → Prop} {a : Act} {w w0 : World} {bs : List Nat} {L : List Res} {l : List Oper} (S : St w0 bs w L)
    (h : wpQuiet P l.toArray (fun w' => ∃ p : StW w w0 bs L, w' = p.w) (fun a' => ∀ w', St w0 bs w' L → Q .normal a' w') l a) (hm : P.follows .mixedOrders = true := by kernel_rfl) (hB : Region.lexB .any l.toArray = true := by kernel_rfl) : (Code.region id l.toArray true).wp P Q a w :=
  wp_region_qall (C := fun w' => ∃ p : StW w w0 bs L, w' = p.w) hm hB (S.drew.inSt w) (wpQuiet_mono (fun _ h' w' hw' => h' w' (S.of hw')) _ _ h)

end Go.Vil
end
section
namespace Go.Vil
open Go Go.RowKit
set_option linter.unusedSimpArgs false
set_option linter.unusedVariables false

theorem retI {k : IntKind} {a b : Int} (h : a = b) : Ending.returned (.int k a) = .returned (.int k b) := by rw [h]
theorem retB {a b : Bool} (h : a = b) : Ending.returned (.bool a) = .returned (.bool b) := by rw [h]
theorem hidden {p : Prop} (h : p) : Hid p := h

/-! ### Slices written out -/
theorem foldl_set (off : Nat) : ∀ (l : List Value) (k : Nat) (cs : Array Value), off + k + l.length ≤ cs.size →
    ((l.zipIdx k).foldl (fun (cs : Array Value) (x : Value × Nat) => cs.setIfInBounds (off + x.2) x.1) cs).toList = splice cs.toList (off + k) l
  | [], k, cs, _ => by simp [splice_nil]
  | v :: l, k, cs, h => by
    simp only [List.zipIdx_cons, List.foldl_cons]
    rw [foldl_set off l (k + 1) _ (by simp at h ⊢; omega)]
    simp only [Array.toList_setIfInBounds]
    rw [set_one _ _ _ (by simp at h ⊢; omega)]
    have := splice_splice cs.toList (off + k) [v] l (by simp at h ⊢; omega)
    simpa [Nat.add_assoc] using this

theorem flat_length (size : Nat) : ∀ (vs : List Value), (∀ v ∈ vs, v.cells.size = size) → (vs.flatMap fun v => v.cells.toList).length = vs.length * size
  | [], _ => by simp
  | v :: vs, h => by
    have h1 := h v List.mem_cons_self
    have h2 := flat_length size vs (fun x hx => h x (List.mem_cons_of_mem _ hx))
    rw [List.flatMap_cons, List.length_append, h2, List.length_cons, Nat.add_mul]
    simp [h1]; omega

theorem fill_full (size : Nat) : ∀ (vs : List Value) (k : Nat) (cur : Array Value), (∀ v ∈ vs, v.cells.size = size) → k * size + vs.length * size ≤ cur.size →
    Instr.fill (fun i => some (i * size, size)) cur ((vs.zipIdx k).map fun x => (x.2, x.1)) = some (splice cur.toList (k * size) (vs.flatMap fun v => v.cells.toList)).toArray
  | [], k, cur, _, _ => by simp [Instr.fill, splice_nil]
  | v :: vs, k, cur, hv, h => by
    have h1 := hv v List.mem_cons_self
    have hk : (k + 1) * size = k * size + size := by rw [Nat.add_mul]; simp
    have hvs : (vs.length + 1) * size = vs.length * size + size := by rw [Nat.add_mul]; simp
    simp only [List.length_cons, hvs] at h
    have hf := foldl_set (k * size) v.cells.toList 0 cur (by simp [h1]; omega)
    simp only [Nat.add_zero] at hf
    have hz : v.cells.zipIdx.foldl (fun cs x => cs.setIfInBounds (k * size + x.2) x.1) cur = (splice cur.toList (k * size) v.cells.toList).toArray := by
      apply Array.ext'
      rw [← hf, ← Array.foldl_toList]
      simp
    have hl := flat_length size vs (fun x hx => hv x (List.mem_cons_of_mem _ hx))
    have hs := splice_splice cur.toList (k * size) v.cells.toList (vs.flatMap fun v => v.cells.toList) (by simp only [Array.length_toList, h1, hl]; omega)
    have hlen : (splice cur.toList (k * size) v.cells.toList).length = cur.size := by rw [splice_length _ _ _ (by simp [h1]; omega)]; simp
    have ih := fill_full size vs (k + 1) (splice cur.toList (k * size) v.cells.toList).toArray (fun x hx => hv x (List.mem_cons_of_mem _ hx)) (by
      simp only [List.size_toArray, hlen]
      omega)
    simp only [List.zipIdx_cons, List.map_cons, Instr.fill, h1]
    have hc : (decide (size ≠ size) || decide (k * size + size > cur.size)) = false := by simp; omega
    rw [hc]
    simp only [Bool.false_eq_true, if_false, hz, ih]
    simp only [hk]
    rw [show k * size + size = k * size + v.cells.toList.length by simp [h1], hs]
    simp

/-- The values of some operands. -/
def slots (a : Act) : List (Nat × Operand) → Option (List Value)
  | [] => some []
  | (_, x) :: l => match slot a x, slots a l with
    | some v, some vs => some (v :: vs)
    | _, _ => none
def countUp : Nat → List (Nat × Operand) → Bool
  | _, [] => true
  | k, (i, _) :: l => i == k && countUp (k + 1) l
theorem slots_eq {a : Act} : ∀ {l : List (Nat × Operand)} {k : Nat} {vs : List Value}, slots a l = some vs → countUp k l = true → l.map (fun (i, x) => (i, a.eval x)) = (vs.zipIdx k).map fun x => (x.2, x.1)
  | [], k, vs, h, _ => by simp only [slots, Option.some.injEq] at h; subst h; rfl
  | (i, x) :: l, k, vs, h, hc => by
    simp only [slots] at h
    simp only [countUp, Bool.and_eq_true, beq_iff_eq] at hc
    cases hx : slot a x with
    | none => simp [hx] at h
    | some v =>
      cases hl : slots a l with
      | none => simp [hx, hl] at h
      | some us =>
        simp only [hx, hl, Option.some.injEq] at h
        subst h
        have := slots_eq hl hc.2
        simp only [List.map_cons, List.zipIdx_cons, this, eval_slot hx, hc.1]

def allSize (size : Nat) : List Value → Bool
  | [] => true
  | v :: l => v.cells.size == size && allSize size l
theorem allSize_spec {size : Nat} : ∀ {l : List Value}, allSize size l = true → ∀ v ∈ l, v.cells.size = size
  | [], _, v, h => by cases h
  | u :: l, hs, v, h => by
    simp only [allSize, Bool.and_eq_true, beq_iff_eq] at hs
    cases h with
    | head => exact hs.1
    | tail _ h => exact allSize_spec hs.2 v h

theorem splice_all {α : Type} (l xs : List α) (h : xs.length = l.length) : splice l 0 xs = xs := by
  simp [splice, h]

section
variable {P : Program} {ops : Array Oper} {Q : Exit → Act → World → Prop} {rest : List Oper} {o : Oper} {a : Act} {w w' : World}

/-- []T{x, y, ..}. -/
theorem wpList_bs {w0 : World} {bs : List Nat} {L : List Res} (S : St w0 bs w L) {a' : Nat → Act} {ty e : TypeId} {len : Nat} {parts : List (Nat × Operand)} {z : Value} {size bytes : Nat} {vs cs : List Value}
    (k : ∀ n w', w0.heap.size ≤ n → St w0 bs w' (.blk n (.cells cs.toArray e (0, 0)) :: L) → wpList P ops Q rest (a' n) w')
    (hw : Region.wanted o (yielded ops a.tmps) = true := by rfl) (ho : o.op = .buildSlice ty len parts.toArray := by rfl) (ht : TSlice P ty e := by infer_instance) (he : TElem P e z size bytes := by infer_instance)
    (hv : slots a parts = some vs := by rfl) (hc : countUp 0 parts = true := by rfl) (hn : vs.length = len := by rfl) (hs : allSize size vs = true := by rfl) (hcs : vs.flatMap (fun v => v.cells.toList) = cs := by conv => lhs; simp only [List.flatMap_cons, List.flatMap_nil, Value.cells, List.cons_append, List.nil_append, List.append_nil]) (hb : len * size ≤ 16777216 := by decide)
    (hput : ∀ n, Put a o.dst (.slice (some ⟨n, 0, none⟩) len len) (a' n) := by (intro _; exact put_of (by conv => lhs; simp only [List.set_cons_succ, List.set_cons_zero]))) : wpList P ops Q (o :: rest) a w := by
  refine wpList_run hw (w' := w.alloc (.cells cs.toArray e)) (v := .slice (some ⟨w.heap.size, 0, none⟩) len len) ?_ (by rw [(hput _).is]; exact k _ _ S.chg.size (S.alloc _))
  obtain ⟨i, hi, hz, hsz, hby, hzs⟩ := he.is
  have hcl : cs.length = len * size := by rw [← hcs, flat_length size vs (allSize_spec hs), hn]
  have hp : (parts.toArray.map fun (i, x) => (i, a.eval x)).toList = (vs.zipIdx 0).map fun x => (x.2, x.1) := by
    rw [← slots_eq hv hc]; simp
  have hfill : ∀ cur : Array Value, cur.size = len * size → Instr.fill (fun i => some (i * size, size)) cur ((vs.zipIdx 0).map fun x => (x.2, x.1)) = some cs.toArray := by
    intro cur hcur
    rw [fill_full size vs 0 cur (allSize_spec hs) (by rw [hn, hcur]; omega), hcs]
    simp only [Nat.zero_mul]
    rw [splice_all _ _ (by simp [hcl, hcur])]
  have hb' : ¬ (16777216 < len * size) := by omega
  subst hsz
  by_cases h0 : len * i.size = 0
  · simp [execOp, ho, Instr.buildSlice, run_underlying ht.is, sizeOf, typeInfo, hi, h0, newRow] at hp ⊢
    rw [hp, hfill _ (by simp [h0])]
    simp
  · simp [execOp, ho, Instr.buildSlice, run_underlying ht.is, sizeOf, typeInfo, hi, hb', zeroValue, hz, h0, newRow] at hp ⊢
    rw [hp, hfill _ (by simp)]
    simp

/-! ### Sources of appends and copies -/
/-- A slice or a string that reads as cells: n elements. -/
def Src (w : World) (size : Nat) (v : Value) (n : Nat) (xs : List Value) : Prop :=
  xs.length = n * size ∧ (∀ u ∈ xs, u.oneCell' = true) ∧
  match v with
  | .slice (some ad) m _ => m = n ∧ ∀ j u, xs[j]? = some u → w.cell? (ad.add j) = some u
  | .slice none m _ => m = n ∧ xs = []
  | .string s => size = 1 ∧ xs = u8s s.data.toList
  | _ => False

theorem Src.string (w : World) (s : ByteArray) : Src w 1 (.string s) s.size (u8s s.data.toList) := ⟨by simp, u8s_one _, rfl, rfl⟩
theorem Src.nil (w : World) (size c : Nat) : Src w size (.slice none 0 c) 0 [] := ⟨by simp, by simp, rfl, rfl⟩
theorem Src.cells {w : World} {size n c : Nat} {ad : Addr} {xs : List Value} (hl : xs.length = n * size) (h1 : ∀ u ∈ xs, u.oneCell' = true) (h : ∀ j u, xs[j]? = some u → w.cell? (ad.add j) = some u) : Src w size (.slice (some ad) n c) n xs := ⟨hl, h1, rfl, h⟩

theorem Src.lenOf {size : Nat} {v : Value} {n : Nat} {xs : List Value} (h : Src w size v n xs) (hs : v = v) : (Builtin.lenOf v).run P w' = .ok n w' := by
  obtain ⟨hl, _, hm⟩ := h
  match v, hm with
  | .slice (some ad) m c, ⟨e, _⟩ => subst e; simp [Builtin.lenOf]
  | .slice none m c, ⟨e, _⟩ => subst e; simp [Builtin.lenOf]
  | .string s, ⟨e, hx⟩ =>
    subst e hx
    have : s.size = n := by simpa using hl
    simp [Builtin.lenOf, this]

theorem Src.first {size : Nat} {v : Value} {n : Nat} {xs : List Value} (h : Src w size v n xs) (hc : ∀ ad x, w.cell? ad = some x → w'.cell? ad = some x) (k : Nat) (hk : k ≤ n) : (Builtin.firstCells size k v).run P w' = .ok (xs.take (k * size)).toArray w' := by
  obtain ⟨hl, _, hm⟩ := h
  have hks : k * size ≤ n * size := Nat.mul_le_mul_right _ hk
  match v, hm with
  | .slice (some ad) m c, ⟨e, hx⟩ =>
    have := run_loadCells_list (P := P) w' ad (xs.take (k * size)) (fun j u hu => by
      rw [List.getElem?_take] at hu
      split at hu
      · exact hc _ _ (hx j u hu)
      · cases hu)
    rw [List.length_take, show min (k * size) xs.length = k * size by omega] at this
    simp [Builtin.firstCells, this]
  | .slice none m c, ⟨e, hx⟩ => subst hx; simp [Builtin.firstCells]
  | .string s, ⟨e, hx⟩ =>
    subst e hx
    simp only [Builtin.firstCells, Sem.run_pure]
    congr 1
    apply Array.ext'
    have hsz : s.size = n := by simpa using hl
    simp only [Nat.mul_one, u8s, Array.toList_map]
    rw [← List.map_take]
    congr 1
    simp [ByteArray.data_extract]

/-! ### Append to a row that the call owns -/
theorem run_append_row {t tx ty e : TypeId} {z : Value} {size bytes : Nat} [ht : TSlice P t e] [hx : TRow P tx] [he : TElem P e z size bytes] (hsz : 0 < size) {v : Value} {n : Nat} {xs : List Value} (hown : w.ownsRow 0 e size v n xs)
    {sv : Value} {m : Nat} {news : List Value} (hs : Src w size sv m news) (h63 : n + m ≤ maxLen) (hbytes : (n + m) * bytes ≤ 140737488355328) :
    ∃ v' w', (Builtin.append_ #[t, tx] ty #[v, sv]).run P w = .ok v' w' ∧ w'.ownsRow 0 e size v' (n + m) (xs ++ news) ∧ w.grownBy w' v.ownBlock ∧ (∀ b, v'.ownBlock = some b → v.ownBlock = some b ∨ w.heap.size ≤ b) ∧ (v' = .slice none 0 0 ↔ n + m = 0 ∧ v = .slice none 0 0) := by
  obtain ⟨i, hi, hz, hsize, hby, hzs⟩ := he.is
  obtain ⟨d, hd, hdi⟩ := hx.is
  subst hsize hby
  have hsmall : n + m ≤ 9223372036854775807 := by simp only [maxLen] at h63; omega
  have hlen : (xs ++ news).length = (n + m) * i.size := by rw [List.length_append, hown.1, hs.1, Nat.add_mul]
  have hnl : (Builtin.lenOf sv).run P w = .ok m w := hs.lenOf (w' := w) rfl
  have hzero : (match d with | .int _ => true | _ => false) = false := by
    cases d <;> first | rfl | exact absurd rfl (hdi _)
  have hnf : ∀ w', (∀ ad x, w.cell? ad = some x → w'.cell? ad = some x) → (Builtin.firstCells i.size m sv).run P w' = .ok news.toArray w' := fun w' hc => by
    have := hs.first (P := P) hc m (Nat.le_refl _)
    rwa [List.take_of_length_le (by rw [hs.1]; exact Nat.le_refl _)] at this
  have hn1 := hnf w (fun _ _ h => h)
  have hn2 := hnf w.drew (fun _ _ h => h)
  have grown : ∀ (old : Nat), old < n + m → ∀ (row : Option Nat),
      (w.drew.alloc (.cells (xs.toArray ++ news.toArray ++ Builtin.zeroCells z.cells (grownCap w (n + m) old e - (n + m))) e)).ownsRow 0 e i.size
        (.slice (some ⟨w.heap.size, 0, none⟩) (n + m) (grownCap w (n + m) old e)) (n + m) (xs ++ news) ∧
      w.grownBy (w.drew.alloc (.cells (xs.toArray ++ news.toArray ++ Builtin.zeroCells z.cells (grownCap w (n + m) old e - (n + m))) e)) row := by
    intro old ho row
    have hge := grownCap_ge w (n + m) old e
    have hcm : grownCap w (n + m) old e ≤ maxLen := grownCap_le_maxLen w (n + m) old e h63
    refine ⟨⟨hlen, .inr ⟨w.heap.size, _, _, rfl, Nat.zero_le _, heap_alloc_new w.drew _, hge, hcm, ?_, ?_⟩⟩, ⟨rfl, rfl, rfl, by simp, fun k hk _ => Below.heap_alloc w.drew _ k hk⟩⟩
    · simp only [Array.size_append, List.size_toArray, size_zeroCells, hzs, hown.1, hs.1, ← Nat.add_mul]
      congr 1
      omega
    · simp only [Array.toList_append, List.append_assoc]
      rw [← List.append_assoc, ← hlen]
      exact List.take_left
  rcases hown.2 with ⟨rfl, rfl⟩ | ⟨g, cap, cur, rfl, hbg, hg, hnc, hcm, hcs, htake⟩
  · have hx0 : xs = [] := List.eq_nil_of_length_eq_zero (by simpa using hown.1)
    subst hx0
    by_cases hm : m = 0
    · subst hm
      have hn : news = [] := List.eq_nil_of_length_eq_zero (by simpa using hs.1)
      subst hn
      refine ⟨.slice none 0 0, w, ?_, World.ownsRow_nil w 0 e i.size, ⟨rfl, rfl, rfl, Nat.le_refl _, fun _ _ _ => rfl⟩, by simp [Value.ownBlock], by simp⟩
      simp [Builtin.append_, run_underlying ht.is, run_underlying hd, sizeOf, typeInfo, hi, hnl, hn1, hzero]
    · have hm0 : ¬ m = 0 := hm
      have h63' : ¬ (9223372036854775807 < (m : Int)) := by omega
      have h48' : ¬ (281474976710656 < Builtin.nextslicecap m 0 * i.bytes) := by rw [nextslicecap_zero (by omega)]; simp only [Nat.zero_add] at hbytes; omega
      have hgr := grown 0 (by omega) (Value.ownBlock (.slice none 0 0))
      simp only [Nat.zero_add, List.nil_append] at hgr
      refine ⟨_, _, ?_, by simpa using hgr.1, by simpa using hgr.2, fun b hb => by simp only [Value.ownBlock, Option.some.injEq] at hb; subst hb; exact .inr (Nat.le_refl _), by simp [hm0]⟩
      simp [Builtin.append_, run_underlying ht.is, run_underlying hd, sizeOf, typeInfo, zeroValue, hi, hz, hnl, hm0, h63', h48', hzero, Question.forced, run_firstCells_none, hn2, newRow, grownCap]
  · by_cases hroom : n + m ≤ cap
    · have hfit : n * i.size + news.length ≤ cur.size := by rw [hs.1, hcs, ← Nat.add_mul]; exact Nat.mul_le_mul_right _ hroom
      have hst := run_storeCells_at P g (n * i.size) e news 0 cur w hg (by simpa using hfit) hs.2.1
      simp only [Nat.add_zero] at hst
      refine ⟨.slice (some ⟨g, 0, none⟩) (n + m) cap, w.setRow g (cur.toList.take (n * i.size) ++ news ++ cur.toList.drop (n * i.size + news.length)).toArray, ?_, ⟨hlen, .inr ⟨g, cap, _, rfl, hbg, setRow_heap w g cur _ e _ hg, hroom, hcm, ?_, ?_⟩⟩,
        ⟨rfl, rfl, rfl, by simp, fun k _ hk => setRow_other w g k _ (fun e => hk (by simp [Value.ownBlock, e]))⟩, fun b hb => .inl hb, by simp⟩
      · simp [Builtin.append_, run_underlying ht.is, run_underlying hd, sizeOf, typeInfo, hi, hnl, hroom, hn1, hzero, Addr.add_lit, hst]
      · simp only [List.size_toArray, List.length_append, List.length_take, List.length_drop, Array.length_toList]
        omega
      · rw [htake, ← hlen]
        exact List.take_left
    · have holds : ∀ j u, xs[j]? = some u → w.cell? ((⟨g, 0, none⟩ : Addr).add j) = some u := hown.cells (g := g) rfl
      have hold := run_firstCells_some (P := P) w.drew i.size n ⟨g, 0, none⟩ n cap xs hown.1 (by simpa using holds)
      have hnr : ¬ (n + m ≤ cap) := hroom
      have h63' : ¬ (9223372036854775807 < ((n : Int) + (m : Int))) := by omega
      have h48' : ¬ (281474976710656 < Builtin.nextslicecap (n + m) cap * i.bytes) := by have := growslice_fits (bytes := i.bytes) (show cap < n + m by omega) hbytes; omega
      have hgr := grown cap (by omega) (Value.ownBlock (.slice (some ⟨g, 0, none⟩) n cap))
      refine ⟨_, _, ?_, hgr.1, hgr.2, fun b hb => by simp only [Value.ownBlock, Option.some.injEq] at hb; subst hb; exact .inr (Nat.le_refl _), by simp⟩
      simp [Builtin.append_, run_underlying ht.is, run_underlying hd, sizeOf, typeInfo, zeroValue, hi, hz, hnl, hnr, h63', h48', hzero, Question.forced, hn2, hold, newRow, grownCap]
      congr 2
      apply Array.ext'
      simp


/-- append(x, y...): x a row of the call's own. -/
theorem wpList_app {w0 : World} {bs : List Nat} {L F : List Res} (S : St w0 bs w L) {sv : Value} {m : Nat} {news : List Value} {size : Nat} (hs : Src w size sv m news) {a' : Value → Act} {x y : Operand} {t tx e : TypeId} {z : Value} {bytes n : Nat} {v : Value} {xs : List Value}
    (k : ∀ v' w', (v' = .slice none 0 0 ↔ n + m = 0 ∧ v = .slice none 0 0) → St w0 bs w' (.row e size v' (n + m) (xs ++ news) :: F) → wpList P ops Q rest (a' v') w')
    (hw : Region.wanted o (yielded ops a.tmps) = true := by rfl) (ho : o.op = .call { callee := .builtin .append, args := #[x, y], argTypes := #[t, tx] } := by rfl)
    (ht : TSlice P t e := by infer_instance) (htx : TRow P tx := by infer_instance) (he : TElem P e z size bytes := by infer_instance)
    (hx : slot a x = some v := by rfl) (hy : slot a y = some sv := by rfl)
    (hp : Pull (.row e size v n xs) L F := by repeat (first | exact Pull.head | apply Pull.tail)) (hsz : 0 < size := by decide)
    (h63 : n + m ≤ maxLen := by (unfold maxLen; first | omega | (simp; omega))) (hb : (n + m) * bytes ≤ 140737488355328 := by first | omega | (simp; omega))
    (hput : ∀ v', Put a o.dst v' (a' v') := by (intro _; exact put_of (by conv => lhs; simp only [List.set_cons_succ, List.set_cons_zero]))) : wpList P ops Q (o :: rest) a w := by
  have hown : w.ownsRow 0 e size v n xs := S.mem.2 _ hp.mem
  obtain ⟨v', w', hr, h1, h2, h3, h4⟩ := run_append_row (P := P) (w := w) (t := t) (tx := tx) (ty := o.type) hsz hown hs h63 hb
  have S' : St w0 bs w' (.row e size v' (n + m) (xs ++ news) :: F) := (S.perm hp.perm).set .head (Chg.grown h2) h1 h3
  refine wpList_run hw (w' := w') (v := v') ?_ (by rw [(hput _).is]; exact k _ _ h4 S')
  simp [execOp, ho, resolve, invoke, builtin, eval_slot hx, eval_slot hy, hr]

/-- What a block that is known whole is as a source. -/
theorem St.src {w0 : World} {bs : List Nat} {L F : List Res} (S : St w0 bs w L) {b m c : Nat} {cs : List Value} {T : TypeId} {fr : Nat × Nat} (size : Nat) (hp : Pull (.blk b (.cells cs.toArray T fr)) L F) (hl : cs.length = m * size) (h1 : ∀ u ∈ cs, u.oneCell' = true) :
    Src w size (.slice (some ⟨b, 0, none⟩) m c) m cs :=
  Src.cells hl h1 fun j u hu => by rw [Addr.add_lit, cell_at (S.blk hp)]; simpa using hu
/-- A part of a block of bytes as a source. -/
theorem St.src8 {w0 : World} {bs : List Nat} {L F : List Res} (S : St w0 bs w L) {b o m c : Nat} {l : List UInt8} {T : TypeId} {fr : Nat × Nat} (hp : Pull (.blk b (.cells (u8s l).toArray T fr)) L F) (hl : o + m ≤ l.length) :
    Src w 1 (.slice (some ⟨b, o, none⟩) m c) m (u8s ((l.drop o).take m)) :=
  Src.cells (by simp; omega) (u8s_one _) fun j u hu => by
    rw [Addr.add_lit, cell_at (S.blk hp)]
    rw [u8s_take, List.getElem?_take] at hu
    split at hu
    · rw [u8s_drop, List.getElem?_drop] at hu; simpa using hu
    · cases hu

def oneCells : List Value → Bool
  | [] => true
  | v :: l => v.oneCell' && oneCells l
theorem oneCells_spec : ∀ {l : List Value}, oneCells l = true → ∀ u ∈ l, u.oneCell' = true
  | [], _, v, h => by cases h
  | u :: l, hs, v, h => by
    simp only [oneCells, Bool.and_eq_true] at hs
    cases h with
    | head => exact hs.1
    | tail _ h => exact oneCells_spec hs.2 v h

/-- append(x, y...): y a block that is known whole (a literal: 'append(x, a, b)'). -/
theorem wpList_appB {w0 : World} {bs : List Nat} {L F F' : List Res} (S : St w0 bs w L) {b m c : Nat} {cs : List Value} {T : TypeId} {fr : Nat × Nat} {size : Nat} {a' : Value → Act} {x y : Operand} {t tx e : TypeId} {z : Value} {bytes n : Nat} {v : Value} {xs : List Value}
    (k : ∀ v' w', (v' = .slice none 0 0 ↔ n + m = 0 ∧ v = .slice none 0 0) → St w0 bs w' (.row e size v' (n + m) (xs ++ cs) :: F) → wpList P ops Q rest (a' v') w')
    (hw : Region.wanted o (yielded ops a.tmps) = true := by rfl) (ho : o.op = .call { callee := .builtin .append, args := #[x, y], argTypes := #[t, tx] } := by rfl)
    (ht : TSlice P t e := by infer_instance) (htx : TRow P tx := by infer_instance) (he : TElem P e z size bytes := by infer_instance)
    (hx : slot a x = some v := by rfl) (hy : slot a y = some (.slice (some ⟨b, 0, none⟩) m c) := by rfl)
    (hp : Pull (.row e size v n xs) L F := by repeat (first | exact Pull.head | apply Pull.tail)) (hp' : Pull (.blk b (.cells cs.toArray T fr)) L F' := by repeat (first | exact Pull.head | apply Pull.tail)) (hl : cs.length = m * size := by rfl) (h1 : oneCells cs = true := by rfl) (hsz : 0 < size := by decide)
    (h63 : n + m ≤ maxLen := by (unfold maxLen; first | omega | (simp; omega))) (hb : (n + m) * bytes ≤ 140737488355328 := by first | omega | (simp; omega))
    (hput : ∀ v', Put a o.dst v' (a' v') := by (intro _; exact put_of (by conv => lhs; simp only [List.set_cons_succ, List.set_cons_zero]))) : wpList P ops Q (o :: rest) a w :=
  wpList_app S (S.src size hp' hl (oneCells_spec h1)) k hw ho ht htx he hx hy hp hsz h63 hb hput
theorem St.src8w {w0 : World} {bs : List Nat} {L F : List Res} (S : St w0 bs w L) {b m c : Nat} {l : List UInt8} {T : TypeId} {fr : Nat × Nat} (hp : Pull (.blk b (.cells (u8s l).toArray T fr)) L F) (hl : l.length = m) :
    Src w 1 (.slice (some ⟨b, 0, none⟩) m c) m (u8s l) :=
  S.src 1 hp (by simp [hl]) (u8s_one _)
/-- append(x, y...): y a block of bytes that is known whole. -/
theorem wpList_app8 {w0 : World} {bs : List Nat} {L F F' : List Res} (S : St w0 bs w L) {b m c : Nat} {l : List UInt8} {T : TypeId} {fr : Nat × Nat} {a' : Value → Act} {x y : Operand} {t tx e : TypeId} {z : Value} {bytes n : Nat} {v : Value} {xs : List Value}
    (k : ∀ v' w', (v' = .slice none 0 0 ↔ n + m = 0 ∧ v = .slice none 0 0) → St w0 bs w' (.row e 1 v' (n + m) (xs ++ u8s l) :: F) → wpList P ops Q rest (a' v') w')
    (hw : Region.wanted o (yielded ops a.tmps) = true := by rfl) (ho : o.op = .call { callee := .builtin .append, args := #[x, y], argTypes := #[t, tx] } := by rfl)
    (ht : TSlice P t e := by infer_instance) (htx : TRow P tx := by infer_instance) (he : TElem P e z 1 bytes := by infer_instance)
    (hx : slot a x = some v := by rfl) (hy : slot a y = some (.slice (some ⟨b, 0, none⟩) m c) := by rfl)
    (hp : Pull (.row e 1 v n xs) L F := by repeat (first | exact Pull.head | apply Pull.tail)) (hp' : Pull (.blk b (.cells (u8s l).toArray T fr)) L F' := by repeat (first | exact Pull.head | apply Pull.tail)) (hl : l.length = m := by (first | rfl | (simp; done) | omega))
    (h63 : n + m ≤ maxLen := by (unfold maxLen; first | omega | (simp; omega))) (hb : (n + m) * bytes ≤ 140737488355328 := by first | omega | (simp; omega))
    (hput : ∀ v', Put a o.dst v' (a' v') := by (intro _; exact put_of (by conv => lhs; simp only [List.set_cons_succ, List.set_cons_zero]))) : wpList P ops Q (o :: rest) a w :=
  wpList_app S (S.src8w hp' hl) k hw ho ht htx he hx hy hp (by decide) h63 hb hput
/-- append(x, s...): s a string. -/
theorem wpList_appS {w0 : World} {bs : List Nat} {L F : List Res} (S : St w0 bs w L) {s : ByteArray} {a' : Value → Act} {x y : Operand} {t tx e : TypeId} {z : Value} {bytes n : Nat} {v : Value} {xs : List Value}
    (k : ∀ v' w', (v' = .slice none 0 0 ↔ n + s.size = 0 ∧ v = .slice none 0 0) → St w0 bs w' (.row e 1 v' (n + s.size) (xs ++ u8s s.data.toList) :: F) → wpList P ops Q rest (a' v') w')
    (hw : Region.wanted o (yielded ops a.tmps) = true := by rfl) (ho : o.op = .call { callee := .builtin .append, args := #[x, y], argTypes := #[t, tx] } := by rfl)
    (ht : TSlice P t e := by infer_instance) (htx : TRow P tx := by infer_instance) (he : TElem P e z 1 bytes := by infer_instance)
    (hx : slot a x = some v := by rfl) (hy : slot a y = some (.string s) := by rfl)
    (hp : Pull (.row e 1 v n xs) L F := by repeat (first | exact Pull.head | apply Pull.tail))
    (h63 : n + s.size ≤ maxLen := by (unfold maxLen; first | omega | (simp; omega))) (hb : (n + s.size) * bytes ≤ 140737488355328 := by first | omega | (simp; omega))
    (hput : ∀ v', Put a o.dst v' (a' v') := by (intro _; exact put_of (by conv => lhs; simp only [List.set_cons_succ, List.set_cons_zero]))) : wpList P ops Q (o :: rest) a w :=
  wpList_app S (Src.string w s) k hw ho ht htx he hx hy hp (by decide) h63 hb hput
/-- append(x, y...): y a row of the call's own, the two apart. -/
theorem Src.row {size : Nat} {e : TypeId} {v : Value} {n : Nat} {xs : List Value} (h : w.ownsRow 0 e size v n xs) (h1 : ∀ u ∈ xs, u.oneCell' = true) : Src w size v n xs := by
  rcases h.2 with ⟨rfl, rfl⟩ | ⟨g, cap, cur, rfl, _, hg, _, _, _, ht⟩
  · have : xs = [] := List.eq_nil_of_length_eq_zero (by simpa using h.1)
    subst this; exact Src.nil w size 0
  · exact Src.cells h.1 h1 fun j u hu => h.cells (g := g) rfl j u hu

/-! ### From one way of saying to another -/
/-- A block that is known, as a row. -/
theorem St.toRow {w0 : World} {bs : List Nat} {L F : List Res} (S : St w0 bs w L) {b n cap : Nat} {cs : List Value} {e : TypeId} (size : Nat) (hp : Pull (.blk b (.cells cs.toArray e (0, 0))) L F) (hl : cs.length = cap * size) (hn : n ≤ cap) (hc : cap ≤ maxLen) :
    St w0 bs w (.row e size (.slice (some ⟨b, 0, none⟩) n cap) n (cs.take (n * size)) :: F) := by
  have hb := S.blk hp
  have S' := S.perm hp.perm
  refine ⟨⟨S'.mem.1, fun r hr => ?_⟩, S'.chg, fun r hr x hx => ?_⟩
  · cases hr with
    | head => exact ⟨by rw [List.length_take, hl]; exact Nat.min_eq_left (Nat.mul_le_mul_right _ hn), .inr ⟨b, cap, cs.toArray, rfl, Nat.zero_le _, hb, hn, hc, by simpa using hl, by simp⟩⟩
    | tail _ hr => exact S'.mem.2 r (List.mem_cons_of_mem _ hr)
  · cases hr with
    | head => exact S'.org (.blk b _) List.mem_cons_self x hx
    | tail _ hr => exact S'.org r (List.mem_cons_of_mem _ hr) x hx
/-- A block of bytes, as a row. -/
theorem St.toRow8 {w0 : World} {bs : List Nat} {L F : List Res} (S : St w0 bs w L) {b n : Nat} {l : List UInt8} {e : TypeId} (hp : Pull (.blk b (.cells (u8s l).toArray e (0, 0))) L F) (hl : l.length = n) (hc : n ≤ maxLen) :
    St w0 bs w (.row e 1 (.slice (some ⟨b, 0, none⟩) n n) n (u8s l) :: F) := by
  have := S.toRow 1 (n := n) (cap := n) hp (by simp [hl]) (Nat.le_refl _) hc
  rwa [List.take_of_length_le (by simp [hl])] at this
/-- The row that is nil. -/
theorem St.nilRow {w0 : World} {bs : List Nat} {L : List Res} (S : St w0 bs w L) (e : TypeId) (size : Nat) : St w0 bs w (.row e size (.slice none 0 0) 0 [] :: L) :=
  S.add ⟨rfl, rfl, rfl, Nat.le_refl _, fun _ _ _ => rfl⟩ (World.ownsRow_nil w 0 e size) (by simp [Res.foot, Value.ownBlock])
/-- A row that isn't nil is a block. -/
theorem St.ofRow {w0 : World} {bs : List Nat} {L F : List Res} (S : St w0 bs w L) {e : TypeId} {size n : Nat} {v : Value} {xs : List Value} (hp : Pull (.row e size v n xs) L F) :
    (v = .slice none 0 0 ∧ n = 0 ∧ xs = []) ∨ ∃ b cap more, v = .slice (some ⟨b, 0, none⟩) n cap ∧ n ≤ cap ∧ cap ≤ maxLen ∧ xs.length = n * size ∧ (xs ++ more).length = cap * size ∧ St w0 bs w (.blk b (.cells (xs ++ more).toArray e (0, 0)) :: F) := by
  have S' := S.perm hp.perm
  have hown : w.ownsRow 0 e size v n xs := S.mem.2 _ hp.mem
  rcases hown.2 with ⟨rfl, rfl⟩ | ⟨g, cap, cur, rfl, _, hg, hnc, hcm, hcs, ht⟩
  · exact .inl ⟨rfl, rfl, List.eq_nil_of_length_eq_zero (by simpa using hown.1)⟩
  · have e : xs ++ cur.toList.drop (n * size) = cur.toList := by rw [← ht]; exact List.take_append_drop ..
    refine .inr ⟨g, cap, cur.toList.drop (n * size), rfl, hnc, hcm, hown.1, by rw [e]; simpa using hcs, ⟨⟨S'.mem.1, fun r hr => ?_⟩, S'.chg, fun r hr x hx => ?_⟩⟩
    · cases hr with
      | head => rw [e]; simpa [Res.holds] using hg
      | tail _ hr => exact S'.mem.2 r (List.mem_cons_of_mem _ hr)
    · cases hr with
      | head => exact S'.org (.row _ _ _ _ _) List.mem_cons_self x hx
      | tail _ hr => exact S'.org r (List.mem_cons_of_mem _ hr) x hx


/-! ### copy -/
theorem run_copy {dT sT ty e : TypeId} {z : Value} {size bytes : Nat} [ht : TSlice P dT e] [he : TElem P e z size bytes] {b i dLen dCap m : Nat} {cur : List Value} {T : TypeId} {sv : Value} {xs : List Value} (hg : w.heap[b]? = some (.cells cur.toArray T (0, 0)))
    (hs : Src w size sv m xs) (hfit : i + dLen * size ≤ cur.length) :
    (Builtin.copy_ #[dT, sT] ty #[.slice (some ⟨b, i, none⟩) dLen dCap, sv]).run P w = .ok (goInt (Nat.min m dLen)) (w.setRow b (splice cur i (xs.take (Nat.min m dLen * size))).toArray) := by
  obtain ⟨inf, hi, hz, hsize, hby, hzs⟩ := he.is
  subst hsize
  have hk : Nat.min m dLen ≤ m := Nat.min_le_left _ _
  have hk2 : Nat.min m dLen * inf.size ≤ dLen * inf.size := Nat.mul_le_mul_right _ (Nat.min_le_right _ _)
  have hk1 : Nat.min m dLen * inf.size ≤ m * inf.size := Nat.mul_le_mul_right _ hk
  have hl := hs.lenOf (P := P) (w' := w) rfl
  have hf := hs.first (P := P) (w' := w) (fun _ _ h => h) (Nat.min m dLen) hk
  have hlen : (xs.take (Nat.min m dLen * inf.size)).length = Nat.min m dLen * inf.size := by rw [List.length_take, hs.1]; omega
  have hst := run_storeCells_at P b i T (xs.take (Nat.min m dLen * inf.size)) 0 cur.toArray w hg (by rw [hlen]; simp; omega) (fun u hu => hs.2.1 u (List.mem_of_mem_take hu))
  simp only [Nat.add_zero] at hst
  simp [Builtin.copy_, run_underlying ht.is, sizeOf, typeInfo, hi, hl, hf, hst, splice]

/-- copy(d[..], s): d a block that is known; to whom the number goes. -/
theorem wpList_copy {w0 : World} {bs : List Nat} {L L' : List Res} (S : St w0 bs w L) {sv : Value} {m : Nat} {xs : List Value} {size : Nat} (hs : Src w size sv m xs) {x y : Operand} {t tx e : TypeId} {z : Value} {bytes : Nat} {b i dLen dCap : Nat} {cur : List Value} {T : TypeId} {a' : Act}
    (k : ∀ w', St w0 bs w' L' → wpList P ops Q rest a' w')
    (hw : Region.wanted o (yielded ops a.tmps) = true := by rfl) (ho : o.op = .call { callee := .builtin .copy, args := #[x, y], argTypes := #[t, tx] } := by rfl)
    (ht : TSlice P t e := by infer_instance) (he : TElem P e z size bytes := by infer_instance)
    (hx : slot a x = some (.slice (some ⟨b, i, none⟩) dLen dCap) := by rfl) (hy : slot a y = some sv := by rfl)
    (hA : At (.blk b (.cells cur.toArray T (0, 0))) (.blk b (.cells (splice cur i (xs.take (Nat.min m dLen * size))).toArray T (0, 0))) L L' := by repeat (first | exact At.head | apply At.tail))
    (hfit : i + dLen * size ≤ cur.length := by (first | omega | (simp; omega)))
    (hput : Put a o.dst (goInt (Nat.min m dLen)) a' := by exact put_of (by conv => lhs; simp only [List.set_cons_succ, List.set_cons_zero])) : wpList P ops Q (o :: rest) a w := by
  have hg : w.heap[b]? = some (.cells cur.toArray T (0, 0)) := S.mem.2 _ hA.mem
  have hr := run_copy (P := P) (w := w) (dT := t) (sT := tx) (ty := o.type) (dCap := dCap) hg hs hfit
  refine wpList_run hw (w' := w.setRow b (splice cur i (xs.take (Nat.min m dLen * size))).toArray) (v := goInt (Nat.min m dLen)) ?_ (by
    rw [hput.is]
    exact k _ (S.set hA ⟨rfl, rfl, rfl, by simp, fun k _ hn => setRow_other w b k _ (by simpa [Res.foot] using hn)⟩ (setRow_heap w b _ _ T _ hg) (by simp [Res.foot])))
  simp [execOp, ho, resolve, invoke, builtin, eval_slot hx, eval_slot hy, hr]

theorem u8s_splice (l : List UInt8) (i : Nat) (xs : List UInt8) : u8s (splice l i xs) = splice (u8s l) i (u8s xs) := by
  simp [splice, u8s, List.map_take, List.map_drop]

/-- copy of bytes. -/
theorem wpList_copy8 {w0 : World} {bs : List Nat} {L L' : List Res} (S : St w0 bs w L) {sv : Value} {src : List UInt8} {n : Nat} (hs : Src w 1 sv n (u8s src)) {x y : Operand} {t tx e : TypeId} {z : Value} {bytes : Nat} {b i dLen dCap : Nat} {l : List UInt8} {T : TypeId} {a' : Act}
    (k : ∀ w', St w0 bs w' L' → wpList P ops Q rest a' w')
    (hw : Region.wanted o (yielded ops a.tmps) = true := by rfl) (ho : o.op = .call { callee := .builtin .copy, args := #[x, y], argTypes := #[t, tx] } := by rfl)
    (ht : TSlice P t e := by infer_instance) (he : TElem P e z 1 bytes := by infer_instance)
    (hx : slot a x = some (.slice (some ⟨b, i, none⟩) dLen dCap) := by rfl) (hy : slot a y = some sv := by rfl)
    (hA : At (.blk b (.cells (u8s l).toArray T (0, 0))) (.blk b (.cells (u8s (splice l i (src.take (Nat.min src.length dLen)))).toArray T (0, 0))) L L' := by repeat (first | exact At.head | apply At.tail))
    (hfit : i + dLen ≤ l.length := by (first | omega | (simp; omega)))
    (hput : Put a o.dst (goInt (Nat.min src.length dLen)) a' := by exact put_of (by conv => lhs; simp only [List.set_cons_succ, List.set_cons_zero])) : wpList P ops Q (o :: rest) a w := by
  have hn : n = src.length := by have := hs.1; simp at this; exact this.symm
  subst hn
  exact wpList_copy S hs k hw ho ht he hx hy (by
    have h := hA
    rw [u8s_splice, u8s_take] at h
    simpa using h) (by simpa using hfit) hput

/-! ### Bytes as a string -/
class TU8 (P : Program) (t : TypeId) : Prop where
  is : P.underlying t = some (.int .u8)
class TStr (P : Program) (t : TypeId) : Prop where
  is : P.underlying t = some .string

theorem push_all : ∀ (l : List UInt8) (s : ByteArray), (l.map fun c : UInt8 => (c.toNat : Int)).foldl (fun r n => r.push (UInt8.ofNat n.toNat)) s = ⟨s.data ++ l.toArray⟩
  | [], s => by simp
  | c :: l, s => by
    simp only [List.map_cons, List.foldl_cons, push_all l, Int.toNat_natCast]
    apply ByteArray.ext
    simp

theorem run_b2s {src dst e : TypeId} [h1 : TSlice P src e] [h2 : TU8 P e] [h3 : TStr P dst] {v : Value} {n : Nat} {l : List UInt8} (hs : Src w 1 v n (u8s l)) (x : Operand) (ho : o.op = .convert src dst x) (hx : a.eval x = v) (hv : ∀ s, v ≠ .string s) :
    (execOp a.eval o).run P w = .ok (.value (.string ⟨l.toArray⟩)) w := by
  have hm := hs.2.2
  have hl := hs.1
  simp only [length_u8s, Nat.mul_one] at hl
  match v, hm, hv with
  | .slice none m c, ⟨e1, e2⟩, _ =>
    have : l = [] := by simpa [u8s] using e2
    subst this
    simp [execOp, ho, hx, run_convert_bytes_string w src dst e none m c h1.is h2.is h3.is, Conv.bytesToString]
    rfl
  | .slice (some ad) m c, ⟨e1, e2⟩, _ =>
    have h := run_loadCells_list (P := P) w ad (u8s l) e2
    rw [length_u8s, hl, ← e1] at h
    have := run_bytesToString (P := P) w ad m c (l.map fun c : UInt8 => (c.toNat : Int)) (by rw [h]; simp [u8s])
    simp only [push_all] at this
    simp [execOp, ho, hx, run_convert_bytes_string w src dst e (some ad) m c h1.is h2.is h3.is, this]
  | .string s, _, hv => exact absurd rfl (hv s)
theorem wpList_b2s {v : Value} {n : Nat} {l : List UInt8} (hs : Src w 1 v n (u8s l)) {src dst e : TypeId} {x : Operand} {a' : Act}
    (k : wpList P ops Q rest a' w)
    (hw : Region.wanted o (yielded ops a.tmps) = true := by rfl) (ho : o.op = .convert src dst x := by rfl) (h1 : TSlice P src e := by infer_instance) (h2 : TU8 P e := by infer_instance) (h3 : TStr P dst := by infer_instance)
    (hx : slot a x = some v := by rfl) (hv : ∀ s, v ≠ .string s := by (intro _ h; cases h)) (hput : Put a o.dst (.string ⟨l.toArray⟩) a' := by exact put_of (by conv => lhs; simp only [List.set_cons_succ, List.set_cons_zero])) : wpList P ops Q (o :: rest) a w :=
  wpList_run hw (run_b2s hs x ho (eval_slot hx) hv) (hput.is ▸ k)
theorem quiet_b2s {C : World → Prop} {K : Act → Prop} {v : Value} {n : Nat} {l : List UInt8} (hs : ∀ w, C w → Src w 1 v n (u8s l)) {src dst e : TypeId} {x : Operand} {a' : Act}
    (k : K a')
    (ho : o.op = .convert src dst x := by rfl) (h1 : TSlice P src e := by infer_instance) (h2 : TU8 P e := by infer_instance) (h3 : TStr P dst := by infer_instance)
    (hx : slot a x = some v := by rfl) (hv : ∀ s, v ≠ .string s := by (intro _ h; cases h)) (hput : Put a o.dst (.string ⟨l.toArray⟩) a' := by exact put_of (by conv => lhs; simp only [List.set_cons_succ, List.set_cons_zero])) : o.quiet P a C K :=
  quiet_run (fun w hw => run_b2s (hs w hw) x ho (eval_slot hx) hv) (hput.is ▸ k)

/-- Bytes of a row, of a block, as a string. -/
theorem wpList_b2sR {w0 : World} {bs : List Nat} {L F : List Res} (S : St w0 bs w L) {v : Value} {n : Nat} {l : List UInt8} {src dst e e' : TypeId} {x : Operand} {a' : Act}
    (k : wpList P ops Q rest a' w)
    (hw : Region.wanted o (yielded ops a.tmps) = true := by rfl) (ho : o.op = .convert src dst x := by rfl) (h1 : TSlice P src e := by infer_instance) (h2 : TU8 P e := by infer_instance) (h3 : TStr P dst := by infer_instance)
    (hx : slot a x = some v := by rfl) (hp : Pull (.row e' 1 v n (u8s l)) L F := by repeat (first | exact Pull.head | apply Pull.tail)) (hput : Put a o.dst (.string ⟨l.toArray⟩) a' := by exact put_of (by conv => lhs; simp only [List.set_cons_succ, List.set_cons_zero])) : wpList P ops Q (o :: rest) a w := by
  have hown : w.ownsRow 0 e' 1 v n (u8s l) := S.mem.2 _ hp.mem
  exact wpList_b2s (Src.row hown (u8s_one _)) k hw ho h1 h2 h3 hx (by rcases hown.2 with ⟨rfl, _⟩ | ⟨_, _, _, rfl, _⟩ <;> (intro _ h; cases h)) hput
theorem quiet_b2sR {w0 : World} {bs : List Nat} {L F : List Res} (S : St w0 bs w L) {K : Act → Prop} {v : Value} {n : Nat} {l : List UInt8} {src dst e e' : TypeId} {x : Operand} {a' : Act}
    (k : K a')
    (ho : o.op = .convert src dst x := by rfl) (h1 : TSlice P src e := by infer_instance) (h2 : TU8 P e := by infer_instance) (h3 : TStr P dst := by infer_instance)
    (hx : slot a x = some v := by rfl) (hp : Pull (.row e' 1 v n (u8s l)) L F := by repeat (first | exact Pull.head | apply Pull.tail)) (hput : Put a o.dst (.string ⟨l.toArray⟩) a' := by exact put_of (by conv => lhs; simp only [List.set_cons_succ, List.set_cons_zero])) : o.quiet P a (fun w' => ∃ p : StW w w0 bs L, w' = p.w) K := by
  have hown : ∀ w', (∃ p : StW w w0 bs L, w' = p.w) → w'.ownsRow 0 e' 1 v n (u8s l) := fun w' hw' => (S.of hw').mem.2 _ hp.mem
  exact quiet_b2s (fun w' hw' => Src.row (hown w' hw') (u8s_one _)) k ho h1 h2 h3 hx (by rcases (hown w S.inSt').2 with ⟨rfl, _⟩ | ⟨_, _, _, rfl, _⟩ <;> (intro _ h; cases h)) hput
theorem wpList_b2sB {w0 : World} {bs : List Nat} {L F : List Res} (S : St w0 bs w L) {b m c : Nat} {l : List UInt8} {T : TypeId} {fr : Nat × Nat} {src dst e : TypeId} {x : Operand} {a' : Act}
    (k : wpList P ops Q rest a' w)
    (hw : Region.wanted o (yielded ops a.tmps) = true := by rfl) (ho : o.op = .convert src dst x := by rfl) (h1 : TSlice P src e := by infer_instance) (h2 : TU8 P e := by infer_instance) (h3 : TStr P dst := by infer_instance)
    (hx : slot a x = some (.slice (some ⟨b, 0, none⟩) m c) := by rfl) (hp : Pull (.blk b (.cells (u8s l).toArray T fr)) L F := by repeat (first | exact Pull.head | apply Pull.tail)) (hl : l.length = m := by (first | rfl | (simp; done) | omega))
    (hput : Put a o.dst (.string ⟨l.toArray⟩) a' := by exact put_of (by conv => lhs; simp only [List.set_cons_succ, List.set_cons_zero])) : wpList P ops Q (o :: rest) a w :=
  wpList_b2s (S.src8w hp hl) k hw ho h1 h2 h3 hx (by intro _ h; cases h) hput
theorem quiet_b2sB {w0 : World} {bs : List Nat} {L F : List Res} (S : St w0 bs w L) {K : Act → Prop} {b m c : Nat} {l : List UInt8} {T : TypeId} {fr : Nat × Nat} {src dst e : TypeId} {x : Operand} {a' : Act}
    (k : K a')
    (ho : o.op = .convert src dst x := by rfl) (h1 : TSlice P src e := by infer_instance) (h2 : TU8 P e := by infer_instance) (h3 : TStr P dst := by infer_instance)
    (hx : slot a x = some (.slice (some ⟨b, 0, none⟩) m c) := by rfl) (hp : Pull (.blk b (.cells (u8s l).toArray T fr)) L F := by repeat (first | exact Pull.head | apply Pull.tail)) (hl : l.length = m := by (first | rfl | (simp; done) | omega))
    (hput : Put a o.dst (.string ⟨l.toArray⟩) a' := by exact put_of (by conv => lhs; simp only [List.set_cons_succ, List.set_cons_zero])) : o.quiet P a (fun w' => ∃ p : StW w w0 bs L, w' = p.w) K :=
  quiet_b2s (fun w' hw' => (S.of hw').src8w hp hl) k ho h1 h2 h3 hx (by intro _ h; cases h) hput

/-! ### A struct or an array stored -/
theorem run_stA {ty : TypeId} {n : Nat} [h1 : TAgg P ty n] (x y : Operand) (ho : o.op = .store ty x y) {b i : Nat} (ha : a.eval x = .pointer (some ⟨b, i, none⟩)) {cs : List Value} (hv : a.eval y = .agg cs.toArray) (hl : cs.length = n) (h1c : ∀ u ∈ cs, u.oneCell' = true)
    {cur : List Value} {T : TypeId} (hg : w.heap[b]? = some (.cells cur.toArray T (0, 0))) (hfit : i + n ≤ cur.length) :
    (execOp a.eval o).run P w = .ok .skip (w.setRow b (splice cur i cs).toArray) := by
  have hst := run_storeCells_at P b i T cs 0 cur.toArray w hg (by simp; omega) h1c
  simp only [Nat.add_zero] at hst
  simp [execOp, ho, ha, hv, Instr.storeAt, Instr.sureAddr, storeVar, h1.size, hl, Value.cells, hst, splice]
theorem wpList_stA {w0 : World} {bs : List Nat} {L L' : List Res} (S : St w0 bs w L) {ty : TypeId} {n : Nat} {x y : Operand} {b i : Nat} {cs cur : List Value} {T : TypeId}
    (k : ∀ w', St w0 bs w' L' → wpList P ops Q rest a w')
    (hw : Region.wanted o (yielded ops a.tmps) = true := by rfl) (ho : o.op = .store ty x y := by rfl) (hd : o.dst = none := by rfl) (h1 : TAgg P ty n := by infer_instance)
    (ha : slot a x = some (.pointer (some ⟨b, i, none⟩)) := by rfl) (hv : slot a y = some (.agg cs.toArray) := by rfl) (hl : cs.length = n := by rfl) (h1c : oneCells cs = true := by rfl)
    (hA : At (.blk b (.cells cur.toArray T (0, 0))) (.blk b (.cells (splice cur i cs).toArray T (0, 0))) L L' := by repeat (first | exact At.head | apply At.tail))
    (hfit : i + n ≤ cur.length := by (first | decide | omega | (simp; done) | (simp; omega))) : wpList P ops Q (o :: rest) a w := by
  have hg : w.heap[b]? = some (.cells cur.toArray T (0, 0)) := S.mem.2 _ hA.mem
  refine wpList_run_skip hw (run_stA x y ho (eval_slot ha) (eval_slot hv) hl (oneCells_spec h1c) hg hfit) (by
    rw [hd]
    exact k _ (S.set hA ⟨rfl, rfl, rfl, by simp, fun k _ hn => setRow_other w b k _ (by simpa [Res.foot] using hn)⟩ (setRow_heap w b _ _ T _ hg) (by simp [Res.foot])))

end
end Go.Vil
end
section
namespace Go.Vil
open Go Go.RowKit
set_option linter.unusedVariables false

section
variable {P : Program} {ops : Array Oper} {md : Region.Mode}

/-- An operation that neither panics nor leaves. -/
def grow (P : Program) (o : Oper) (a : Act) (w : World) (K : Act → World → Prop) : Prop :=
  match (execOp a.eval o).run P w with
  | .ok (.value v) w' => K (a.put o.dst v) w'
  | .ok .skip w' => K (a.put o.dst undef) w'
  | .ok (.defer d) w' => K ({ a with defers := d :: a.defers }.put o.dst undef) w'
  | .ok (.row row args) w' => Rows P row args w' fun v w'' => K (a.put o.dst v) w''
  | .ok (.enter f args) w' => Calls P f args w' fun e w'' => ∃ v, e = .returned v ∧ K (a.put o.dst v) w''
  | _ => False

theorem grow_mono {o : Oper} {a : Act} {w : World} {K K' : Act → World → Prop} (h : ∀ a w, K a w → K' a w) (hh : grow P o a w K) : grow P o a w K' := by
  unfold grow at *
  generalize (execOp a.eval o).run P w = r at *
  cases r with
  | ok x w' =>
    cases x <;> first
      | exact h _ _ hh
      | exact hh.mono fun e w'' ⟨v, he, hk⟩ => ⟨v, he, h _ _ hk⟩
      | exact hh.mono fun v w'' hk => h _ _ hk
      | exact hh
  | halt x w' => exact hh

theorem wp_of_grow {o : Oper} {a : Act} {w : World} {K : Act → World → Prop} {Q : Exit → Act → World → Prop} (hh : grow P o a w K) : o.wp P a w K Q := by
  unfold grow at hh
  unfold Oper.wp
  generalize (execOp a.eval o).run P w = r at *
  cases r with
  | ok x w' =>
    cases x <;> first
      | exact hh.elim
      | exact hh
      | (simp only [Oper.upon]; exact hh.mono fun e w'' ⟨v, he, hk⟩ => by subst he; exact hk)
  | halt x w' => exact hh.elim

def stepG (P : Program) (ops : Array Oper) (i : Nat) (K : Act → World → Prop) (a : Act) (w : World) : Prop :=
  match ops[i]? with
  | none => K a w
  | some o => if Region.wanted o (yielded ops a.tmps) then grow P o a w K else K (a.put o.dst undef) w

theorem stepG_mono {i : Nat} {a : Act} {w : World} {K K' : Act → World → Prop} (h : ∀ a w, K a w → K' a w) (hh : stepG P ops i K a w) : stepG P ops i K' a w := by
  unfold stepG at *
  split
  · exact h _ _ (by simpa [*] using hh)
  · rename_i o ho
    simp only [ho] at hh
    split
    · rename_i hw; simp only [hw, if_true] at hh; exact grow_mono h hh
    · rename_i hw; simp only [hw] at hh; exact h _ _ hh

theorem wpOp_of_stepG {i : Nat} {a : Act} {w : World} {K : Act → World → Prop} {Q : Exit → Act → World → Prop} (hh : stepG P ops i K a w) : wpOp P ops Q i K a w := by
  unfold stepG at hh
  unfold wpOp
  split
  · simpa [*] using hh
  · rename_i o ho
    simp only [ho] at hh
    split
    · rename_i hw; simp only [hw, if_true] at hh; exact .inl (wp_of_grow hh)
    · rename_i hw; simp only [hw] at hh; exact hh

/-- In state 'a', in every world of the class, operation 'o' leaves 'v' in its temporary, and the very world that it got. -/
def Still (P : Program) (ops : Array Oper) (C : World → Prop) (o : Oper) (v : Value) (a : Act) : Prop :=
  (Region.wanted o (yielded ops a.tmps) = true ∧ ∀ w, C w → (execOp a.eval o).run P w = .ok (.value v) w) ∨
  (Region.wanted o (yielded ops a.tmps) = false ∧ v = undef)
theorem Still.of_same {C : World → Prop} {o : Oper} {v : Value} {a a' : Act} (hy : Still P ops C o v a) (he : execOp a'.eval o = execOp a.eval o)
    (hw : Region.wanted o (yielded ops a'.tmps) = Region.wanted o (yielded ops a.tmps)) : Still P ops C o v a' := by
  unfold Still at *
  rw [he, hw]
  exact hy

theorem stepG_of_still {C : World → Prop} {i : Nat} {o : Oper} {v : Value} {a : Act} {w : World} {K : Act → World → Prop} (hi : ops[i]? = some o) (hw : C w) (hy : Still P ops C o v a) (h : K (a.put o.dst v) w) : stepG P ops i K a w := by
  unfold stepG
  simp only [hi]
  rcases hy with ⟨hwt, hv⟩ | ⟨hwt, rfl⟩
  · simp only [hwt, if_true]
    unfold grow
    rw [hv w hw]
    exact h
  · simp only [hwt, Bool.false_eq_true, if_false]; exact h

/-- Builtins that only reckon. -/
def quietBuiltin : Builtin → Bool
  | .len | .cap | .min | .max => true
  | _ => false
/-- An operation that is no call (but of a builtin that only reckons). -/
def noCall (o : Oper) : Bool := match o.op with
  | .call c => (match c.callee with | .builtin b => quietBuiltin b | _ => false)
  | .go _ | .defer _ | .send .. | .recv .. | .select .. | .store .. | .ready _ | .mapUpdate .. | .insert .. | .entryStore .. => false | _ => true
theorem run_val {s : Sem Value} {w w' : World} {x : Next} (h : ((do pure (Next.value (← s))) : Sem Next).run P w = .ok x w') : ∃ v, x = .value v := by
  simp only [Sem.run_bind] at h
  cases hs : s.run P w with
  | ok u w2 => rw [hs] at h; simp only [Result.andThen_ok, Sem.run_pure, Result.ok.injEq] at h; exact ⟨_, h.1.symm⟩
  | halt x w2 => rw [hs] at h; cases h
theorem noCall_val {o : Oper} {ρ : Operand → Value} {w w' : World} {x : Next} (ho : noCall o = true) (h : (execOp ρ o).run P w = .ok x w') : ∃ v, x = .value v := by
  obtain ⟨dst, op, ty, pos, after, guard⟩ := o
  by_cases hc : ∃ c, op = .call c
  · obtain ⟨⟨callee, args, ats⟩, rfl⟩ := hc
    cases callee with
    | builtin b =>
      have ho' : quietBuiltin b = true := ho
      rw [BigFrame.execOp_builtin] at h
      cases b <;> first | (cases ho'; done) | exact run_val h
    | _ => cases ho
  generalize hoo : ({ dst := dst, op := op, type := ty, pos := pos, after := after, guard := guard } : Oper) = o at *
  have hop' : o.op = op := by rw [← hoo]
  have hc' : ∀ c, o.op ≠ .call c := fun c h => hc ⟨c, hop' ▸ h⟩
  clear hoo hop' hc
  unfold noCall at ho
  unfold execOp at h
  cases hop : o.op <;> rw [hop] at ho h <;> first
    | (cases ho; done)
    | (exact absurd hop (hc' _))
    | (exact run_val h)
    | (simp only [Sem.run_pure, Result.ok.injEq] at h; exact ⟨_, h.1.symm⟩)
    | skip
  case pick c a b =>
    simp only [Sem.run_bind] at h
    cases hs : (asBool (ρ c)).run P w with
    | ok u w2 => rw [hs] at h; simp only [Result.andThen_ok, Sem.run_pure, Result.ok.injEq] at h; exact ⟨_, h.1.symm⟩
    | halt x w2 => rw [hs] at h; cases h
  case nilCheck x =>
    simp only at h
    split at h
    · simp [runtimePanic] at h
    · simp [runtimePanic] at h
    · simp [runtimePanic] at h
    · split at h
      · simp [runtimePanic] at h
      · simp only [Sem.run_bind, run_program, Result.andThen_ok] at h
        cases hs : (nilAhead (P.types.size + Made.depth) _ _ _).run P w with
        | ok u w2 =>
          rw [hs] at h
          simp only [Result.andThen_ok, Sem.run_ite] at h
          split at h
          · simp at h
          · simp only [Sem.run_pure, Result.ok.injEq] at h; exact ⟨_, h.1.symm⟩
        | halt x w2 => rw [hs] at h; cases h
      · simp only [Sem.run_pure, Result.ok.injEq] at h; exact ⟨_, h.1.symm⟩
    · simp only [Sem.run_pure, Result.ok.injEq] at h; exact ⟨_, h.1.symm⟩
theorem still_of_yields {C : World → Prop} {o : Oper} {v : Value} {a : Act} (hn : noCall o = true) (hy : YieldsIn P ops C o v a) : Still P ops C o v a := by
  rcases hy with ⟨hwt, hv⟩ | h
  · refine .inl ⟨hwt, fun w hw => ?_⟩
    have h3 := hv w hw
    unfold Oper.quietAt at h3
    cases hr : (execOp a.eval o).run P w with
    | ok x w' =>
      rw [hr] at h3
      obtain ⟨u, rfl⟩ := noCall_val hn hr
      simp only [Oper.quietUpon] at h3
      obtain ⟨e1, e2⟩ := h3; rw [e1, e2]
    | halt x w' => rw [hr] at h3; simp only [Oper.quietUpon] at h3
  · exact .inr h

theorem put_defers (a : Act) {x y : Option Tmp} (v u : Value) (D : List Deferred) (h : ∀ d, x = some d → y ≠ some d) :
    ({ (a.put x v) with defers := D } : Act).put y u = (({ a with defers := D } : Act).put y u).put x v := by
  have := Act.put_comm ({ a with defers := D } : Act) v u h
  rw [← this]
  cases x <;> rfl
/-- An operation that is apart from another one does the same whether that one's value is there or not. -/
theorem stepG_put {j : Nat} {oi oj : Oper} {v : Value} (hj : ops[j]? = some oj) (hap : oi.apart ops oj = true) (hsj : ∀ cs b, oj.op ≠ .select cs b) {K : Act → World → Prop} {a : Act} {w : World}
    (h : stepG P ops j K (a.put oi.dst v) w) : stepG P ops j (fun a' w' => (∃ u D, a' = ({ a with defers := D } : Act).put oj.dst u) ∧ K (a'.put oi.dst v) w') a w := by
  obtain ⟨h1, h2, h3⟩ := Oper.apart_spec hap
  have hdef : (a.put oi.dst v).defers = a.defers := by cases oi.dst <;> rfl
  unfold stepG at *
  simp only [hj] at *
  rw [wanted_put oj a oi.dst v h1] at h
  split
  · rename_i hw
    simp only [hw, if_true] at h
    unfold grow at *
    rw [execOp_put oj hsj a oi.dst v h1] at h
    generalize (execOp a.eval oj).run P w = r at *
    cases r with
    | ok x w' =>
      cases x <;> first
        | exact h.elim
        | exact ⟨⟨_, a.defers, rfl⟩, by rw [← Act.put_comm a v _ h2]; exact h⟩
        | exact ⟨⟨_, _, rfl⟩, by simp only [hdef] at h; rw [← put_defers a v _ _ h2]; exact h⟩
        | exact h.mono fun e w'' ⟨u, he, hk⟩ => ⟨u, he, ⟨_, a.defers, rfl⟩, by rw [← Act.put_comm a v _ h2]; exact hk⟩
        | exact h.mono fun u w'' hk => ⟨⟨_, a.defers, rfl⟩, by rw [← Act.put_comm a v _ h2]; exact hk⟩
    | halt x w' => exact h
  · rename_i hw
    simp only [hw] at h
    exact ⟨⟨_, a.defers, rfl⟩, by rw [← Act.put_comm a v _ h2]; exact h⟩

/-- The first so many operations, in whatever order, the worlds in a class all the while; then L. -/
def anyG (P : Program) (md : Region.Mode) (ops : Array Oper) (n : Nat) (L : Array Bool → Act → World → Prop) : Nat → (World → Prop) → Array Bool → Act → World → Prop
  | 0, _, listed, a, w => L listed a w
  | f + 1, C, listed, a, w => Region.ready md ops listed ≠ [] ∧ ∀ i ∈ Region.ready md ops listed, i < n ∧ stepG P ops i (fun a' w' => C w' ∧ anyG P md ops n L f C (listed.setIfInBounds i true) a' w') a w

theorem anyG_mono {n : Nat} {L : Array Bool → Act → World → Prop} : ∀ (f : Nat) {C C' : World → Prop} (_ : ∀ w, C' w → C w) (listed : Array Bool) (a : Act) (w : World), anyG P md ops n L f C' listed a w → anyG P md ops n L f C listed a w
  | 0, _, _, _, _, _, _, h => h
  | f + 1, _, _, hc, listed, a, w, h => ⟨h.1, fun i hi => ⟨(h.2 i hi).1, stepG_mono (fun a' w' h' => ⟨hc _ h'.1, anyG_mono f hc _ _ _ h'.2⟩) (h.2 i hi).2⟩⟩

theorem wpAny_of_anyG {n g : Nat} {L : Array Bool → Act → World → Prop} {Q' : Exit → Act → World → Prop} (hL : ∀ listed a w, L listed a w → wpAny P md ops Q' g listed a w) :
    ∀ (f : Nat) (C : World → Prop) (listed : Array Bool) (a : Act) (w : World), anyG P md ops n L f C listed a w → wpAny P md ops Q' (f + g) listed a w
  | 0, C, listed, a, w, h => by rw [Nat.zero_add]; exact hL _ _ _ h
  | f + 1, C, listed, a, w, h => by
    rw [show f + 1 + g = (f + g) + 1 by omega]
    exact ⟨fun h0 => absurd h0 h.1, fun i hi => wpOp_of_stepG (stepG_mono (fun a' w' h' => wpAny_of_anyG hL f C _ a' w' h'.2) (h.2 i hi).2)⟩

theorem anyG_first {n i : Nat} {oi : Oper} {v : Value} {C : World → Prop} {L : Array Bool → Act → World → Prop} (hi : ops[i]? = some oi) (hsel : ∀ (j : Nat) (o : Oper) cs b, ops[j]? = some o → o.op ≠ .select cs b)
    (htw : ∀ listed, HeadInv md ops n listed → ∀ i, i < n → listed.getD i true = false → ∀ t, n ≤ t → t ∉ Region.ready md ops listed) (hin : i < n)
    (hdone : ∀ listed a w, L listed a w → ∀ j ∈ Region.ready md ops listed, n ≤ j) :
    ∀ (f : Nat) (listed : Array Bool) (a : Act) (w : World), HeadInv md ops n listed →
      (∀ j oj, ops[j]? = some oj → j ≠ i → listed.getD j true = false → (∀ e ∈ oj.after, Region.binds md e = true → e.on ≠ i) → oi.apart ops oj = true) →
      i ∈ Region.ready md ops listed → C w → Still P ops C oi v a →
      anyG P md ops n L f C (listed.setIfInBounds i true) (a.put oi.dst v) w → anyG P md ops n L (f + 1) C listed a w := by
  intro f
  induction f with
  | zero =>
    intro listed a w inv _ hr hw hy H
    have hun := (mem_ready.1 hr).1
    refine ⟨fun h => (by rw [h] at hr; cases hr), fun j hj => ?_⟩
    have hjn : j < n := by
      rcases Nat.lt_or_ge j n with h | h
      · exact h
      · exact absurd hj (htw listed inv i hin hun j h)
    refine ⟨hjn, ?_⟩
    by_cases hji : j = i
    · subst hji; exact stepG_of_still hi hw hy ⟨hw, H⟩
    · have := hdone _ _ _ H j (ready_mono hj hji)
      omega
  | succ f ih =>
    intro listed a w inv hfree hr hw hy H
    have hun := (mem_ready.1 hr).1
    refine ⟨fun h => (by rw [h] at hr; cases hr), fun j hj => ?_⟩
    have hjn : j < n := by
      rcases Nat.lt_or_ge j n with h | h
      · exact h
      · exact absurd hj (htw listed inv i hin hun j h)
    refine ⟨hjn, ?_⟩
    by_cases hji : j = i
    · subst hji; exact stepG_of_still hi hw hy ⟨hw, H⟩
    · obtain ⟨hjun, oj, hoj, hall⟩ := mem_ready.1 hj
      have hnot : ∀ e ∈ oj.after, Region.binds md e = true → e.on ≠ i := fun e he hb heq => by
        have h1 := hall e he hb
        rw [heq, getD_both hun] at h1
        cases h1
      have hap := hfree j oj hoj hji hjun hnot
      obtain ⟨_, _, hap3⟩ := Oper.apart_spec hap
      have hfree' : ∀ k ok, ops[k]? = some ok → k ≠ i → (listed.setIfInBounds j true).getD k true = false →
          (∀ e ∈ ok.after, Region.binds md e = true → e.on ≠ i) → oi.apart ops ok = true := fun k ok hk hki hun hno => by
        refine hfree k ok hk hki ?_ hno
        by_cases hjk : j = k
        · subst hjk; exact hjun
        · rw [getD_set_ne true hjk] at hun; exact hun
      refine stepG_mono (fun a' w' h' => ?_) (stepG_put hoj hap (fun cs b => hsel j oj cs b hoj) (H.2 j (ready_mono hj hji)).2)
      obtain ⟨⟨u, D, rfl⟩, hCw', hrest⟩ := h'
      refine ⟨hCw', ih (listed.setIfInBounds j true) _ w' (inv.set hj hjn) hfree' (ready_mono hr (Ne.symm hji)) hCw' (hy.of_same ?_ ?_) ?_⟩
      · have e1 := execOp_put oi (fun cs b => hsel i oi cs b hi) ({ a with defers := D } : Act) oj.dst u hap3
        have e2 : ({ a with defers := D } : Act).eval = a.eval := by funext x; cases x <;> rfl
        rw [e1, e2]
      · exact wanted_put oi ({ a with defers := D } : Act) oj.dst u hap3
      rw [Array.setIfInBounds_comm _ _ hji]
      exact hrest

/-- The walk in an order of mine: what only reads, then one that makes memory, and so on. -/
def walkG (P : Program) (ops : Array Oper) (Q : Act → World → Prop) : List (List Nat × Nat) → List Nat → (World → Prop) → Act → World → Prop
  | [], last, C, a, w => qI P ops C last (fun a' => Q a' w) a
  | (h, g) :: segs, last, C, a, w => qI P ops C h (fun a' => stepG P ops g (fun a'' w'' => ∃ C' : World → Prop, C' w'' ∧ (∀ x, C' x → C x) ∧ walkG P ops Q segs last C' a'' w'') a' w) a
where
  qI (P : Program) (ops : Array Oper) (C : World → Prop) : List Nat → (Act → Prop) → Act → Prop
    | [], K, a => K a
    | i :: l, K, a => ∃ o v, ops[i]? = some o ∧ Still P ops C o v a ∧ qI P ops C l K (a.put o.dst v)

/-- The order fits: each that only reads is ready and free; each that makes memory is the only one that is ready. -/
def quietB (md : Region.Mode) (ops : Array Oper) (n : Nat) : List Nat → Array Bool → Option (Array Bool)
  | [], listed => some listed
  | k :: l, listed => if (Region.ready md ops listed).contains k && Region.free md ops listed k && decide (k < n) then quietB md ops n l (listed.setIfInBounds k true) else none
def orderB (md : Region.Mode) (ops : Array Oper) (n : Nat) : List (List Nat × Nat) → List Nat → Array Bool → Bool
  | [], last, listed => match quietB md ops n last listed with
    | some l => Region.seqB md ops (ops.size - n) n l
    | none => false
  | (h, g) :: segs, last, listed => match quietB md ops n h listed with
    | some l => decide (Region.ready md ops l = [g]) && decide (g < n) && orderB md ops n segs last (l.setIfInBounds g true)
    | none => false
def lengthG : List (List Nat × Nat) → List Nat → Nat
  | [], last => last.length
  | (h, _) :: segs, last => h.length + 1 + lengthG segs last


theorem anyG_quiet {n : Nat} {C : World → Prop} {L : Array Bool → Act → World → Prop} (hsel : Region.noSelect ops = true)
    (htw : ∀ listed, HeadInv md ops n listed → ∀ i, i < n → listed.getD i true = false → ∀ t, n ≤ t → t ∉ Region.ready md ops listed)
    (hdone : ∀ listed a w, L listed a w → ∀ j ∈ Region.ready md ops listed, n ≤ j) {K : Act → Prop} {w : World} (hw : C w) (f : Nat) :
    ∀ (h : List Nat) (listed l : Array Bool) (a : Act), HeadInv md ops n listed → quietB md ops n h listed = some l → walkG.qI P ops C h K a →
      (∀ a', HeadInv md ops n l → K a' → anyG P md ops n L f C l a' w) → anyG P md ops n L (h.length + f) C listed a w
  | [], listed, l, a, inv, hB, hq, hk => by
    simp only [quietB, Option.some.injEq] at hB
    subst hB
    simpa using hk a inv hq
  | i :: h, listed, l, a, inv, hB, hq, hk => by
    simp only [quietB] at hB
    split at hB
    · rename_i hc
      simp only [Bool.and_eq_true, decide_eq_true_eq] at hc
      obtain ⟨⟨hr, hf⟩, hin⟩ := hc
      obtain ⟨o, v, hi, hst, hrest⟩ := hq
      have hr' : i ∈ Region.ready md ops listed := by simpa using hr
      rw [show (i :: h).length + f = (h.length + f) + 1 by simp; omega]
      exact anyG_first hi (Region.noSelect_spec hsel) htw hin hdone (h.length + f) listed a w inv (Region.free_spec hi hf) hr' hw hst
        (anyG_quiet hsel htw hdone hw f h _ l _ (inv.set hr' hin) hB hrest hk)
    · cases hB

theorem anyG_order {n : Nat} {Qt : Act → World → Prop} (hsel : Region.noSelect ops = true)
    (htw : ∀ listed, HeadInv md ops n listed → ∀ i, i < n → listed.getD i true = false → ∀ t, n ≤ t → t ∉ Region.ready md ops listed) :
    ∀ (segs : List (List Nat × Nat)) (last : List Nat) (C : World → Prop) (listed : Array Bool) (a : Act) (w : World), HeadInv md ops n listed → orderB md ops n segs last listed = true → C w → walkG P ops Qt segs last C a w →
      anyG P md ops n (fun listed a w => Region.seqB md ops (ops.size - n) n listed = true ∧ Qt a w) (lengthG segs last) C listed a w
  | [], last, C, listed, a, w, inv, hB, hw, h => by
    simp only [orderB] at hB
    split at hB
    · rename_i l hl
      have := anyG_quiet (L := fun listed a w => Region.seqB md ops (ops.size - n) n listed = true ∧ Qt a w) hsel htw (fun _ _ _ hL => seqB_ready hL.1) hw 0 last listed l a inv hl h (fun a' _ hk => ⟨hB, hk⟩)
      simpa [lengthG] using this
    · cases hB
  | (q, g) :: segs, last, C, listed, a, w, inv, hB, hw, h => by
    simp only [orderB] at hB
    split at hB
    · rename_i l hl
      simp only [Bool.and_eq_true, decide_eq_true_eq] at hB
      obtain ⟨⟨hr, hg⟩, hB'⟩ := hB
      have := anyG_quiet (L := fun listed a w => Region.seqB md ops (ops.size - n) n listed = true ∧ Qt a w) hsel htw (fun _ _ _ hL => seqB_ready hL.1) hw (1 + lengthG segs last) q listed l a inv hl h (fun a' inv' hk => by
        rw [Nat.add_comm]
        refine ⟨by rw [hr]; simp, fun i hi => ?_⟩
        rw [hr] at hi
        obtain rfl : i = g := by simpa using hi
        refine ⟨hg, stepG_mono (fun a'' w'' ⟨C', hC', hsub, hrest⟩ => ⟨hsub _ hC', anyG_mono _ hsub _ _ _ (anyG_order hsel htw segs last C' _ a'' w'' (inv'.set (by rw [hr]; simp) hg) hB' hC' hrest)⟩) hk⟩)
      rw [lengthG, Nat.add_assoc]
      exact this
    · cases hB

def tailB (md : Region.Mode) (ops : Array Oper) (n : Nat) : Bool := decide (n = ops.size) || (decide (n < ops.size) && Region.sinkB md ops n && Region.chainB md ops n)

theorem wp_regionG {id : Nat} {Q : Exit → Act → World → Prop} {a : Act} {w : World} {l : List Oper} {C : World → Prop} (n : Nat) (segs : List (List Nat × Nat)) (last : List Nat) (hm : P.follows .mixedOrders = true)
    (hB : (Region.noSelect l.toArray && tailB .any l.toArray n && orderB .any l.toArray n segs last (Array.replicate l.length false) && decide (lengthG segs last = n)) = true) (hC : C w.drew)
    (h : walkG P l.toArray (fun a w => wpList P l.toArray Q (l.drop n) a w) segs last C a w.drew) : (Code.region id l.toArray true).wp P Q a w := by
  simp only [Bool.and_eq_true, decide_eq_true_eq] at hB
  obtain ⟨⟨⟨hsel, ht⟩, ho⟩, hlen⟩ := hB
  have htw : ∀ listed, HeadInv .any l.toArray n listed → ∀ i, i < n → listed.getD i true = false → ∀ t, n ≤ t → t ∉ Region.ready .any l.toArray listed := by
    intro listed inv i hi hun t ht' hr
    simp only [tailB, Bool.or_eq_true, Bool.and_eq_true, decide_eq_true_eq] at ht
    rcases ht with rfl | ⟨⟨hn, hs⟩, hc⟩
    · obtain ⟨_, o, ho, _⟩ := mem_ready.1 hr
      have := (Array.getElem?_eq_some_iff.1 ho).1
      omega
    · exact tail_waits hs hc hn inv _ i rfl hi hun t ht' hr
  have hnl : n ≤ l.length := by
    simp only [tailB, Bool.or_eq_true, Bool.and_eq_true, decide_eq_true_eq] at ht
    rcases ht with h | ⟨⟨h, _⟩, _⟩
    · rw [h]; simp
    · have : n < l.length := by simpa using h
      omega
  have inv0 : HeadInv .any l.toArray n (Array.replicate l.length false) :=
    ⟨by simp, fun j oj _ hl => (by rw [getD_replicate_false] at hl; cases hl), fun t _ ht => getD_in (by simpa using ht) (getD_replicate_false _ _)⟩
  have H := anyG_order (md := .any) hsel htw segs last C _ a w.drew inv0 ho hC h
  refine wp_region_any hm ?_
  have hdl : (l.drop n).length = l.toArray.size - n := by simp
  have := wpAny_of_anyG (Q' := Q) (g := l.toArray.size - n) (fun listed a' w' hL => by
    have := wpAny_of_seq (md := .any) (Q' := Q) (l.drop n) n listed a' w' (fun j => by simp [List.getElem?_drop]) (by rw [hdl]; exact hL.1) hL.2
    rwa [hdl] at this) _ _ _ _ _ H
  rw [hlen, show n + (l.toArray.size - n) = l.toArray.size by simp; omega] at this
  simpa using this


/-- Only the normal end. -/
def Qn (K : Act → World → Prop) : Exit → Act → World → Prop
  | .normal, a, w => K a w
  | _, _, _ => False
theorem grow_of_wp {o : Oper} {a : Act} {w : World} {K : Act → World → Prop} {Q : Exit → Act → World → Prop} (hQ : ∀ e a w, e ≠ .normal → ¬ Q e a w) (h : o.wp P a w K Q) : grow P o a w K := by
  unfold Oper.wp at h
  unfold grow
  generalize (execOp a.eval o).run P w = r at *
  cases r with
  | ok x w' =>
    cases x <;> simp only [Oper.upon] at h <;> first
      | exact h
      | exact h.elim
      | (refine h.mono fun e w'' he => ?_
         cases e with
         | returned v => exact ⟨v, rfl, he⟩
         | panicked c => exact absurd he (hQ _ _ _ (by intro h; cases h))
         | outgrown => obtain ⟨a', w', h'⟩ := he; exact absurd h' (hQ _ _ _ (by intro h; cases h)))
  | halt x w' => cases x <;> simp only [Oper.upon] at h <;> first | exact h.elim | exact absurd h (hQ _ _ _ (by intro h; cases h))
theorem stepG_of_wpList {i : Nat} {o : Oper} {a : Act} {w : World} {K : Act → World → Prop} (hi : ops[i]? = some o) (h : wpList P ops (Qn K) [o] a w) : stepG P ops i K a w := by
  have hQ : ∀ e a w, e ≠ Exit.normal → ¬ Qn K e a w := fun e a w he h => by cases e <;> first | exact he rfl | exact h
  unfold wpList at h
  unfold stepG
  simp only [hi]
  split
  · rename_i hw
    rw [if_pos hw] at h
    rcases h with h | ⟨_, a', w', h'⟩
    · exact grow_of_wp hQ h
    · exact absurd h' (hQ _ _ _ (by intro h; cases h))
  · rename_i hw
    rw [if_neg hw] at h
    exact h

/-- The operations of these numbers. -/
def pick (l : List Oper) : List Nat → List Oper
  | [] => []
  | i :: r => match l[i]? with
    | some o => o :: pick l r
    | none => pick l r
def quietOps : List Oper → Bool
  | [] => true
  | o :: l => noCall o && quietOps l
def inB (l : List Oper) : List Nat → Bool
  | [] => true
  | i :: r => decide (i < l.length) && inB l r

theorem qI_of_wpQuiet {l : List Oper} {C : World → Prop} {K : Act → Prop} : ∀ (h : List Nat) (a : Act), inB l h = true → quietOps (pick l h) = true → wpQuiet P l.toArray C K (pick l h) a → walkG.qI P l.toArray C h K a
  | [], a, _, _, hq => hq
  | i :: r, a, hb, hn, hq => by
    simp only [inB, Bool.and_eq_true, decide_eq_true_eq] at hb
    have hi : l[i]? = some l[i] := List.getElem?_eq_getElem hb.1
    simp only [pick, hi] at hn hq
    simp only [quietOps, Bool.and_eq_true] at hn
    have hqo : qOp P l.toArray C i (wpQuiet P l.toArray C K (pick l r)) a := by
      unfold qOp
      simp only [List.getElem?_toArray, hi]
      exact hq
    obtain ⟨v, hy, hK⟩ := yieldsIn_of_qOp (o := l[i]) (by simp [hi]) hqo
    exact ⟨l[i], v, by simp [hi], still_of_yields hn.1 hy, qI_of_wpQuiet r _ hb.2 hn.2 hK⟩

/-- The walk over things that are there: what is made comes to the list. -/
def walkSt (P : Program) (l : List Oper) (w0 : World) (bs : List Nat) (Q : Act → World → Prop) : List (List Nat × Nat) → List Nat → List Res → Act → World → Prop
  | [], last, L, a, w => wpQuiet P l.toArray (fun w' => ∃ p : StW w w0 bs L, w' = p.w) (fun a' => Q a' w) (pick l last) a
  | (h, g) :: segs, last, L, a, w => wpQuiet P l.toArray (fun w' => ∃ p : StW w w0 bs L, w' = p.w)
      (fun a' => wpList P l.toArray (Qn fun a'' w'' => ∃ L', St w0 bs w'' L' ∧ Sel L L' ∧ walkSt P l w0 bs Q segs last L' a'' w'') (pick l [g]) a' w) (pick l h) a

def fitsSt (l : List Oper) : List (List Nat × Nat) → List Nat → Bool
  | [], last => inB l last && quietOps (pick l last)
  | (h, g) :: segs, last => inB l h && quietOps (pick l h) && decide (g < l.length) && fitsSt l segs last

theorem walkG_of_walkSt {l : List Oper} {w0 : World} {bs : List Nat} {Q : Act → World → Prop} : ∀ (segs : List (List Nat × Nat)) (last : List Nat) (L : List Res) (a : Act) (w : World), fitsSt l segs last = true → St w0 bs w L →
    walkSt P l w0 bs Q segs last L a w → walkG P l.toArray Q segs last (fun w' => ∃ p : StW w w0 bs L, w' = p.w) a w
  | [], last, L, a, w, hf, S, h => by
    simp only [fitsSt, Bool.and_eq_true] at hf
    exact qI_of_wpQuiet _ _ hf.1 hf.2 h
  | (q, g) :: segs, last, L, a, w, hf, S, h => by
    simp only [fitsSt, Bool.and_eq_true, decide_eq_true_eq] at hf
    obtain ⟨⟨⟨h1, h2⟩, h3⟩, h4⟩ := hf
    have hg : l[g]? = some l[g] := List.getElem?_eq_getElem h3
    refine qI_of_wpQuiet _ _ h1 h2 (wpQuiet_mono (fun a' hk => ?_) _ _ h)
    simp only [pick, hg] at hk
    refine stepG_mono (fun a'' w'' ⟨L', S', hs, hrest⟩ => ?_) (stepG_of_wpList (o := l[g]) (by simp [hg]) hk)
    refine ⟨fun w' => ∃ p : StW w'' w0 bs L', w' = p.w, ⟨⟨w'', .inl rfl⟩, rfl⟩, fun x hx => ?_, walkG_of_walkSt segs last L' a'' w'' h4 S' hrest⟩
    exact ((S'.of hx).sel hs).inSt w

/-- A region that draws: which operations only read, which make memory, in which order they are walked; the tail. -/
theorem St.regionG {id : Nat} {Q : Exit → Act → World → Prop} {a : Act} {w w0 : World} {bs : List Nat} {L : List Res} {l : List Oper} (S : St w0 bs w L) (n : Nat) (segs : List (List Nat × Nat)) (last : List Nat)
    (h : ∀ w', St w0 bs w' L → walkSt P l w0 bs (fun a w => wpList P l.toArray Q (l.drop n) a w) segs last L a w')
    (hf : fitsSt l segs last = true := by kernel_rfl)
    (hm : P.follows .mixedOrders = true := by kernel_rfl)
    (hB : (Region.noSelect l.toArray && tailB .any l.toArray n && orderB .any l.toArray n segs last (Array.replicate l.length false) && decide (lengthG segs last = n)) = true := by kernel_rfl) : (Code.region id l.toArray true).wp P Q a w :=
  wp_regionG (C := fun w' => ∃ p : StW w.drew w0 bs L, w' = p.w) n segs last hm hB ⟨⟨w.drew, .inl rfl⟩, rfl⟩ (walkG_of_walkSt segs last L a w.drew hf S.drew (h _ S.drew))

end
end Go.Vil
end
section
namespace Go.Proofs.YtbklhnpnkinadaaDoor
open Go.Vil
set_option linter.unusedVariables false
theorem info_of {P : Go.Program} {e : Go.TypeId} {i : Go.TypeInfo} {w : Go.World} (h : Go.Sem.run P (Go.typeInfo e) w = .ok i w) : P.info? e = some i := by
  unfold Go.typeInfo at h
  cases hi : P.info? e with
  | none => simp [hi] at h
  | some j => simp [hi] at h; rw [h]
instance : TOne Tryd.prog 0 := ⟨Tryd.isAgg0, Tryd.sizeOf0⟩
instance : TZero Tryd.prog 0 (Go.Value.tuple #[]) := ⟨Tryd.zeroValue0⟩
instance : TElem Tryd.prog 0 (Go.Value.tuple #[]) 1 0 := ⟨Tryd.t0, info_of (Tryd.typeInfo0 default), rfl, rfl, rfl, rfl⟩
instance : TOne Tryd.prog 1 := ⟨Tryd.isAgg1, Tryd.sizeOf1⟩
instance : TZero Tryd.prog 1 (Go.Value.nilFunc) := ⟨Tryd.zeroValue1⟩
instance : TElem Tryd.prog 1 (Go.Value.nilFunc) 1 8 := ⟨Tryd.t1, info_of (Tryd.typeInfo1 default), rfl, rfl, rfl, rfl⟩
instance : TOne Tryd.prog 2 := ⟨Tryd.isAgg2, Tryd.sizeOf2⟩
instance : TZero Tryd.prog 2 (Go.Value.int Go.IntKind.i64 0) := ⟨Tryd.zeroValue2⟩
instance : TElem Tryd.prog 2 (Go.Value.int Go.IntKind.i64 0) 1 8 := ⟨Tryd.t2, info_of (Tryd.typeInfo2 default), rfl, rfl, rfl, rfl⟩
instance : TOne Tryd.prog 3 := ⟨Tryd.isAgg3, Tryd.sizeOf3⟩
instance : TZero Tryd.prog 3 (Go.Value.int Go.IntKind.i64 0) := ⟨Tryd.zeroValue3⟩
instance : TElem Tryd.prog 3 (Go.Value.int Go.IntKind.i64 0) 1 8 := ⟨Tryd.t3, info_of (Tryd.typeInfo3 default), rfl, rfl, rfl, rfl⟩
instance : TOne Tryd.prog 4 := ⟨Tryd.isAgg4, Tryd.sizeOf4⟩
instance : TZero Tryd.prog 4 (Go.Value.bool Bool.false) := ⟨Tryd.zeroValue4⟩
instance : TElem Tryd.prog 4 (Go.Value.bool Bool.false) 1 1 := ⟨Tryd.t4, info_of (Tryd.typeInfo4 default), rfl, rfl, rfl, rfl⟩
instance : TOne Tryd.prog 5 := ⟨Tryd.isAgg5, Tryd.sizeOf5⟩
instance : TZero Tryd.prog 5 (Go.Value.int Go.IntKind.u8 0) := ⟨Tryd.zeroValue5⟩
instance : TU8 Tryd.prog 5 := ⟨Tryd.underlying5⟩
instance : TElem Tryd.prog 5 (Go.Value.int Go.IntKind.u8 0) 1 1 := ⟨Tryd.t5, info_of (Tryd.typeInfo5 default), rfl, rfl, rfl, rfl⟩
instance : TOne Tryd.prog 6 := ⟨Tryd.isAgg6, Tryd.sizeOf6⟩
instance : TZero Tryd.prog 6 (Go.Value.int Go.IntKind.u8 0) := ⟨Tryd.zeroValue6⟩
instance : TU8 Tryd.prog 6 := ⟨Tryd.underlying6⟩
instance : TElem Tryd.prog 6 (Go.Value.int Go.IntKind.u8 0) 1 1 := ⟨Tryd.t6, info_of (Tryd.typeInfo6 default), rfl, rfl, rfl, rfl⟩
instance : TAgg Tryd.prog 7 4 := ⟨Tryd.isAgg7, Tryd.sizeOf7⟩
instance : TZero Tryd.prog 7 (Go.Value.agg #[Go.Value.int Go.IntKind.i64 0, Go.Value.int Go.IntKind.i64 0, Go.Value.bool Bool.false, Go.Value.int Go.IntKind.u8 0]) := ⟨Tryd.zeroValue7⟩
instance : TElem Tryd.prog 7 (Go.Value.agg #[Go.Value.int Go.IntKind.i64 0, Go.Value.int Go.IntKind.i64 0, Go.Value.bool Bool.false, Go.Value.int Go.IntKind.u8 0]) 4 24 := ⟨Tryd.t7, info_of (Tryd.typeInfo7 default), rfl, rfl, rfl, rfl⟩
instance : TAgg Tryd.prog 8 4 := ⟨Tryd.isAgg8, Tryd.sizeOf8⟩
instance : TZero Tryd.prog 8 (Go.Value.agg #[Go.Value.int Go.IntKind.i64 0, Go.Value.int Go.IntKind.i64 0, Go.Value.bool Bool.false, Go.Value.int Go.IntKind.u8 0]) := ⟨Tryd.zeroValue8⟩
instance : TElem Tryd.prog 8 (Go.Value.agg #[Go.Value.int Go.IntKind.i64 0, Go.Value.int Go.IntKind.i64 0, Go.Value.bool Bool.false, Go.Value.int Go.IntKind.u8 0]) 4 24 := ⟨Tryd.t8, info_of (Tryd.typeInfo8 default), rfl, rfl, rfl, rfl⟩
instance : TOne Tryd.prog 9 := ⟨Tryd.isAgg9, Tryd.sizeOf9⟩
instance : TZero Tryd.prog 9 (Go.Value.string { data := #[] }) := ⟨Tryd.zeroValue9⟩
instance : TStr Tryd.prog 9 := ⟨Tryd.underlying9⟩
instance : TRow Tryd.prog 9 := ⟨_, Tryd.underlying9, by intro k h; cases h⟩
instance : TElem Tryd.prog 9 (Go.Value.string { data := #[] }) 1 16 := ⟨Tryd.t9, info_of (Tryd.typeInfo9 default), rfl, rfl, rfl, rfl⟩
instance : TOne Tryd.prog 10 := ⟨Tryd.isAgg10, Tryd.sizeOf10⟩
instance : TZero Tryd.prog 10 (Go.Value.string { data := #[] }) := ⟨Tryd.zeroValue10⟩
instance : TStr Tryd.prog 10 := ⟨Tryd.underlying10⟩
instance : TRow Tryd.prog 10 := ⟨_, Tryd.underlying10, by intro k h; cases h⟩
instance : TElem Tryd.prog 10 (Go.Value.string { data := #[] }) 1 16 := ⟨Tryd.t10, info_of (Tryd.typeInfo10 default), rfl, rfl, rfl, rfl⟩
instance : TOne Tryd.prog 11 := ⟨Tryd.isAgg11, Tryd.sizeOf11⟩
instance : TZero Tryd.prog 11 (Go.Value.string { data := #[] }) := ⟨Tryd.zeroValue11⟩
instance : TStr Tryd.prog 11 := ⟨Tryd.underlying11⟩
instance : TRow Tryd.prog 11 := ⟨_, Tryd.underlying11, by intro k h; cases h⟩
instance : TElem Tryd.prog 11 (Go.Value.string { data := #[] }) 1 16 := ⟨Tryd.t11, info_of (Tryd.typeInfo11 default), rfl, rfl, rfl, rfl⟩
instance : TOne Tryd.prog 12 := ⟨Tryd.isAgg12, Tryd.sizeOf12⟩
instance : TZero Tryd.prog 12 (Go.Value.int Go.IntKind.u64 0) := ⟨Tryd.zeroValue12⟩
instance : TElem Tryd.prog 12 (Go.Value.int Go.IntKind.u64 0) 1 8 := ⟨Tryd.t12, info_of (Tryd.typeInfo12 default), rfl, rfl, rfl, rfl⟩
instance : TAgg Tryd.prog 13 2 := ⟨Tryd.isAgg13, Tryd.sizeOf13⟩
instance : TZero Tryd.prog 13 (Go.Value.agg #[Go.Value.string { data := #[] }, Go.Value.int Go.IntKind.u64 0]) := ⟨Tryd.zeroValue13⟩
instance : TElem Tryd.prog 13 (Go.Value.agg #[Go.Value.string { data := #[] }, Go.Value.int Go.IntKind.u64 0]) 2 24 := ⟨Tryd.t13, info_of (Tryd.typeInfo13 default), rfl, rfl, rfl, rfl⟩
instance : TAgg Tryd.prog 14 2 := ⟨Tryd.isAgg14, Tryd.sizeOf14⟩
instance : TZero Tryd.prog 14 (Go.Value.agg #[Go.Value.string { data := #[] }, Go.Value.int Go.IntKind.u64 0]) := ⟨Tryd.zeroValue14⟩
instance : TElem Tryd.prog 14 (Go.Value.agg #[Go.Value.string { data := #[] }, Go.Value.int Go.IntKind.u64 0]) 2 24 := ⟨Tryd.t14, info_of (Tryd.typeInfo14 default), rfl, rfl, rfl, rfl⟩
instance : TOne Tryd.prog 15 := ⟨Tryd.isAgg15, Tryd.sizeOf15⟩
instance : TZero Tryd.prog 15 (Go.Value.pointer Option.none) := ⟨Tryd.zeroValue15⟩
instance : TElem Tryd.prog 15 (Go.Value.pointer Option.none) 1 8 := ⟨Tryd.t15, info_of (Tryd.typeInfo15 default), rfl, rfl, rfl, rfl⟩
instance : TOne Tryd.prog 16 := ⟨Tryd.isAgg16, Tryd.sizeOf16⟩
instance : TZero Tryd.prog 16 (Go.Value.pointer Option.none) := ⟨Tryd.zeroValue16⟩
instance : TElem Tryd.prog 16 (Go.Value.pointer Option.none) 1 8 := ⟨Tryd.t16, info_of (Tryd.typeInfo16 default), rfl, rfl, rfl, rfl⟩
instance : TOne Tryd.prog 17 := ⟨Tryd.isAgg17, Tryd.sizeOf17⟩
instance : TZero Tryd.prog 17 (Go.Value.pointer Option.none) := ⟨Tryd.zeroValue17⟩
instance : TElem Tryd.prog 17 (Go.Value.pointer Option.none) 1 8 := ⟨Tryd.t17, info_of (Tryd.typeInfo17 default), rfl, rfl, rfl, rfl⟩
instance : TAgg Tryd.prog 18 1 := ⟨Tryd.isAgg18, Tryd.sizeOf18⟩
instance : TZero Tryd.prog 18 (Go.Value.agg #[Go.Value.pointer Option.none]) := ⟨Tryd.zeroValue18⟩
instance : TElem Tryd.prog 18 (Go.Value.agg #[Go.Value.pointer Option.none]) 1 8 := ⟨Tryd.t18, info_of (Tryd.typeInfo18 default), rfl, rfl, rfl, rfl⟩
instance : TAgg Tryd.prog 19 1 := ⟨Tryd.isAgg19, Tryd.sizeOf19⟩
instance : TZero Tryd.prog 19 (Go.Value.agg #[Go.Value.pointer Option.none]) := ⟨Tryd.zeroValue19⟩
instance : TElem Tryd.prog 19 (Go.Value.agg #[Go.Value.pointer Option.none]) 1 8 := ⟨Tryd.t19, info_of (Tryd.typeInfo19 default), rfl, rfl, rfl, rfl⟩
instance : TOne Tryd.prog 20 := ⟨Tryd.isAgg20, Tryd.sizeOf20⟩
instance : TZero Tryd.prog 20 (Go.Value.nilIface) := ⟨Tryd.zeroValue20⟩
instance : TElem Tryd.prog 20 (Go.Value.nilIface) 1 16 := ⟨Tryd.t20, info_of (Tryd.typeInfo20 default), rfl, rfl, rfl, rfl⟩
instance : TOne Tryd.prog 21 := ⟨Tryd.isAgg21, Tryd.sizeOf21⟩
instance : TZero Tryd.prog 21 (Go.Value.int Go.IntKind.i32 0) := ⟨Tryd.zeroValue21⟩
instance : TElem Tryd.prog 21 (Go.Value.int Go.IntKind.i32 0) 1 4 := ⟨Tryd.t21, info_of (Tryd.typeInfo21 default), rfl, rfl, rfl, rfl⟩
instance : TOne Tryd.prog 22 := ⟨Tryd.isAgg22, Tryd.sizeOf22⟩
instance : TZero Tryd.prog 22 (Go.Value.slice Option.none 0 0) := ⟨Tryd.zeroValue22⟩
instance : TSlice Tryd.prog 22 5 := ⟨Tryd.underlying22⟩
instance : TRow Tryd.prog 22 := ⟨_, Tryd.underlying22, by intro k h; cases h⟩
instance : TElem Tryd.prog 22 (Go.Value.slice Option.none 0 0) 1 24 := ⟨Tryd.t22, info_of (Tryd.typeInfo22 default), rfl, rfl, rfl, rfl⟩
instance : TAgg Tryd.prog 23 4 := ⟨Tryd.isAgg23, Tryd.sizeOf23⟩
instance : TZero Tryd.prog 23 (Go.Value.agg #[Go.Value.slice Option.none 0 0, Go.Value.int Go.IntKind.i64 0, Go.Value.int Go.IntKind.i64 0, Go.Value.int Go.IntKind.i64 0]) := ⟨Tryd.zeroValue23⟩
instance : TElem Tryd.prog 23 (Go.Value.agg #[Go.Value.slice Option.none 0 0, Go.Value.int Go.IntKind.i64 0, Go.Value.int Go.IntKind.i64 0, Go.Value.int Go.IntKind.i64 0]) 4 48 := ⟨Tryd.t23, info_of (Tryd.typeInfo23 default), rfl, rfl, rfl, rfl⟩
instance : TAgg Tryd.prog 24 4 := ⟨Tryd.isAgg24, Tryd.sizeOf24⟩
instance : TZero Tryd.prog 24 (Go.Value.agg #[Go.Value.slice Option.none 0 0, Go.Value.int Go.IntKind.i64 0, Go.Value.int Go.IntKind.i64 0, Go.Value.int Go.IntKind.i64 0]) := ⟨Tryd.zeroValue24⟩
instance : TElem Tryd.prog 24 (Go.Value.agg #[Go.Value.slice Option.none 0 0, Go.Value.int Go.IntKind.i64 0, Go.Value.int Go.IntKind.i64 0, Go.Value.int Go.IntKind.i64 0]) 4 48 := ⟨Tryd.t24, info_of (Tryd.typeInfo24 default), rfl, rfl, rfl, rfl⟩
instance : TAgg Tryd.prog 25 4 := ⟨Tryd.isAgg25, Tryd.sizeOf25⟩
instance : TZero Tryd.prog 25 (Go.Value.agg #[Go.Value.int Go.IntKind.i64 0, Go.Value.slice Option.none 0 0, Go.Value.int Go.IntKind.i64 0, Go.Value.int Go.IntKind.i64 0]) := ⟨Tryd.zeroValue25⟩
instance : TElem Tryd.prog 25 (Go.Value.agg #[Go.Value.int Go.IntKind.i64 0, Go.Value.slice Option.none 0 0, Go.Value.int Go.IntKind.i64 0, Go.Value.int Go.IntKind.i64 0]) 4 48 := ⟨Tryd.t25, info_of (Tryd.typeInfo25 default), rfl, rfl, rfl, rfl⟩
instance : TAgg Tryd.prog 26 4 := ⟨Tryd.isAgg26, Tryd.sizeOf26⟩
instance : TZero Tryd.prog 26 (Go.Value.agg #[Go.Value.int Go.IntKind.i64 0, Go.Value.slice Option.none 0 0, Go.Value.int Go.IntKind.i64 0, Go.Value.int Go.IntKind.i64 0]) := ⟨Tryd.zeroValue26⟩
instance : TElem Tryd.prog 26 (Go.Value.agg #[Go.Value.int Go.IntKind.i64 0, Go.Value.slice Option.none 0 0, Go.Value.int Go.IntKind.i64 0, Go.Value.int Go.IntKind.i64 0]) 4 48 := ⟨Tryd.t26, info_of (Tryd.typeInfo26 default), rfl, rfl, rfl, rfl⟩
instance : TOne Tryd.prog 27 := ⟨Tryd.isAgg27, Tryd.sizeOf27⟩
instance : TZero Tryd.prog 27 (Go.Value.nilFunc) := ⟨Tryd.zeroValue27⟩
instance : TElem Tryd.prog 27 (Go.Value.nilFunc) 1 8 := ⟨Tryd.t27, info_of (Tryd.typeInfo27 default), rfl, rfl, rfl, rfl⟩
instance : TOne Tryd.prog 28 := ⟨Tryd.isAgg28, Tryd.sizeOf28⟩
instance : TZero Tryd.prog 28 (Go.Value.nilFunc) := ⟨Tryd.zeroValue28⟩
instance : TElem Tryd.prog 28 (Go.Value.nilFunc) 1 8 := ⟨Tryd.t28, info_of (Tryd.typeInfo28 default), rfl, rfl, rfl, rfl⟩
instance : TOne Tryd.prog 29 := ⟨Tryd.isAgg29, Tryd.sizeOf29⟩
instance : TZero Tryd.prog 29 (Go.Value.pointer Option.none) := ⟨Tryd.zeroValue29⟩
instance : TElem Tryd.prog 29 (Go.Value.pointer Option.none) 1 8 := ⟨Tryd.t29, info_of (Tryd.typeInfo29 default), rfl, rfl, rfl, rfl⟩
instance : TOne Tryd.prog 30 := ⟨Tryd.isAgg30, Tryd.sizeOf30⟩
instance : TZero Tryd.prog 30 (Go.Value.tuple #[Go.Value.agg #[Go.Value.slice Option.none 0 0, Go.Value.int Go.IntKind.i64 0, Go.Value.int Go.IntKind.i64 0, Go.Value.int Go.IntKind.i64 0], Go.Value.pointer Option.none]) := ⟨Tryd.zeroValue30⟩
instance : TElem Tryd.prog 30 (Go.Value.tuple #[Go.Value.agg #[Go.Value.slice Option.none 0 0, Go.Value.int Go.IntKind.i64 0, Go.Value.int Go.IntKind.i64 0, Go.Value.int Go.IntKind.i64 0], Go.Value.pointer Option.none]) 1 0 := ⟨Tryd.t30, info_of (Tryd.typeInfo30 default), rfl, rfl, rfl, rfl⟩
instance : TOne Tryd.prog 31 := ⟨Tryd.isAgg31, Tryd.sizeOf31⟩
instance : TZero Tryd.prog 31 (Go.Value.nilFunc) := ⟨Tryd.zeroValue31⟩
instance : TElem Tryd.prog 31 (Go.Value.nilFunc) 1 8 := ⟨Tryd.t31, info_of (Tryd.typeInfo31 default), rfl, rfl, rfl, rfl⟩
instance : TOne Tryd.prog 32 := ⟨Tryd.isAgg32, Tryd.sizeOf32⟩
instance : TZero Tryd.prog 32 (Go.Value.nilFunc) := ⟨Tryd.zeroValue32⟩
instance : TElem Tryd.prog 32 (Go.Value.nilFunc) 1 8 := ⟨Tryd.t32, info_of (Tryd.typeInfo32 default), rfl, rfl, rfl, rfl⟩
instance : TAgg Tryd.prog 33 6 := ⟨Tryd.isAgg33, Tryd.sizeOf33⟩
instance : TZero Tryd.prog 33 (Go.Value.agg #[Go.Value.int Go.IntKind.i64 0, Go.Value.int Go.IntKind.i64 0, Go.Value.int Go.IntKind.i64 0, Go.Value.int Go.IntKind.i64 0, Go.Value.slice Option.none 0 0, Go.Value.bool Bool.false]) := ⟨Tryd.zeroValue33⟩
instance : TElem Tryd.prog 33 (Go.Value.agg #[Go.Value.int Go.IntKind.i64 0, Go.Value.int Go.IntKind.i64 0, Go.Value.int Go.IntKind.i64 0, Go.Value.int Go.IntKind.i64 0, Go.Value.slice Option.none 0 0, Go.Value.bool Bool.false]) 6 64 := ⟨Tryd.t33, info_of (Tryd.typeInfo33 default), rfl, rfl, rfl, rfl⟩
instance : TAgg Tryd.prog 34 6 := ⟨Tryd.isAgg34, Tryd.sizeOf34⟩
instance : TZero Tryd.prog 34 (Go.Value.agg #[Go.Value.int Go.IntKind.i64 0, Go.Value.int Go.IntKind.i64 0, Go.Value.int Go.IntKind.i64 0, Go.Value.int Go.IntKind.i64 0, Go.Value.slice Option.none 0 0, Go.Value.bool Bool.false]) := ⟨Tryd.zeroValue34⟩
instance : TElem Tryd.prog 34 (Go.Value.agg #[Go.Value.int Go.IntKind.i64 0, Go.Value.int Go.IntKind.i64 0, Go.Value.int Go.IntKind.i64 0, Go.Value.int Go.IntKind.i64 0, Go.Value.slice Option.none 0 0, Go.Value.bool Bool.false]) 6 64 := ⟨Tryd.t34, info_of (Tryd.typeInfo34 default), rfl, rfl, rfl, rfl⟩
instance : TOne Tryd.prog 35 := ⟨Tryd.isAgg35, Tryd.sizeOf35⟩
instance : TZero Tryd.prog 35 (Go.Value.slice Option.none 0 0) := ⟨Tryd.zeroValue35⟩
instance : TSlice Tryd.prog 35 4 := ⟨Tryd.underlying35⟩
instance : TRow Tryd.prog 35 := ⟨_, Tryd.underlying35, by intro k h; cases h⟩
instance : TElem Tryd.prog 35 (Go.Value.slice Option.none 0 0) 1 24 := ⟨Tryd.t35, info_of (Tryd.typeInfo35 default), rfl, rfl, rfl, rfl⟩
instance : TAgg Tryd.prog 36 8 := ⟨Tryd.isAgg36, Tryd.sizeOf36⟩
instance : TZero Tryd.prog 36 (Go.Value.agg #[Go.Value.int Go.IntKind.i64 0, Go.Value.int Go.IntKind.i64 0, Go.Value.int Go.IntKind.i64 0, Go.Value.int Go.IntKind.i64 0, Go.Value.slice Option.none 0 0, Go.Value.bool Bool.false, Go.Value.slice Option.none 0 0, Go.Value.bool Bool.false]) := ⟨Tryd.zeroValue36⟩
instance : TElem Tryd.prog 36 (Go.Value.agg #[Go.Value.int Go.IntKind.i64 0, Go.Value.int Go.IntKind.i64 0, Go.Value.int Go.IntKind.i64 0, Go.Value.int Go.IntKind.i64 0, Go.Value.slice Option.none 0 0, Go.Value.bool Bool.false, Go.Value.slice Option.none 0 0, Go.Value.bool Bool.false]) 8 96 := ⟨Tryd.t36, info_of (Tryd.typeInfo36 default), rfl, rfl, rfl, rfl⟩
instance : TAgg Tryd.prog 37 8 := ⟨Tryd.isAgg37, Tryd.sizeOf37⟩
instance : TZero Tryd.prog 37 (Go.Value.agg #[Go.Value.int Go.IntKind.i64 0, Go.Value.int Go.IntKind.i64 0, Go.Value.int Go.IntKind.i64 0, Go.Value.int Go.IntKind.i64 0, Go.Value.slice Option.none 0 0, Go.Value.bool Bool.false, Go.Value.slice Option.none 0 0, Go.Value.bool Bool.false]) := ⟨Tryd.zeroValue37⟩
instance : TElem Tryd.prog 37 (Go.Value.agg #[Go.Value.int Go.IntKind.i64 0, Go.Value.int Go.IntKind.i64 0, Go.Value.int Go.IntKind.i64 0, Go.Value.int Go.IntKind.i64 0, Go.Value.slice Option.none 0 0, Go.Value.bool Bool.false, Go.Value.slice Option.none 0 0, Go.Value.bool Bool.false]) 8 96 := ⟨Tryd.t37, info_of (Tryd.typeInfo37 default), rfl, rfl, rfl, rfl⟩
instance : TOne Tryd.prog 38 := ⟨Tryd.isAgg38, Tryd.sizeOf38⟩
instance : TZero Tryd.prog 38 (Go.Value.nilFunc) := ⟨Tryd.zeroValue38⟩
instance : TElem Tryd.prog 38 (Go.Value.nilFunc) 1 8 := ⟨Tryd.t38, info_of (Tryd.typeInfo38 default), rfl, rfl, rfl, rfl⟩
instance : TOne Tryd.prog 39 := ⟨Tryd.isAgg39, Tryd.sizeOf39⟩
instance : TZero Tryd.prog 39 (Go.Value.tuple #[Go.Value.agg #[Go.Value.slice Option.none 0 0, Go.Value.int Go.IntKind.i64 0, Go.Value.int Go.IntKind.i64 0, Go.Value.int Go.IntKind.i64 0], Go.Value.agg #[Go.Value.int Go.IntKind.i64 0, Go.Value.int Go.IntKind.i64 0, Go.Value.int Go.IntKind.i64 0, Go.Value.int Go.IntKind.i64 0, Go.Value.slice Option.none 0 0, Go.Value.bool Bool.false]]) := ⟨Tryd.zeroValue39⟩
instance : TElem Tryd.prog 39 (Go.Value.tuple #[Go.Value.agg #[Go.Value.slice Option.none 0 0, Go.Value.int Go.IntKind.i64 0, Go.Value.int Go.IntKind.i64 0, Go.Value.int Go.IntKind.i64 0], Go.Value.agg #[Go.Value.int Go.IntKind.i64 0, Go.Value.int Go.IntKind.i64 0, Go.Value.int Go.IntKind.i64 0, Go.Value.int Go.IntKind.i64 0, Go.Value.slice Option.none 0 0, Go.Value.bool Bool.false]]) 1 0 := ⟨Tryd.t39, info_of (Tryd.typeInfo39 default), rfl, rfl, rfl, rfl⟩
instance : TOne Tryd.prog 40 := ⟨Tryd.isAgg40, Tryd.sizeOf40⟩
instance : TZero Tryd.prog 40 (Go.Value.nilFunc) := ⟨Tryd.zeroValue40⟩
instance : TElem Tryd.prog 40 (Go.Value.nilFunc) 1 8 := ⟨Tryd.t40, info_of (Tryd.typeInfo40 default), rfl, rfl, rfl, rfl⟩
instance : TOne Tryd.prog 41 := ⟨Tryd.isAgg41, Tryd.sizeOf41⟩
instance : TZero Tryd.prog 41 (Go.Value.nilFunc) := ⟨Tryd.zeroValue41⟩
instance : TElem Tryd.prog 41 (Go.Value.nilFunc) 1 8 := ⟨Tryd.t41, info_of (Tryd.typeInfo41 default), rfl, rfl, rfl, rfl⟩
instance : TAgg Tryd.prog 42 6 := ⟨Tryd.isAgg42, Tryd.sizeOf42⟩
instance : TZero Tryd.prog 42 (Go.Value.agg #[Go.Value.int Go.IntKind.i64 0, Go.Value.int Go.IntKind.i64 0, Go.Value.int Go.IntKind.i64 0, Go.Value.int Go.IntKind.i64 0, Go.Value.slice Option.none 0 0, Go.Value.slice Option.none 0 0]) := ⟨Tryd.zeroValue42⟩
instance : TElem Tryd.prog 42 (Go.Value.agg #[Go.Value.int Go.IntKind.i64 0, Go.Value.int Go.IntKind.i64 0, Go.Value.int Go.IntKind.i64 0, Go.Value.int Go.IntKind.i64 0, Go.Value.slice Option.none 0 0, Go.Value.slice Option.none 0 0]) 6 80 := ⟨Tryd.t42, info_of (Tryd.typeInfo42 default), rfl, rfl, rfl, rfl⟩
instance : TAgg Tryd.prog 43 6 := ⟨Tryd.isAgg43, Tryd.sizeOf43⟩
instance : TZero Tryd.prog 43 (Go.Value.agg #[Go.Value.int Go.IntKind.i64 0, Go.Value.int Go.IntKind.i64 0, Go.Value.int Go.IntKind.i64 0, Go.Value.int Go.IntKind.i64 0, Go.Value.slice Option.none 0 0, Go.Value.slice Option.none 0 0]) := ⟨Tryd.zeroValue43⟩
instance : TElem Tryd.prog 43 (Go.Value.agg #[Go.Value.int Go.IntKind.i64 0, Go.Value.int Go.IntKind.i64 0, Go.Value.int Go.IntKind.i64 0, Go.Value.int Go.IntKind.i64 0, Go.Value.slice Option.none 0 0, Go.Value.slice Option.none 0 0]) 6 80 := ⟨Tryd.t43, info_of (Tryd.typeInfo43 default), rfl, rfl, rfl, rfl⟩
instance : TOne Tryd.prog 44 := ⟨Tryd.isAgg44, Tryd.sizeOf44⟩
instance : TZero Tryd.prog 44 (Go.Value.nilFunc) := ⟨Tryd.zeroValue44⟩
instance : TElem Tryd.prog 44 (Go.Value.nilFunc) 1 8 := ⟨Tryd.t44, info_of (Tryd.typeInfo44 default), rfl, rfl, rfl, rfl⟩
instance : TOne Tryd.prog 45 := ⟨Tryd.isAgg45, Tryd.sizeOf45⟩
instance : TZero Tryd.prog 45 (Go.Value.slice Option.none 0 0) := ⟨Tryd.zeroValue45⟩
instance : TSlice Tryd.prog 45 22 := ⟨Tryd.underlying45⟩
instance : TRow Tryd.prog 45 := ⟨_, Tryd.underlying45, by intro k h; cases h⟩
instance : TElem Tryd.prog 45 (Go.Value.slice Option.none 0 0) 1 24 := ⟨Tryd.t45, info_of (Tryd.typeInfo45 default), rfl, rfl, rfl, rfl⟩
instance : TOne Tryd.prog 46 := ⟨Tryd.isAgg46, Tryd.sizeOf46⟩
instance : TZero Tryd.prog 46 (Go.Value.nilFunc) := ⟨Tryd.zeroValue46⟩
instance : TElem Tryd.prog 46 (Go.Value.nilFunc) 1 8 := ⟨Tryd.t46, info_of (Tryd.typeInfo46 default), rfl, rfl, rfl, rfl⟩
instance : TOne Tryd.prog 47 := ⟨Tryd.isAgg47, Tryd.sizeOf47⟩
instance : TZero Tryd.prog 47 (Go.Value.int Go.IntKind.u64 0) := ⟨Tryd.zeroValue47⟩
instance : TElem Tryd.prog 47 (Go.Value.int Go.IntKind.u64 0) 1 8 := ⟨Tryd.t47, info_of (Tryd.typeInfo47 default), rfl, rfl, rfl, rfl⟩
instance : TOne Tryd.prog 48 := ⟨Tryd.isAgg48, Tryd.sizeOf48⟩
instance : TZero Tryd.prog 48 (Go.Value.nilFunc) := ⟨Tryd.zeroValue48⟩
instance : TElem Tryd.prog 48 (Go.Value.nilFunc) 1 8 := ⟨Tryd.t48, info_of (Tryd.typeInfo48 default), rfl, rfl, rfl, rfl⟩
instance : TOne Tryd.prog 49 := ⟨Tryd.isAgg49, Tryd.sizeOf49⟩
instance : TZero Tryd.prog 49 (Go.Value.slice Option.none 0 0) := ⟨Tryd.zeroValue49⟩
instance : TSlice Tryd.prog 49 26 := ⟨Tryd.underlying49⟩
instance : TRow Tryd.prog 49 := ⟨_, Tryd.underlying49, by intro k h; cases h⟩
instance : TElem Tryd.prog 49 (Go.Value.slice Option.none 0 0) 1 24 := ⟨Tryd.t49, info_of (Tryd.typeInfo49 default), rfl, rfl, rfl, rfl⟩
instance : TOne Tryd.prog 50 := ⟨Tryd.isAgg50, Tryd.sizeOf50⟩
instance : TZero Tryd.prog 50 (Go.Value.nilFunc) := ⟨Tryd.zeroValue50⟩
instance : TElem Tryd.prog 50 (Go.Value.nilFunc) 1 8 := ⟨Tryd.t50, info_of (Tryd.typeInfo50 default), rfl, rfl, rfl, rfl⟩
instance : TOne Tryd.prog 51 := ⟨Tryd.isAgg51, Tryd.sizeOf51⟩
instance : TZero Tryd.prog 51 (Go.Value.slice Option.none 0 0) := ⟨Tryd.zeroValue51⟩
instance : TSlice Tryd.prog 51 34 := ⟨Tryd.underlying51⟩
instance : TRow Tryd.prog 51 := ⟨_, Tryd.underlying51, by intro k h; cases h⟩
instance : TElem Tryd.prog 51 (Go.Value.slice Option.none 0 0) 1 24 := ⟨Tryd.t51, info_of (Tryd.typeInfo51 default), rfl, rfl, rfl, rfl⟩
instance : TOne Tryd.prog 52 := ⟨Tryd.isAgg52, Tryd.sizeOf52⟩
instance : TZero Tryd.prog 52 (Go.Value.tuple #[Go.Value.slice Option.none 0 0, Go.Value.int Go.IntKind.i64 0]) := ⟨Tryd.zeroValue52⟩
instance : TElem Tryd.prog 52 (Go.Value.tuple #[Go.Value.slice Option.none 0 0, Go.Value.int Go.IntKind.i64 0]) 1 0 := ⟨Tryd.t52, info_of (Tryd.typeInfo52 default), rfl, rfl, rfl, rfl⟩
instance : TOne Tryd.prog 53 := ⟨Tryd.isAgg53, Tryd.sizeOf53⟩
instance : TZero Tryd.prog 53 (Go.Value.nilFunc) := ⟨Tryd.zeroValue53⟩
instance : TElem Tryd.prog 53 (Go.Value.nilFunc) 1 8 := ⟨Tryd.t53, info_of (Tryd.typeInfo53 default), rfl, rfl, rfl, rfl⟩
instance : TOne Tryd.prog 54 := ⟨Tryd.isAgg54, Tryd.sizeOf54⟩
instance : TZero Tryd.prog 54 (Go.Value.tuple #[Go.Value.slice Option.none 0 0, Go.Value.slice Option.none 0 0, Go.Value.bool Bool.false]) := ⟨Tryd.zeroValue54⟩
instance : TElem Tryd.prog 54 (Go.Value.tuple #[Go.Value.slice Option.none 0 0, Go.Value.slice Option.none 0 0, Go.Value.bool Bool.false]) 1 0 := ⟨Tryd.t54, info_of (Tryd.typeInfo54 default), rfl, rfl, rfl, rfl⟩
instance : TOne Tryd.prog 55 := ⟨Tryd.isAgg55, Tryd.sizeOf55⟩
instance : TZero Tryd.prog 55 (Go.Value.nilFunc) := ⟨Tryd.zeroValue55⟩
instance : TElem Tryd.prog 55 (Go.Value.nilFunc) 1 8 := ⟨Tryd.t55, info_of (Tryd.typeInfo55 default), rfl, rfl, rfl, rfl⟩
instance : TOne Tryd.prog 56 := ⟨Tryd.isAgg56, Tryd.sizeOf56⟩
instance : TZero Tryd.prog 56 (Go.Value.nilFunc) := ⟨Tryd.zeroValue56⟩
instance : TElem Tryd.prog 56 (Go.Value.nilFunc) 1 8 := ⟨Tryd.t56, info_of (Tryd.typeInfo56 default), rfl, rfl, rfl, rfl⟩
instance : TOne Tryd.prog 57 := ⟨Tryd.isAgg57, Tryd.sizeOf57⟩
instance : TZero Tryd.prog 57 (Go.Value.nilFunc) := ⟨Tryd.zeroValue57⟩
instance : TElem Tryd.prog 57 (Go.Value.nilFunc) 1 8 := ⟨Tryd.t57, info_of (Tryd.typeInfo57 default), rfl, rfl, rfl, rfl⟩
instance : TOne Tryd.prog 58 := ⟨Tryd.isAgg58, Tryd.sizeOf58⟩
instance : TZero Tryd.prog 58 (Go.Value.slice Option.none 0 0) := ⟨Tryd.zeroValue58⟩
instance : TSlice Tryd.prog 58 37 := ⟨Tryd.underlying58⟩
instance : TRow Tryd.prog 58 := ⟨_, Tryd.underlying58, by intro k h; cases h⟩
instance : TElem Tryd.prog 58 (Go.Value.slice Option.none 0 0) 1 24 := ⟨Tryd.t58, info_of (Tryd.typeInfo58 default), rfl, rfl, rfl, rfl⟩
instance : TOne Tryd.prog 59 := ⟨Tryd.isAgg59, Tryd.sizeOf59⟩
instance : TZero Tryd.prog 59 (Go.Value.nilFunc) := ⟨Tryd.zeroValue59⟩
instance : TElem Tryd.prog 59 (Go.Value.nilFunc) 1 8 := ⟨Tryd.t59, info_of (Tryd.typeInfo59 default), rfl, rfl, rfl, rfl⟩
instance : TOne Tryd.prog 60 := ⟨Tryd.isAgg60, Tryd.sizeOf60⟩
instance : TZero Tryd.prog 60 (Go.Value.slice Option.none 0 0) := ⟨Tryd.zeroValue60⟩
instance : TSlice Tryd.prog 60 66 := ⟨Tryd.underlying60⟩
instance : TRow Tryd.prog 60 := ⟨_, Tryd.underlying60, by intro k h; cases h⟩
instance : TElem Tryd.prog 60 (Go.Value.slice Option.none 0 0) 1 24 := ⟨Tryd.t60, info_of (Tryd.typeInfo60 default), rfl, rfl, rfl, rfl⟩
instance : TOne Tryd.prog 61 := ⟨Tryd.isAgg61, Tryd.sizeOf61⟩
instance : TZero Tryd.prog 61 (Go.Value.nilFunc) := ⟨Tryd.zeroValue61⟩
instance : TElem Tryd.prog 61 (Go.Value.nilFunc) 1 8 := ⟨Tryd.t61, info_of (Tryd.typeInfo61 default), rfl, rfl, rfl, rfl⟩
instance : TOne Tryd.prog 62 := ⟨Tryd.isAgg62, Tryd.sizeOf62⟩
instance : TZero Tryd.prog 62 (Go.Value.nilFunc) := ⟨Tryd.zeroValue62⟩
instance : TElem Tryd.prog 62 (Go.Value.nilFunc) 1 8 := ⟨Tryd.t62, info_of (Tryd.typeInfo62 default), rfl, rfl, rfl, rfl⟩
instance : TOne Tryd.prog 63 := ⟨Tryd.isAgg63, Tryd.sizeOf63⟩
instance : TZero Tryd.prog 63 (Go.Value.int Go.IntKind.u32 0) := ⟨Tryd.zeroValue63⟩
instance : TElem Tryd.prog 63 (Go.Value.int Go.IntKind.u32 0) 1 4 := ⟨Tryd.t63, info_of (Tryd.typeInfo63 default), rfl, rfl, rfl, rfl⟩
instance : TOne Tryd.prog 64 := ⟨Tryd.isAgg64, Tryd.sizeOf64⟩
instance : TZero Tryd.prog 64 (Go.Value.int Go.IntKind.u64 0) := ⟨Tryd.zeroValue64⟩
instance : TElem Tryd.prog 64 (Go.Value.int Go.IntKind.u64 0) 1 8 := ⟨Tryd.t64, info_of (Tryd.typeInfo64 default), rfl, rfl, rfl, rfl⟩
instance : TAgg Tryd.prog 65 10 := ⟨Tryd.isAgg65, Tryd.sizeOf65⟩
instance : TZero Tryd.prog 65 (Go.Value.agg #[Go.Value.int Go.IntKind.i64 0, Go.Value.slice Option.none 0 0, Go.Value.slice Option.none 0 0, Go.Value.int Go.IntKind.i64 0, Go.Value.int Go.IntKind.u32 0, Go.Value.int Go.IntKind.u64 0, Go.Value.bool Bool.false, Go.Value.bool Bool.false, Go.Value.int Go.IntKind.i64 0, Go.Value.slice Option.none 0 0]) := ⟨Tryd.zeroValue65⟩
instance : TElem Tryd.prog 65 (Go.Value.agg #[Go.Value.int Go.IntKind.i64 0, Go.Value.slice Option.none 0 0, Go.Value.slice Option.none 0 0, Go.Value.int Go.IntKind.i64 0, Go.Value.int Go.IntKind.u32 0, Go.Value.int Go.IntKind.u64 0, Go.Value.bool Bool.false, Go.Value.bool Bool.false, Go.Value.int Go.IntKind.i64 0, Go.Value.slice Option.none 0 0]) 10 120 := ⟨Tryd.t65, info_of (Tryd.typeInfo65 default), rfl, rfl, rfl, rfl⟩
instance : TAgg Tryd.prog 66 10 := ⟨Tryd.isAgg66, Tryd.sizeOf66⟩
instance : TZero Tryd.prog 66 (Go.Value.agg #[Go.Value.int Go.IntKind.i64 0, Go.Value.slice Option.none 0 0, Go.Value.slice Option.none 0 0, Go.Value.int Go.IntKind.i64 0, Go.Value.int Go.IntKind.u32 0, Go.Value.int Go.IntKind.u64 0, Go.Value.bool Bool.false, Go.Value.bool Bool.false, Go.Value.int Go.IntKind.i64 0, Go.Value.slice Option.none 0 0]) := ⟨Tryd.zeroValue66⟩
instance : TElem Tryd.prog 66 (Go.Value.agg #[Go.Value.int Go.IntKind.i64 0, Go.Value.slice Option.none 0 0, Go.Value.slice Option.none 0 0, Go.Value.int Go.IntKind.i64 0, Go.Value.int Go.IntKind.u32 0, Go.Value.int Go.IntKind.u64 0, Go.Value.bool Bool.false, Go.Value.bool Bool.false, Go.Value.int Go.IntKind.i64 0, Go.Value.slice Option.none 0 0]) 10 120 := ⟨Tryd.t66, info_of (Tryd.typeInfo66 default), rfl, rfl, rfl, rfl⟩
instance : TOne Tryd.prog 67 := ⟨Tryd.isAgg67, Tryd.sizeOf67⟩
instance : TZero Tryd.prog 67 (Go.Value.slice Option.none 0 0) := ⟨Tryd.zeroValue67⟩
instance : TSlice Tryd.prog 67 73 := ⟨Tryd.underlying67⟩
instance : TRow Tryd.prog 67 := ⟨_, Tryd.underlying67, by intro k h; cases h⟩
instance : TElem Tryd.prog 67 (Go.Value.slice Option.none 0 0) 1 24 := ⟨Tryd.t67, info_of (Tryd.typeInfo67 default), rfl, rfl, rfl, rfl⟩
instance : TOne Tryd.prog 68 := ⟨Tryd.isAgg68, Tryd.sizeOf68⟩
instance : TZero Tryd.prog 68 (Go.Value.tuple #[Go.Value.slice Option.none 0 0, Go.Value.int Go.IntKind.i64 0]) := ⟨Tryd.zeroValue68⟩
instance : TElem Tryd.prog 68 (Go.Value.tuple #[Go.Value.slice Option.none 0 0, Go.Value.int Go.IntKind.i64 0]) 1 0 := ⟨Tryd.t68, info_of (Tryd.typeInfo68 default), rfl, rfl, rfl, rfl⟩
instance : TOne Tryd.prog 69 := ⟨Tryd.isAgg69, Tryd.sizeOf69⟩
instance : TZero Tryd.prog 69 (Go.Value.nilFunc) := ⟨Tryd.zeroValue69⟩
instance : TElem Tryd.prog 69 (Go.Value.nilFunc) 1 8 := ⟨Tryd.t69, info_of (Tryd.typeInfo69 default), rfl, rfl, rfl, rfl⟩
instance : TOne Tryd.prog 70 := ⟨Tryd.isAgg70, Tryd.sizeOf70⟩
instance : TZero Tryd.prog 70 (Go.Value.slice Option.none 0 0) := ⟨Tryd.zeroValue70⟩
instance : TSlice Tryd.prog 70 2 := ⟨Tryd.underlying70⟩
instance : TRow Tryd.prog 70 := ⟨_, Tryd.underlying70, by intro k h; cases h⟩
instance : TElem Tryd.prog 70 (Go.Value.slice Option.none 0 0) 1 24 := ⟨Tryd.t70, info_of (Tryd.typeInfo70 default), rfl, rfl, rfl, rfl⟩
instance : TOne Tryd.prog 71 := ⟨Tryd.isAgg71, Tryd.sizeOf71⟩
instance : TZero Tryd.prog 71 (Go.Value.slice Option.none 0 0) := ⟨Tryd.zeroValue71⟩
instance : TSlice Tryd.prog 71 110 := ⟨Tryd.underlying71⟩
instance : TRow Tryd.prog 71 := ⟨_, Tryd.underlying71, by intro k h; cases h⟩
instance : TElem Tryd.prog 71 (Go.Value.slice Option.none 0 0) 1 24 := ⟨Tryd.t71, info_of (Tryd.typeInfo71 default), rfl, rfl, rfl, rfl⟩
instance : TAgg Tryd.prog 72 7 := ⟨Tryd.isAgg72, Tryd.sizeOf72⟩
instance : TZero Tryd.prog 72 (Go.Value.agg #[Go.Value.int Go.IntKind.i64 0, Go.Value.slice Option.none 0 0, Go.Value.int Go.IntKind.u32 0, Go.Value.bool Bool.false, Go.Value.bool Bool.false, Go.Value.slice Option.none 0 0, Go.Value.slice Option.none 0 0]) := ⟨Tryd.zeroValue72⟩
instance : TElem Tryd.prog 72 (Go.Value.agg #[Go.Value.int Go.IntKind.i64 0, Go.Value.slice Option.none 0 0, Go.Value.int Go.IntKind.u32 0, Go.Value.bool Bool.false, Go.Value.bool Bool.false, Go.Value.slice Option.none 0 0, Go.Value.slice Option.none 0 0]) 7 88 := ⟨Tryd.t72, info_of (Tryd.typeInfo72 default), rfl, rfl, rfl, rfl⟩
instance : TAgg Tryd.prog 73 7 := ⟨Tryd.isAgg73, Tryd.sizeOf73⟩
instance : TZero Tryd.prog 73 (Go.Value.agg #[Go.Value.int Go.IntKind.i64 0, Go.Value.slice Option.none 0 0, Go.Value.int Go.IntKind.u32 0, Go.Value.bool Bool.false, Go.Value.bool Bool.false, Go.Value.slice Option.none 0 0, Go.Value.slice Option.none 0 0]) := ⟨Tryd.zeroValue73⟩
instance : TElem Tryd.prog 73 (Go.Value.agg #[Go.Value.int Go.IntKind.i64 0, Go.Value.slice Option.none 0 0, Go.Value.int Go.IntKind.u32 0, Go.Value.bool Bool.false, Go.Value.bool Bool.false, Go.Value.slice Option.none 0 0, Go.Value.slice Option.none 0 0]) 7 88 := ⟨Tryd.t73, info_of (Tryd.typeInfo73 default), rfl, rfl, rfl, rfl⟩
instance : TOne Tryd.prog 74 := ⟨Tryd.isAgg74, Tryd.sizeOf74⟩
instance : TZero Tryd.prog 74 (Go.Value.nilFunc) := ⟨Tryd.zeroValue74⟩
instance : TElem Tryd.prog 74 (Go.Value.nilFunc) 1 8 := ⟨Tryd.t74, info_of (Tryd.typeInfo74 default), rfl, rfl, rfl, rfl⟩
instance : TOne Tryd.prog 75 := ⟨Tryd.isAgg75, Tryd.sizeOf75⟩
instance : TZero Tryd.prog 75 (Go.Value.nilFunc) := ⟨Tryd.zeroValue75⟩
instance : TElem Tryd.prog 75 (Go.Value.nilFunc) 1 8 := ⟨Tryd.t75, info_of (Tryd.typeInfo75 default), rfl, rfl, rfl, rfl⟩
instance : TOne Tryd.prog 76 := ⟨Tryd.isAgg76, Tryd.sizeOf76⟩
instance : TZero Tryd.prog 76 (Go.Value.nilFunc) := ⟨Tryd.zeroValue76⟩
instance : TElem Tryd.prog 76 (Go.Value.nilFunc) 1 8 := ⟨Tryd.t76, info_of (Tryd.typeInfo76 default), rfl, rfl, rfl, rfl⟩
instance : TOne Tryd.prog 77 := ⟨Tryd.isAgg77, Tryd.sizeOf77⟩
instance : TZero Tryd.prog 77 (Go.Value.nilFunc) := ⟨Tryd.zeroValue77⟩
instance : TElem Tryd.prog 77 (Go.Value.nilFunc) 1 8 := ⟨Tryd.t77, info_of (Tryd.typeInfo77 default), rfl, rfl, rfl, rfl⟩
instance : TOne Tryd.prog 78 := ⟨Tryd.isAgg78, Tryd.sizeOf78⟩
instance : TZero Tryd.prog 78 (Go.Value.nilFunc) := ⟨Tryd.zeroValue78⟩
instance : TElem Tryd.prog 78 (Go.Value.nilFunc) 1 8 := ⟨Tryd.t78, info_of (Tryd.typeInfo78 default), rfl, rfl, rfl, rfl⟩
instance : TOne Tryd.prog 79 := ⟨Tryd.isAgg79, Tryd.sizeOf79⟩
instance : TZero Tryd.prog 79 (Go.Value.nilFunc) := ⟨Tryd.zeroValue79⟩
instance : TElem Tryd.prog 79 (Go.Value.nilFunc) 1 8 := ⟨Tryd.t79, info_of (Tryd.typeInfo79 default), rfl, rfl, rfl, rfl⟩
instance : TOne Tryd.prog 80 := ⟨Tryd.isAgg80, Tryd.sizeOf80⟩
instance : TZero Tryd.prog 80 (Go.Value.tuple #[Go.Value.bool Bool.false, Go.Value.bool Bool.false]) := ⟨Tryd.zeroValue80⟩
instance : TElem Tryd.prog 80 (Go.Value.tuple #[Go.Value.bool Bool.false, Go.Value.bool Bool.false]) 1 0 := ⟨Tryd.t80, info_of (Tryd.typeInfo80 default), rfl, rfl, rfl, rfl⟩
instance : TOne Tryd.prog 81 := ⟨Tryd.isAgg81, Tryd.sizeOf81⟩
instance : TZero Tryd.prog 81 (Go.Value.nilFunc) := ⟨Tryd.zeroValue81⟩
instance : TElem Tryd.prog 81 (Go.Value.nilFunc) 1 8 := ⟨Tryd.t81, info_of (Tryd.typeInfo81 default), rfl, rfl, rfl, rfl⟩
instance : TOne Tryd.prog 82 := ⟨Tryd.isAgg82, Tryd.sizeOf82⟩
instance : TZero Tryd.prog 82 (Go.Value.nilFunc) := ⟨Tryd.zeroValue82⟩
instance : TElem Tryd.prog 82 (Go.Value.nilFunc) 1 8 := ⟨Tryd.t82, info_of (Tryd.typeInfo82 default), rfl, rfl, rfl, rfl⟩
instance : TOne Tryd.prog 83 := ⟨Tryd.isAgg83, Tryd.sizeOf83⟩
instance : TZero Tryd.prog 83 (Go.Value.nilFunc) := ⟨Tryd.zeroValue83⟩
instance : TElem Tryd.prog 83 (Go.Value.nilFunc) 1 8 := ⟨Tryd.t83, info_of (Tryd.typeInfo83 default), rfl, rfl, rfl, rfl⟩
instance : TAgg Tryd.prog 84 4 := ⟨Tryd.isAgg84, Tryd.sizeOf84⟩
instance : TZero Tryd.prog 84 (Go.Value.agg #[Go.Value.int Go.IntKind.i64 0, Go.Value.int Go.IntKind.i64 0, Go.Value.slice Option.none 0 0, Go.Value.int Go.IntKind.i64 0]) := ⟨Tryd.zeroValue84⟩
instance : TElem Tryd.prog 84 (Go.Value.agg #[Go.Value.int Go.IntKind.i64 0, Go.Value.int Go.IntKind.i64 0, Go.Value.slice Option.none 0 0, Go.Value.int Go.IntKind.i64 0]) 4 48 := ⟨Tryd.t84, info_of (Tryd.typeInfo84 default), rfl, rfl, rfl, rfl⟩
instance : TAgg Tryd.prog 85 4 := ⟨Tryd.isAgg85, Tryd.sizeOf85⟩
instance : TZero Tryd.prog 85 (Go.Value.agg #[Go.Value.int Go.IntKind.i64 0, Go.Value.int Go.IntKind.i64 0, Go.Value.slice Option.none 0 0, Go.Value.int Go.IntKind.i64 0]) := ⟨Tryd.zeroValue85⟩
instance : TElem Tryd.prog 85 (Go.Value.agg #[Go.Value.int Go.IntKind.i64 0, Go.Value.int Go.IntKind.i64 0, Go.Value.slice Option.none 0 0, Go.Value.int Go.IntKind.i64 0]) 4 48 := ⟨Tryd.t85, info_of (Tryd.typeInfo85 default), rfl, rfl, rfl, rfl⟩
instance : TOne Tryd.prog 86 := ⟨Tryd.isAgg86, Tryd.sizeOf86⟩
instance : TZero Tryd.prog 86 (Go.Value.nilFunc) := ⟨Tryd.zeroValue86⟩
instance : TElem Tryd.prog 86 (Go.Value.nilFunc) 1 8 := ⟨Tryd.t86, info_of (Tryd.typeInfo86 default), rfl, rfl, rfl, rfl⟩
instance : TOne Tryd.prog 87 := ⟨Tryd.isAgg87, Tryd.sizeOf87⟩
instance : TZero Tryd.prog 87 (Go.Value.nilFunc) := ⟨Tryd.zeroValue87⟩
instance : TElem Tryd.prog 87 (Go.Value.nilFunc) 1 8 := ⟨Tryd.t87, info_of (Tryd.typeInfo87 default), rfl, rfl, rfl, rfl⟩
instance : TOne Tryd.prog 88 := ⟨Tryd.isAgg88, Tryd.sizeOf88⟩
instance : TZero Tryd.prog 88 (Go.Value.pointer Option.none) := ⟨Tryd.zeroValue88⟩
instance : TElem Tryd.prog 88 (Go.Value.pointer Option.none) 1 8 := ⟨Tryd.t88, info_of (Tryd.typeInfo88 default), rfl, rfl, rfl, rfl⟩
instance : TOne Tryd.prog 89 := ⟨Tryd.isAgg89, Tryd.sizeOf89⟩
instance : TZero Tryd.prog 89 (Go.Value.tuple #[Go.Value.slice Option.none 0 0, Go.Value.int Go.IntKind.i64 0, Go.Value.int Go.IntKind.i64 0, Go.Value.int Go.IntKind.i64 0]) := ⟨Tryd.zeroValue89⟩
instance : TElem Tryd.prog 89 (Go.Value.tuple #[Go.Value.slice Option.none 0 0, Go.Value.int Go.IntKind.i64 0, Go.Value.int Go.IntKind.i64 0, Go.Value.int Go.IntKind.i64 0]) 1 0 := ⟨Tryd.t89, info_of (Tryd.typeInfo89 default), rfl, rfl, rfl, rfl⟩
instance : TOne Tryd.prog 90 := ⟨Tryd.isAgg90, Tryd.sizeOf90⟩
instance : TZero Tryd.prog 90 (Go.Value.nilFunc) := ⟨Tryd.zeroValue90⟩
instance : TElem Tryd.prog 90 (Go.Value.nilFunc) 1 8 := ⟨Tryd.t90, info_of (Tryd.typeInfo90 default), rfl, rfl, rfl, rfl⟩
instance : TOne Tryd.prog 91 := ⟨Tryd.isAgg91, Tryd.sizeOf91⟩
instance : TZero Tryd.prog 91 (Go.Value.nilFunc) := ⟨Tryd.zeroValue91⟩
instance : TElem Tryd.prog 91 (Go.Value.nilFunc) 1 8 := ⟨Tryd.t91, info_of (Tryd.typeInfo91 default), rfl, rfl, rfl, rfl⟩
instance : TOne Tryd.prog 92 := ⟨Tryd.isAgg92, Tryd.sizeOf92⟩
instance : TZero Tryd.prog 92 (Go.Value.nilFunc) := ⟨Tryd.zeroValue92⟩
instance : TElem Tryd.prog 92 (Go.Value.nilFunc) 1 8 := ⟨Tryd.t92, info_of (Tryd.typeInfo92 default), rfl, rfl, rfl, rfl⟩
instance : TOne Tryd.prog 93 := ⟨Tryd.isAgg93, Tryd.sizeOf93⟩
instance : TZero Tryd.prog 93 (Go.Value.nilFunc) := ⟨Tryd.zeroValue93⟩
instance : TElem Tryd.prog 93 (Go.Value.nilFunc) 1 8 := ⟨Tryd.t93, info_of (Tryd.typeInfo93 default), rfl, rfl, rfl, rfl⟩
instance : TOne Tryd.prog 94 := ⟨Tryd.isAgg94, Tryd.sizeOf94⟩
instance : TZero Tryd.prog 94 (Go.Value.nilFunc) := ⟨Tryd.zeroValue94⟩
instance : TElem Tryd.prog 94 (Go.Value.nilFunc) 1 8 := ⟨Tryd.t94, info_of (Tryd.typeInfo94 default), rfl, rfl, rfl, rfl⟩
instance : TOne Tryd.prog 95 := ⟨Tryd.isAgg95, Tryd.sizeOf95⟩
instance : TZero Tryd.prog 95 (Go.Value.nilFunc) := ⟨Tryd.zeroValue95⟩
instance : TElem Tryd.prog 95 (Go.Value.nilFunc) 1 8 := ⟨Tryd.t95, info_of (Tryd.typeInfo95 default), rfl, rfl, rfl, rfl⟩
instance : TOne Tryd.prog 96 := ⟨Tryd.isAgg96, Tryd.sizeOf96⟩
instance : TZero Tryd.prog 96 (Go.Value.nilFunc) := ⟨Tryd.zeroValue96⟩
instance : TElem Tryd.prog 96 (Go.Value.nilFunc) 1 8 := ⟨Tryd.t96, info_of (Tryd.typeInfo96 default), rfl, rfl, rfl, rfl⟩
instance : TOne Tryd.prog 97 := ⟨Tryd.isAgg97, Tryd.sizeOf97⟩
instance : TZero Tryd.prog 97 (Go.Value.pointer Option.none) := ⟨Tryd.zeroValue97⟩
instance : TElem Tryd.prog 97 (Go.Value.pointer Option.none) 1 8 := ⟨Tryd.t97, info_of (Tryd.typeInfo97 default), rfl, rfl, rfl, rfl⟩
instance : TAgg Tryd.prog 98 1 := ⟨Tryd.isAgg98, Tryd.sizeOf98⟩
instance : TZero Tryd.prog 98 (Go.Value.agg #[Go.Value.int Go.IntKind.u32 0]) := ⟨Tryd.zeroValue98⟩
instance : TElem Tryd.prog 98 (Go.Value.agg #[Go.Value.int Go.IntKind.u32 0]) 1 4 := ⟨Tryd.t98, info_of (Tryd.typeInfo98 default), rfl, rfl, rfl, rfl⟩
instance : TAgg Tryd.prog 99 1 := ⟨Tryd.isAgg99, Tryd.sizeOf99⟩
instance : TZero Tryd.prog 99 (Go.Value.agg #[Go.Value.int Go.IntKind.u32 0]) := ⟨Tryd.zeroValue99⟩
instance : TElem Tryd.prog 99 (Go.Value.agg #[Go.Value.int Go.IntKind.u32 0]) 1 4 := ⟨Tryd.t99, info_of (Tryd.typeInfo99 default), rfl, rfl, rfl, rfl⟩
instance : TOne Tryd.prog 100 := ⟨Tryd.isAgg100, Tryd.sizeOf100⟩
instance : TZero Tryd.prog 100 (Go.Value.nilIface) := ⟨Tryd.zeroValue100⟩
instance : TElem Tryd.prog 100 (Go.Value.nilIface) 1 16 := ⟨Tryd.t100, info_of (Tryd.typeInfo100 default), rfl, rfl, rfl, rfl⟩
instance : TOne Tryd.prog 101 := ⟨Tryd.isAgg101, Tryd.sizeOf101⟩
instance : TZero Tryd.prog 101 (Go.Value.nilIface) := ⟨Tryd.zeroValue101⟩
instance : TElem Tryd.prog 101 (Go.Value.nilIface) 1 16 := ⟨Tryd.t101, info_of (Tryd.typeInfo101 default), rfl, rfl, rfl, rfl⟩
instance : TAgg Tryd.prog 102 256 := ⟨Tryd.isAgg102, Tryd.sizeOf102⟩
instance : TZero Tryd.prog 102 (Go.Value.agg Go.Proofs.Tryd.zeroCells102) := ⟨Tryd.zeroValue102⟩
instance : TOne Tryd.prog 103 := ⟨Tryd.isAgg103, Tryd.sizeOf103⟩
instance : TZero Tryd.prog 103 (Go.Value.slice Option.none 0 0) := ⟨Tryd.zeroValue103⟩
instance : TSlice Tryd.prog 103 155 := ⟨Tryd.underlying103⟩
instance : TRow Tryd.prog 103 := ⟨_, Tryd.underlying103, by intro k h; cases h⟩
instance : TElem Tryd.prog 103 (Go.Value.slice Option.none 0 0) 1 24 := ⟨Tryd.t103, info_of (Tryd.typeInfo103 default), rfl, rfl, rfl, rfl⟩
instance : TAgg Tryd.prog 104 275 := ⟨Tryd.isAgg104, Tryd.sizeOf104⟩
instance : TZero Tryd.prog 104 (Go.Value.agg Go.Proofs.Tryd.zeroCells104) := ⟨Tryd.zeroValue104⟩
instance : TAgg Tryd.prog 105 275 := ⟨Tryd.isAgg105, Tryd.sizeOf105⟩
instance : TZero Tryd.prog 105 (Go.Value.agg Go.Proofs.Tryd.zeroCells105) := ⟨Tryd.zeroValue105⟩
instance : TOne Tryd.prog 106 := ⟨Tryd.isAgg106, Tryd.sizeOf106⟩
instance : TZero Tryd.prog 106 (Go.Value.nilFunc) := ⟨Tryd.zeroValue106⟩
instance : TElem Tryd.prog 106 (Go.Value.nilFunc) 1 8 := ⟨Tryd.t106, info_of (Tryd.typeInfo106 default), rfl, rfl, rfl, rfl⟩
instance : TOne Tryd.prog 107 := ⟨Tryd.isAgg107, Tryd.sizeOf107⟩
instance : TZero Tryd.prog 107 (Go.Value.nilFunc) := ⟨Tryd.zeroValue107⟩
instance : TElem Tryd.prog 107 (Go.Value.nilFunc) 1 8 := ⟨Tryd.t107, info_of (Tryd.typeInfo107 default), rfl, rfl, rfl, rfl⟩
instance : TOne Tryd.prog 108 := ⟨Tryd.isAgg108, Tryd.sizeOf108⟩
instance : TZero Tryd.prog 108 (Go.Value.pointer Option.none) := ⟨Tryd.zeroValue108⟩
instance : TElem Tryd.prog 108 (Go.Value.pointer Option.none) 1 8 := ⟨Tryd.t108, info_of (Tryd.typeInfo108 default), rfl, rfl, rfl, rfl⟩
instance : TAgg Tryd.prog 109 4 := ⟨Tryd.isAgg109, Tryd.sizeOf109⟩
instance : TZero Tryd.prog 109 (Go.Value.agg #[Go.Value.int Go.IntKind.i64 0, Go.Value.slice Option.none 0 0, Go.Value.slice Option.none 0 0, Go.Value.int Go.IntKind.u32 0]) := ⟨Tryd.zeroValue109⟩
instance : TElem Tryd.prog 109 (Go.Value.agg #[Go.Value.int Go.IntKind.i64 0, Go.Value.slice Option.none 0 0, Go.Value.slice Option.none 0 0, Go.Value.int Go.IntKind.u32 0]) 4 64 := ⟨Tryd.t109, info_of (Tryd.typeInfo109 default), rfl, rfl, rfl, rfl⟩
instance : TAgg Tryd.prog 110 4 := ⟨Tryd.isAgg110, Tryd.sizeOf110⟩
instance : TZero Tryd.prog 110 (Go.Value.agg #[Go.Value.int Go.IntKind.i64 0, Go.Value.slice Option.none 0 0, Go.Value.slice Option.none 0 0, Go.Value.int Go.IntKind.u32 0]) := ⟨Tryd.zeroValue110⟩
instance : TElem Tryd.prog 110 (Go.Value.agg #[Go.Value.int Go.IntKind.i64 0, Go.Value.slice Option.none 0 0, Go.Value.slice Option.none 0 0, Go.Value.int Go.IntKind.u32 0]) 4 64 := ⟨Tryd.t110, info_of (Tryd.typeInfo110 default), rfl, rfl, rfl, rfl⟩
instance : TOne Tryd.prog 111 := ⟨Tryd.isAgg111, Tryd.sizeOf111⟩
instance : TZero Tryd.prog 111 (Go.Value.nilIface) := ⟨Tryd.zeroValue111⟩
instance : TElem Tryd.prog 111 (Go.Value.nilIface) 1 16 := ⟨Tryd.t111, info_of (Tryd.typeInfo111 default), rfl, rfl, rfl, rfl⟩
instance : TOne Tryd.prog 112 := ⟨Tryd.isAgg112, Tryd.sizeOf112⟩
instance : TZero Tryd.prog 112 (Go.Value.nilIface) := ⟨Tryd.zeroValue112⟩
instance : TElem Tryd.prog 112 (Go.Value.nilIface) 1 16 := ⟨Tryd.t112, info_of (Tryd.typeInfo112 default), rfl, rfl, rfl, rfl⟩
instance : TOne Tryd.prog 113 := ⟨Tryd.isAgg113, Tryd.sizeOf113⟩
instance : TZero Tryd.prog 113 (Go.Value.tuple #[Go.Value.int Go.IntKind.i64 0, Go.Value.nilIface]) := ⟨Tryd.zeroValue113⟩
instance : TElem Tryd.prog 113 (Go.Value.tuple #[Go.Value.int Go.IntKind.i64 0, Go.Value.nilIface]) 1 0 := ⟨Tryd.t113, info_of (Tryd.typeInfo113 default), rfl, rfl, rfl, rfl⟩
instance : TOne Tryd.prog 114 := ⟨Tryd.isAgg114, Tryd.sizeOf114⟩
instance : TZero Tryd.prog 114 (Go.Value.nilFunc) := ⟨Tryd.zeroValue114⟩
instance : TElem Tryd.prog 114 (Go.Value.nilFunc) 1 8 := ⟨Tryd.t114, info_of (Tryd.typeInfo114 default), rfl, rfl, rfl, rfl⟩
instance : TOne Tryd.prog 115 := ⟨Tryd.isAgg115, Tryd.sizeOf115⟩
instance : TZero Tryd.prog 115 (Go.Value.nilFunc) := ⟨Tryd.zeroValue115⟩
instance : TElem Tryd.prog 115 (Go.Value.nilFunc) 1 8 := ⟨Tryd.t115, info_of (Tryd.typeInfo115 default), rfl, rfl, rfl, rfl⟩
instance : TOne Tryd.prog 116 := ⟨Tryd.isAgg116, Tryd.sizeOf116⟩
instance : TZero Tryd.prog 116 (Go.Value.nilFunc) := ⟨Tryd.zeroValue116⟩
instance : TElem Tryd.prog 116 (Go.Value.nilFunc) 1 8 := ⟨Tryd.t116, info_of (Tryd.typeInfo116 default), rfl, rfl, rfl, rfl⟩
instance : TOne Tryd.prog 117 := ⟨Tryd.isAgg117, Tryd.sizeOf117⟩
instance : TZero Tryd.prog 117 (Go.Value.tuple #[Go.Value.slice Option.none 0 0, Go.Value.nilIface]) := ⟨Tryd.zeroValue117⟩
instance : TElem Tryd.prog 117 (Go.Value.tuple #[Go.Value.slice Option.none 0 0, Go.Value.nilIface]) 1 0 := ⟨Tryd.t117, info_of (Tryd.typeInfo117 default), rfl, rfl, rfl, rfl⟩
instance : TOne Tryd.prog 118 := ⟨Tryd.isAgg118, Tryd.sizeOf118⟩
instance : TZero Tryd.prog 118 (Go.Value.nilFunc) := ⟨Tryd.zeroValue118⟩
instance : TElem Tryd.prog 118 (Go.Value.nilFunc) 1 8 := ⟨Tryd.t118, info_of (Tryd.typeInfo118 default), rfl, rfl, rfl, rfl⟩
instance : TOne Tryd.prog 119 := ⟨Tryd.isAgg119, Tryd.sizeOf119⟩
instance : TZero Tryd.prog 119 (Go.Value.nilFunc) := ⟨Tryd.zeroValue119⟩
instance : TElem Tryd.prog 119 (Go.Value.nilFunc) 1 8 := ⟨Tryd.t119, info_of (Tryd.typeInfo119 default), rfl, rfl, rfl, rfl⟩
instance : TOne Tryd.prog 120 := ⟨Tryd.isAgg120, Tryd.sizeOf120⟩
instance : TZero Tryd.prog 120 (Go.Value.nilFunc) := ⟨Tryd.zeroValue120⟩
instance : TElem Tryd.prog 120 (Go.Value.nilFunc) 1 8 := ⟨Tryd.t120, info_of (Tryd.typeInfo120 default), rfl, rfl, rfl, rfl⟩
instance : TOne Tryd.prog 121 := ⟨Tryd.isAgg121, Tryd.sizeOf121⟩
instance : TZero Tryd.prog 121 (Go.Value.nilFunc) := ⟨Tryd.zeroValue121⟩
instance : TElem Tryd.prog 121 (Go.Value.nilFunc) 1 8 := ⟨Tryd.t121, info_of (Tryd.typeInfo121 default), rfl, rfl, rfl, rfl⟩
instance : TOne Tryd.prog 122 := ⟨Tryd.isAgg122, Tryd.sizeOf122⟩
instance : TZero Tryd.prog 122 (Go.Value.nilFunc) := ⟨Tryd.zeroValue122⟩
instance : TElem Tryd.prog 122 (Go.Value.nilFunc) 1 8 := ⟨Tryd.t122, info_of (Tryd.typeInfo122 default), rfl, rfl, rfl, rfl⟩
instance : TOne Tryd.prog 123 := ⟨Tryd.isAgg123, Tryd.sizeOf123⟩
instance : TZero Tryd.prog 123 (Go.Value.nilFunc) := ⟨Tryd.zeroValue123⟩
instance : TElem Tryd.prog 123 (Go.Value.nilFunc) 1 8 := ⟨Tryd.t123, info_of (Tryd.typeInfo123 default), rfl, rfl, rfl, rfl⟩
instance : TOne Tryd.prog 124 := ⟨Tryd.isAgg124, Tryd.sizeOf124⟩
instance : TZero Tryd.prog 124 (Go.Value.nilFunc) := ⟨Tryd.zeroValue124⟩
instance : TElem Tryd.prog 124 (Go.Value.nilFunc) 1 8 := ⟨Tryd.t124, info_of (Tryd.typeInfo124 default), rfl, rfl, rfl, rfl⟩
instance : TOne Tryd.prog 125 := ⟨Tryd.isAgg125, Tryd.sizeOf125⟩
instance : TZero Tryd.prog 125 (Go.Value.nilFunc) := ⟨Tryd.zeroValue125⟩
instance : TElem Tryd.prog 125 (Go.Value.nilFunc) 1 8 := ⟨Tryd.t125, info_of (Tryd.typeInfo125 default), rfl, rfl, rfl, rfl⟩
instance : TOne Tryd.prog 126 := ⟨Tryd.isAgg126, Tryd.sizeOf126⟩
instance : TZero Tryd.prog 126 (Go.Value.tuple #[Go.Value.slice Option.none 0 0, Go.Value.int Go.IntKind.u32 0, Go.Value.nilIface]) := ⟨Tryd.zeroValue126⟩
instance : TElem Tryd.prog 126 (Go.Value.tuple #[Go.Value.slice Option.none 0 0, Go.Value.int Go.IntKind.u32 0, Go.Value.nilIface]) 1 0 := ⟨Tryd.t126, info_of (Tryd.typeInfo126 default), rfl, rfl, rfl, rfl⟩
instance : TOne Tryd.prog 127 := ⟨Tryd.isAgg127, Tryd.sizeOf127⟩
instance : TZero Tryd.prog 127 (Go.Value.nilFunc) := ⟨Tryd.zeroValue127⟩
instance : TElem Tryd.prog 127 (Go.Value.nilFunc) 1 8 := ⟨Tryd.t127, info_of (Tryd.typeInfo127 default), rfl, rfl, rfl, rfl⟩
instance : TOne Tryd.prog 128 := ⟨Tryd.isAgg128, Tryd.sizeOf128⟩
instance : TZero Tryd.prog 128 (Go.Value.nilFunc) := ⟨Tryd.zeroValue128⟩
instance : TElem Tryd.prog 128 (Go.Value.nilFunc) 1 8 := ⟨Tryd.t128, info_of (Tryd.typeInfo128 default), rfl, rfl, rfl, rfl⟩
instance : TOne Tryd.prog 129 := ⟨Tryd.isAgg129, Tryd.sizeOf129⟩
instance : TZero Tryd.prog 129 (Go.Value.tuple #[Go.Value.int Go.IntKind.u32 0, Go.Value.nilIface]) := ⟨Tryd.zeroValue129⟩
instance : TElem Tryd.prog 129 (Go.Value.tuple #[Go.Value.int Go.IntKind.u32 0, Go.Value.nilIface]) 1 0 := ⟨Tryd.t129, info_of (Tryd.typeInfo129 default), rfl, rfl, rfl, rfl⟩
instance : TOne Tryd.prog 130 := ⟨Tryd.isAgg130, Tryd.sizeOf130⟩
instance : TZero Tryd.prog 130 (Go.Value.nilFunc) := ⟨Tryd.zeroValue130⟩
instance : TElem Tryd.prog 130 (Go.Value.nilFunc) 1 8 := ⟨Tryd.t130, info_of (Tryd.typeInfo130 default), rfl, rfl, rfl, rfl⟩
instance : TOne Tryd.prog 131 := ⟨Tryd.isAgg131, Tryd.sizeOf131⟩
instance : TZero Tryd.prog 131 (Go.Value.nilFunc) := ⟨Tryd.zeroValue131⟩
instance : TElem Tryd.prog 131 (Go.Value.nilFunc) 1 8 := ⟨Tryd.t131, info_of (Tryd.typeInfo131 default), rfl, rfl, rfl, rfl⟩
instance : TOne Tryd.prog 132 := ⟨Tryd.isAgg132, Tryd.sizeOf132⟩
instance : TZero Tryd.prog 132 (Go.Value.nilFunc) := ⟨Tryd.zeroValue132⟩
instance : TElem Tryd.prog 132 (Go.Value.nilFunc) 1 8 := ⟨Tryd.t132, info_of (Tryd.typeInfo132 default), rfl, rfl, rfl, rfl⟩
instance : TAgg Tryd.prog 133 10 := ⟨Tryd.isAgg133, Tryd.sizeOf133⟩
instance : TZero Tryd.prog 133 (Go.Value.agg #[Go.Value.int Go.IntKind.i64 0, Go.Value.int Go.IntKind.i64 0, Go.Value.int Go.IntKind.i64 0, Go.Value.int Go.IntKind.i64 0, Go.Value.int Go.IntKind.i64 0, Go.Value.int Go.IntKind.i64 0, Go.Value.int Go.IntKind.i64 0, Go.Value.int Go.IntKind.i64 0, Go.Value.int Go.IntKind.i64 0, Go.Value.int Go.IntKind.i64 0]) := ⟨Tryd.zeroValue133⟩
instance : TElem Tryd.prog 133 (Go.Value.agg #[Go.Value.int Go.IntKind.i64 0, Go.Value.int Go.IntKind.i64 0, Go.Value.int Go.IntKind.i64 0, Go.Value.int Go.IntKind.i64 0, Go.Value.int Go.IntKind.i64 0, Go.Value.int Go.IntKind.i64 0, Go.Value.int Go.IntKind.i64 0, Go.Value.int Go.IntKind.i64 0, Go.Value.int Go.IntKind.i64 0, Go.Value.int Go.IntKind.i64 0]) 10 80 := ⟨Tryd.t133, info_of (Tryd.typeInfo133 default), rfl, rfl, rfl, rfl⟩
instance : TOne Tryd.prog 134 := ⟨Tryd.isAgg134, Tryd.sizeOf134⟩
instance : TZero Tryd.prog 134 (Go.Value.nilFunc) := ⟨Tryd.zeroValue134⟩
instance : TElem Tryd.prog 134 (Go.Value.nilFunc) 1 8 := ⟨Tryd.t134, info_of (Tryd.typeInfo134 default), rfl, rfl, rfl, rfl⟩
instance : TOne Tryd.prog 135 := ⟨Tryd.isAgg135, Tryd.sizeOf135⟩
instance : TZero Tryd.prog 135 (Go.Value.nilFunc) := ⟨Tryd.zeroValue135⟩
instance : TElem Tryd.prog 135 (Go.Value.nilFunc) 1 8 := ⟨Tryd.t135, info_of (Tryd.typeInfo135 default), rfl, rfl, rfl, rfl⟩
instance : TOne Tryd.prog 136 := ⟨Tryd.isAgg136, Tryd.sizeOf136⟩
instance : TZero Tryd.prog 136 (Go.Value.nilFunc) := ⟨Tryd.zeroValue136⟩
instance : TElem Tryd.prog 136 (Go.Value.nilFunc) 1 8 := ⟨Tryd.t136, info_of (Tryd.typeInfo136 default), rfl, rfl, rfl, rfl⟩
instance : TOne Tryd.prog 137 := ⟨Tryd.isAgg137, Tryd.sizeOf137⟩
instance : TZero Tryd.prog 137 (Go.Value.nilFunc) := ⟨Tryd.zeroValue137⟩
instance : TElem Tryd.prog 137 (Go.Value.nilFunc) 1 8 := ⟨Tryd.t137, info_of (Tryd.typeInfo137 default), rfl, rfl, rfl, rfl⟩
instance : TOne Tryd.prog 138 := ⟨Tryd.isAgg138, Tryd.sizeOf138⟩
instance : TZero Tryd.prog 138 (Go.Value.nilFunc) := ⟨Tryd.zeroValue138⟩
instance : TElem Tryd.prog 138 (Go.Value.nilFunc) 1 8 := ⟨Tryd.t138, info_of (Tryd.typeInfo138 default), rfl, rfl, rfl, rfl⟩
instance : TOne Tryd.prog 139 := ⟨Tryd.isAgg139, Tryd.sizeOf139⟩
instance : TZero Tryd.prog 139 (Go.Value.nilFunc) := ⟨Tryd.zeroValue139⟩
instance : TElem Tryd.prog 139 (Go.Value.nilFunc) 1 8 := ⟨Tryd.t139, info_of (Tryd.typeInfo139 default), rfl, rfl, rfl, rfl⟩
instance : TOne Tryd.prog 140 := ⟨Tryd.isAgg140, Tryd.sizeOf140⟩
instance : TZero Tryd.prog 140 (Go.Value.nilFunc) := ⟨Tryd.zeroValue140⟩
instance : TElem Tryd.prog 140 (Go.Value.nilFunc) 1 8 := ⟨Tryd.t140, info_of (Tryd.typeInfo140 default), rfl, rfl, rfl, rfl⟩
instance : TOne Tryd.prog 141 := ⟨Tryd.isAgg141, Tryd.sizeOf141⟩
instance : TZero Tryd.prog 141 (Go.Value.nilFunc) := ⟨Tryd.zeroValue141⟩
instance : TElem Tryd.prog 141 (Go.Value.nilFunc) 1 8 := ⟨Tryd.t141, info_of (Tryd.typeInfo141 default), rfl, rfl, rfl, rfl⟩
instance : TOne Tryd.prog 142 := ⟨Tryd.isAgg142, Tryd.sizeOf142⟩
instance : TZero Tryd.prog 142 (Go.Value.nilFunc) := ⟨Tryd.zeroValue142⟩
instance : TElem Tryd.prog 142 (Go.Value.nilFunc) 1 8 := ⟨Tryd.t142, info_of (Tryd.typeInfo142 default), rfl, rfl, rfl, rfl⟩
instance : TOne Tryd.prog 143 := ⟨Tryd.isAgg143, Tryd.sizeOf143⟩
instance : TZero Tryd.prog 143 (Go.Value.nilFunc) := ⟨Tryd.zeroValue143⟩
instance : TElem Tryd.prog 143 (Go.Value.nilFunc) 1 8 := ⟨Tryd.t143, info_of (Tryd.typeInfo143 default), rfl, rfl, rfl, rfl⟩
instance : TOne Tryd.prog 144 := ⟨Tryd.isAgg144, Tryd.sizeOf144⟩
instance : TZero Tryd.prog 144 (Go.Value.nilFunc) := ⟨Tryd.zeroValue144⟩
instance : TElem Tryd.prog 144 (Go.Value.nilFunc) 1 8 := ⟨Tryd.t144, info_of (Tryd.typeInfo144 default), rfl, rfl, rfl, rfl⟩
instance : TOne Tryd.prog 145 := ⟨Tryd.isAgg145, Tryd.sizeOf145⟩
instance : TZero Tryd.prog 145 (Go.Value.int Go.IntKind.u16 0) := ⟨Tryd.zeroValue145⟩
instance : TElem Tryd.prog 145 (Go.Value.int Go.IntKind.u16 0) 1 2 := ⟨Tryd.t145, info_of (Tryd.typeInfo145 default), rfl, rfl, rfl, rfl⟩
instance : TOne Tryd.prog 146 := ⟨Tryd.isAgg146, Tryd.sizeOf146⟩
instance : TZero Tryd.prog 146 (Go.Value.nilFunc) := ⟨Tryd.zeroValue146⟩
instance : TElem Tryd.prog 146 (Go.Value.nilFunc) 1 8 := ⟨Tryd.t146, info_of (Tryd.typeInfo146 default), rfl, rfl, rfl, rfl⟩
instance : TOne Tryd.prog 147 := ⟨Tryd.isAgg147, Tryd.sizeOf147⟩
instance : TZero Tryd.prog 147 (Go.Value.tuple #[Go.Value.int Go.IntKind.i64 0, Go.Value.bool Bool.false]) := ⟨Tryd.zeroValue147⟩
instance : TElem Tryd.prog 147 (Go.Value.tuple #[Go.Value.int Go.IntKind.i64 0, Go.Value.bool Bool.false]) 1 0 := ⟨Tryd.t147, info_of (Tryd.typeInfo147 default), rfl, rfl, rfl, rfl⟩
instance : TOne Tryd.prog 148 := ⟨Tryd.isAgg148, Tryd.sizeOf148⟩
instance : TZero Tryd.prog 148 (Go.Value.nilFunc) := ⟨Tryd.zeroValue148⟩
instance : TElem Tryd.prog 148 (Go.Value.nilFunc) 1 8 := ⟨Tryd.t148, info_of (Tryd.typeInfo148 default), rfl, rfl, rfl, rfl⟩
instance : TAgg Tryd.prog 149 24 := ⟨Tryd.isAgg149, Tryd.sizeOf149⟩
instance : TZero Tryd.prog 149 (Go.Value.agg #[Go.Value.int Go.IntKind.u8 0, Go.Value.int Go.IntKind.u8 0, Go.Value.int Go.IntKind.u8 0, Go.Value.int Go.IntKind.u8 0, Go.Value.int Go.IntKind.u8 0, Go.Value.int Go.IntKind.u8 0, Go.Value.int Go.IntKind.u8 0, Go.Value.int Go.IntKind.u8 0, Go.Value.int Go.IntKind.u8 0, Go.Value.int Go.IntKind.u8 0, Go.Value.int Go.IntKind.u8 0, Go.Value.int Go.IntKind.u8 0, Go.Value.int Go.IntKind.u8 0, Go.Value.int Go.IntKind.u8 0, Go.Value.int Go.IntKind.u8 0, Go.Value.int Go.IntKind.u8 0, Go.Value.int Go.IntKind.u8 0, Go.Value.int Go.IntKind.u8 0, Go.Value.int Go.IntKind.u8 0, Go.Value.int Go.IntKind.u8 0, Go.Value.int Go.IntKind.u8 0, Go.Value.int Go.IntKind.u8 0, Go.Value.int Go.IntKind.u8 0, Go.Value.int Go.IntKind.u8 0]) := ⟨Tryd.zeroValue149⟩
instance : TElem Tryd.prog 149 (Go.Value.agg #[Go.Value.int Go.IntKind.u8 0, Go.Value.int Go.IntKind.u8 0, Go.Value.int Go.IntKind.u8 0, Go.Value.int Go.IntKind.u8 0, Go.Value.int Go.IntKind.u8 0, Go.Value.int Go.IntKind.u8 0, Go.Value.int Go.IntKind.u8 0, Go.Value.int Go.IntKind.u8 0, Go.Value.int Go.IntKind.u8 0, Go.Value.int Go.IntKind.u8 0, Go.Value.int Go.IntKind.u8 0, Go.Value.int Go.IntKind.u8 0, Go.Value.int Go.IntKind.u8 0, Go.Value.int Go.IntKind.u8 0, Go.Value.int Go.IntKind.u8 0, Go.Value.int Go.IntKind.u8 0, Go.Value.int Go.IntKind.u8 0, Go.Value.int Go.IntKind.u8 0, Go.Value.int Go.IntKind.u8 0, Go.Value.int Go.IntKind.u8 0, Go.Value.int Go.IntKind.u8 0, Go.Value.int Go.IntKind.u8 0, Go.Value.int Go.IntKind.u8 0, Go.Value.int Go.IntKind.u8 0]) 24 24 := ⟨Tryd.t149, info_of (Tryd.typeInfo149 default), rfl, rfl, rfl, rfl⟩
instance : TOne Tryd.prog 150 := ⟨Tryd.isAgg150, Tryd.sizeOf150⟩
instance : TZero Tryd.prog 150 (Go.Value.pointer Option.none) := ⟨Tryd.zeroValue150⟩
instance : TElem Tryd.prog 150 (Go.Value.pointer Option.none) 1 8 := ⟨Tryd.t150, info_of (Tryd.typeInfo150 default), rfl, rfl, rfl, rfl⟩
instance : TAgg Tryd.prog 151 9 := ⟨Tryd.isAgg151, Tryd.sizeOf151⟩
instance : TZero Tryd.prog 151 (Go.Value.agg #[Go.Value.int Go.IntKind.u32 0, Go.Value.int Go.IntKind.u32 0, Go.Value.int Go.IntKind.u16 0, Go.Value.int Go.IntKind.u16 0, Go.Value.int Go.IntKind.u32 0, Go.Value.int Go.IntKind.u32 0, Go.Value.bool Bool.false, Go.Value.int Go.IntKind.u8 0, Go.Value.int Go.IntKind.u16 0]) := ⟨Tryd.zeroValue151⟩
instance : TElem Tryd.prog 151 (Go.Value.agg #[Go.Value.int Go.IntKind.u32 0, Go.Value.int Go.IntKind.u32 0, Go.Value.int Go.IntKind.u16 0, Go.Value.int Go.IntKind.u16 0, Go.Value.int Go.IntKind.u32 0, Go.Value.int Go.IntKind.u32 0, Go.Value.bool Bool.false, Go.Value.int Go.IntKind.u8 0, Go.Value.int Go.IntKind.u16 0]) 9 24 := ⟨Tryd.t151, info_of (Tryd.typeInfo151 default), rfl, rfl, rfl, rfl⟩
instance : TAgg Tryd.prog 152 9 := ⟨Tryd.isAgg152, Tryd.sizeOf152⟩
instance : TZero Tryd.prog 152 (Go.Value.agg #[Go.Value.int Go.IntKind.u32 0, Go.Value.int Go.IntKind.u32 0, Go.Value.int Go.IntKind.u16 0, Go.Value.int Go.IntKind.u16 0, Go.Value.int Go.IntKind.u32 0, Go.Value.int Go.IntKind.u32 0, Go.Value.bool Bool.false, Go.Value.int Go.IntKind.u8 0, Go.Value.int Go.IntKind.u16 0]) := ⟨Tryd.zeroValue152⟩
instance : TElem Tryd.prog 152 (Go.Value.agg #[Go.Value.int Go.IntKind.u32 0, Go.Value.int Go.IntKind.u32 0, Go.Value.int Go.IntKind.u16 0, Go.Value.int Go.IntKind.u16 0, Go.Value.int Go.IntKind.u32 0, Go.Value.int Go.IntKind.u32 0, Go.Value.bool Bool.false, Go.Value.int Go.IntKind.u8 0, Go.Value.int Go.IntKind.u16 0]) 9 24 := ⟨Tryd.t152, info_of (Tryd.typeInfo152 default), rfl, rfl, rfl, rfl⟩
instance : TOne Tryd.prog 153 := ⟨Tryd.isAgg153, Tryd.sizeOf153⟩
instance : TZero Tryd.prog 153 (Go.Value.pointer Option.none) := ⟨Tryd.zeroValue153⟩
instance : TElem Tryd.prog 153 (Go.Value.pointer Option.none) 1 8 := ⟨Tryd.t153, info_of (Tryd.typeInfo153 default), rfl, rfl, rfl, rfl⟩
instance : TAgg Tryd.prog 154 4 := ⟨Tryd.isAgg154, Tryd.sizeOf154⟩
instance : TZero Tryd.prog 154 (Go.Value.agg #[Go.Value.int Go.IntKind.i64 0, Go.Value.int Go.IntKind.u16 0, Go.Value.int Go.IntKind.u16 0, Go.Value.int Go.IntKind.u32 0]) := ⟨Tryd.zeroValue154⟩
instance : TElem Tryd.prog 154 (Go.Value.agg #[Go.Value.int Go.IntKind.i64 0, Go.Value.int Go.IntKind.u16 0, Go.Value.int Go.IntKind.u16 0, Go.Value.int Go.IntKind.u32 0]) 4 16 := ⟨Tryd.t154, info_of (Tryd.typeInfo154 default), rfl, rfl, rfl, rfl⟩
instance : TAgg Tryd.prog 155 4 := ⟨Tryd.isAgg155, Tryd.sizeOf155⟩
instance : TZero Tryd.prog 155 (Go.Value.agg #[Go.Value.int Go.IntKind.i64 0, Go.Value.int Go.IntKind.u16 0, Go.Value.int Go.IntKind.u16 0, Go.Value.int Go.IntKind.u32 0]) := ⟨Tryd.zeroValue155⟩
instance : TElem Tryd.prog 155 (Go.Value.agg #[Go.Value.int Go.IntKind.i64 0, Go.Value.int Go.IntKind.u16 0, Go.Value.int Go.IntKind.u16 0, Go.Value.int Go.IntKind.u32 0]) 4 16 := ⟨Tryd.t155, info_of (Tryd.typeInfo155 default), rfl, rfl, rfl, rfl⟩
instance : TOne Tryd.prog 156 := ⟨Tryd.isAgg156, Tryd.sizeOf156⟩
instance : TZero Tryd.prog 156 (Go.Value.nilFunc) := ⟨Tryd.zeroValue156⟩
instance : TElem Tryd.prog 156 (Go.Value.nilFunc) 1 8 := ⟨Tryd.t156, info_of (Tryd.typeInfo156 default), rfl, rfl, rfl, rfl⟩
instance : TOne Tryd.prog 157 := ⟨Tryd.isAgg157, Tryd.sizeOf157⟩
instance : TZero Tryd.prog 157 (Go.Value.nilFunc) := ⟨Tryd.zeroValue157⟩
instance : TElem Tryd.prog 157 (Go.Value.nilFunc) 1 8 := ⟨Tryd.t157, info_of (Tryd.typeInfo157 default), rfl, rfl, rfl, rfl⟩
instance : TOne Tryd.prog 158 := ⟨Tryd.isAgg158, Tryd.sizeOf158⟩
instance : TZero Tryd.prog 158 (Go.Value.pointer Option.none) := ⟨Tryd.zeroValue158⟩
instance : TElem Tryd.prog 158 (Go.Value.pointer Option.none) 1 8 := ⟨Tryd.t158, info_of (Tryd.typeInfo158 default), rfl, rfl, rfl, rfl⟩
instance : TOne Tryd.prog 159 := ⟨Tryd.isAgg159, Tryd.sizeOf159⟩
instance : TZero Tryd.prog 159 (Go.Value.nilFunc) := ⟨Tryd.zeroValue159⟩
instance : TElem Tryd.prog 159 (Go.Value.nilFunc) 1 8 := ⟨Tryd.t159, info_of (Tryd.typeInfo159 default), rfl, rfl, rfl, rfl⟩
instance : TOne Tryd.prog 160 := ⟨Tryd.isAgg160, Tryd.sizeOf160⟩
instance : TZero Tryd.prog 160 (Go.Value.nilFunc) := ⟨Tryd.zeroValue160⟩
instance : TElem Tryd.prog 160 (Go.Value.nilFunc) 1 8 := ⟨Tryd.t160, info_of (Tryd.typeInfo160 default), rfl, rfl, rfl, rfl⟩
instance : TOne Tryd.prog 161 := ⟨Tryd.isAgg161, Tryd.sizeOf161⟩
instance : TZero Tryd.prog 161 (Go.Value.nilFunc) := ⟨Tryd.zeroValue161⟩
instance : TElem Tryd.prog 161 (Go.Value.nilFunc) 1 8 := ⟨Tryd.t161, info_of (Tryd.typeInfo161 default), rfl, rfl, rfl, rfl⟩
instance : TOne Tryd.prog 162 := ⟨Tryd.isAgg162, Tryd.sizeOf162⟩
instance : TZero Tryd.prog 162 (Go.Value.tuple #[Go.Value.agg #[Go.Value.int Go.IntKind.u32 0, Go.Value.int Go.IntKind.u32 0, Go.Value.int Go.IntKind.u16 0, Go.Value.int Go.IntKind.u16 0, Go.Value.int Go.IntKind.u32 0, Go.Value.int Go.IntKind.u32 0, Go.Value.bool Bool.false, Go.Value.int Go.IntKind.u8 0, Go.Value.int Go.IntKind.u16 0], Go.Value.int Go.IntKind.i64 0, Go.Value.nilIface]) := ⟨Tryd.zeroValue162⟩
instance : TElem Tryd.prog 162 (Go.Value.tuple #[Go.Value.agg #[Go.Value.int Go.IntKind.u32 0, Go.Value.int Go.IntKind.u32 0, Go.Value.int Go.IntKind.u16 0, Go.Value.int Go.IntKind.u16 0, Go.Value.int Go.IntKind.u32 0, Go.Value.int Go.IntKind.u32 0, Go.Value.bool Bool.false, Go.Value.int Go.IntKind.u8 0, Go.Value.int Go.IntKind.u16 0], Go.Value.int Go.IntKind.i64 0, Go.Value.nilIface]) 1 0 := ⟨Tryd.t162, info_of (Tryd.typeInfo162 default), rfl, rfl, rfl, rfl⟩
instance : TOne Tryd.prog 163 := ⟨Tryd.isAgg163, Tryd.sizeOf163⟩
instance : TZero Tryd.prog 163 (Go.Value.nilFunc) := ⟨Tryd.zeroValue163⟩
instance : TElem Tryd.prog 163 (Go.Value.nilFunc) 1 8 := ⟨Tryd.t163, info_of (Tryd.typeInfo163 default), rfl, rfl, rfl, rfl⟩
instance : TOne Tryd.prog 164 := ⟨Tryd.isAgg164, Tryd.sizeOf164⟩
instance : TZero Tryd.prog 164 (Go.Value.nilFunc) := ⟨Tryd.zeroValue164⟩
instance : TElem Tryd.prog 164 (Go.Value.nilFunc) 1 8 := ⟨Tryd.t164, info_of (Tryd.typeInfo164 default), rfl, rfl, rfl, rfl⟩
instance : TOne Tryd.prog 165 := ⟨Tryd.isAgg165, Tryd.sizeOf165⟩
instance : TZero Tryd.prog 165 (Go.Value.nilFunc) := ⟨Tryd.zeroValue165⟩
instance : TElem Tryd.prog 165 (Go.Value.nilFunc) 1 8 := ⟨Tryd.t165, info_of (Tryd.typeInfo165 default), rfl, rfl, rfl, rfl⟩
instance : TOne Tryd.prog 166 := ⟨Tryd.isAgg166, Tryd.sizeOf166⟩
instance : TZero Tryd.prog 166 (Go.Value.nilFunc) := ⟨Tryd.zeroValue166⟩
instance : TElem Tryd.prog 166 (Go.Value.nilFunc) 1 8 := ⟨Tryd.t166, info_of (Tryd.typeInfo166 default), rfl, rfl, rfl, rfl⟩
instance : TOne Tryd.prog 167 := ⟨Tryd.isAgg167, Tryd.sizeOf167⟩
instance : TZero Tryd.prog 167 (Go.Value.nilFunc) := ⟨Tryd.zeroValue167⟩
instance : TElem Tryd.prog 167 (Go.Value.nilFunc) 1 8 := ⟨Tryd.t167, info_of (Tryd.typeInfo167 default), rfl, rfl, rfl, rfl⟩
instance : TOne Tryd.prog 168 := ⟨Tryd.isAgg168, Tryd.sizeOf168⟩
instance : TZero Tryd.prog 168 (Go.Value.nilFunc) := ⟨Tryd.zeroValue168⟩
instance : TElem Tryd.prog 168 (Go.Value.nilFunc) 1 8 := ⟨Tryd.t168, info_of (Tryd.typeInfo168 default), rfl, rfl, rfl, rfl⟩
instance : TOne Tryd.prog 169 := ⟨Tryd.isAgg169, Tryd.sizeOf169⟩
instance : TZero Tryd.prog 169 (Go.Value.nilFunc) := ⟨Tryd.zeroValue169⟩
instance : TElem Tryd.prog 169 (Go.Value.nilFunc) 1 8 := ⟨Tryd.t169, info_of (Tryd.typeInfo169 default), rfl, rfl, rfl, rfl⟩
instance : TAgg Tryd.prog 170 0 := ⟨Tryd.isAgg170, Tryd.sizeOf170⟩
instance : TZero Tryd.prog 170 (Go.Value.agg #[]) := ⟨Tryd.zeroValue170⟩
instance : TAgg Tryd.prog 171 0 := ⟨Tryd.isAgg171, Tryd.sizeOf171⟩
instance : TZero Tryd.prog 171 (Go.Value.agg #[]) := ⟨Tryd.zeroValue171⟩
instance : TOne Tryd.prog 172 := ⟨Tryd.isAgg172, Tryd.sizeOf172⟩
instance : TZero Tryd.prog 172 (Go.Value.nilFunc) := ⟨Tryd.zeroValue172⟩
instance : TElem Tryd.prog 172 (Go.Value.nilFunc) 1 8 := ⟨Tryd.t172, info_of (Tryd.typeInfo172 default), rfl, rfl, rfl, rfl⟩
instance : TOne Tryd.prog 173 := ⟨Tryd.isAgg173, Tryd.sizeOf173⟩
instance : TZero Tryd.prog 173 (Go.Value.nilFunc) := ⟨Tryd.zeroValue173⟩
instance : TElem Tryd.prog 173 (Go.Value.nilFunc) 1 8 := ⟨Tryd.t173, info_of (Tryd.typeInfo173 default), rfl, rfl, rfl, rfl⟩
instance : TOne Tryd.prog 174 := ⟨Tryd.isAgg174, Tryd.sizeOf174⟩
instance : TZero Tryd.prog 174 (Go.Value.nilFunc) := ⟨Tryd.zeroValue174⟩
instance : TElem Tryd.prog 174 (Go.Value.nilFunc) 1 8 := ⟨Tryd.t174, info_of (Tryd.typeInfo174 default), rfl, rfl, rfl, rfl⟩
instance : TOne Tryd.prog 175 := ⟨Tryd.isAgg175, Tryd.sizeOf175⟩
instance : TZero Tryd.prog 175 (Go.Value.nilFunc) := ⟨Tryd.zeroValue175⟩
instance : TElem Tryd.prog 175 (Go.Value.nilFunc) 1 8 := ⟨Tryd.t175, info_of (Tryd.typeInfo175 default), rfl, rfl, rfl, rfl⟩
instance : TOne Tryd.prog 176 := ⟨Tryd.isAgg176, Tryd.sizeOf176⟩
instance : TZero Tryd.prog 176 (Go.Value.nilFunc) := ⟨Tryd.zeroValue176⟩
instance : TElem Tryd.prog 176 (Go.Value.nilFunc) 1 8 := ⟨Tryd.t176, info_of (Tryd.typeInfo176 default), rfl, rfl, rfl, rfl⟩
instance : TOne Tryd.prog 177 := ⟨Tryd.isAgg177, Tryd.sizeOf177⟩
instance : TZero Tryd.prog 177 (Go.Value.nilFunc) := ⟨Tryd.zeroValue177⟩
instance : TElem Tryd.prog 177 (Go.Value.nilFunc) 1 8 := ⟨Tryd.t177, info_of (Tryd.typeInfo177 default), rfl, rfl, rfl, rfl⟩
instance : TOne Tryd.prog 178 := ⟨Tryd.isAgg178, Tryd.sizeOf178⟩
instance : TZero Tryd.prog 178 (Go.Value.nilFunc) := ⟨Tryd.zeroValue178⟩
instance : TElem Tryd.prog 178 (Go.Value.nilFunc) 1 8 := ⟨Tryd.t178, info_of (Tryd.typeInfo178 default), rfl, rfl, rfl, rfl⟩
instance : TOne Tryd.prog 179 := ⟨Tryd.isAgg179, Tryd.sizeOf179⟩
instance : TZero Tryd.prog 179 (Go.Value.nilFunc) := ⟨Tryd.zeroValue179⟩
instance : TElem Tryd.prog 179 (Go.Value.nilFunc) 1 8 := ⟨Tryd.t179, info_of (Tryd.typeInfo179 default), rfl, rfl, rfl, rfl⟩
instance : TOne Tryd.prog 180 := ⟨Tryd.isAgg180, Tryd.sizeOf180⟩
instance : TZero Tryd.prog 180 (Go.Value.pointer Option.none) := ⟨Tryd.zeroValue180⟩
instance : TElem Tryd.prog 180 (Go.Value.pointer Option.none) 1 8 := ⟨Tryd.t180, info_of (Tryd.typeInfo180 default), rfl, rfl, rfl, rfl⟩
instance : TOne Tryd.prog 181 := ⟨Tryd.isAgg181, Tryd.sizeOf181⟩
instance : TZero Tryd.prog 181 (Go.Value.nilFunc) := ⟨Tryd.zeroValue181⟩
instance : TElem Tryd.prog 181 (Go.Value.nilFunc) 1 8 := ⟨Tryd.t181, info_of (Tryd.typeInfo181 default), rfl, rfl, rfl, rfl⟩
instance : TAgg Tryd.prog 182 4 := ⟨Tryd.isAgg182, Tryd.sizeOf182⟩
instance : TZero Tryd.prog 182 (Go.Value.agg #[Go.Value.pointer Option.none, Go.Value.pointer Option.none, Go.Value.pointer Option.none, Go.Value.string { data := #[] }]) := ⟨Tryd.zeroValue182⟩
instance : TElem Tryd.prog 182 (Go.Value.agg #[Go.Value.pointer Option.none, Go.Value.pointer Option.none, Go.Value.pointer Option.none, Go.Value.string { data := #[] }]) 4 40 := ⟨Tryd.t182, info_of (Tryd.typeInfo182 default), rfl, rfl, rfl, rfl⟩
instance : TAgg Tryd.prog 183 4 := ⟨Tryd.isAgg183, Tryd.sizeOf183⟩
instance : TZero Tryd.prog 183 (Go.Value.agg #[Go.Value.pointer Option.none, Go.Value.pointer Option.none, Go.Value.pointer Option.none, Go.Value.string { data := #[] }]) := ⟨Tryd.zeroValue183⟩
instance : TElem Tryd.prog 183 (Go.Value.agg #[Go.Value.pointer Option.none, Go.Value.pointer Option.none, Go.Value.pointer Option.none, Go.Value.string { data := #[] }]) 4 40 := ⟨Tryd.t183, info_of (Tryd.typeInfo183 default), rfl, rfl, rfl, rfl⟩
instance : TAgg Tryd.prog 184 0 := ⟨Tryd.isAgg184, Tryd.sizeOf184⟩
instance : TZero Tryd.prog 184 (Go.Value.agg #[]) := ⟨Tryd.zeroValue184⟩
instance : TAgg Tryd.prog 185 0 := ⟨Tryd.isAgg185, Tryd.sizeOf185⟩
instance : TZero Tryd.prog 185 (Go.Value.agg #[]) := ⟨Tryd.zeroValue185⟩
instance : TAgg Tryd.prog 186 0 := ⟨Tryd.isAgg186, Tryd.sizeOf186⟩
instance : TZero Tryd.prog 186 (Go.Value.agg #[]) := ⟨Tryd.zeroValue186⟩
instance : TOne Tryd.prog 187 := ⟨Tryd.isAgg187, Tryd.sizeOf187⟩
instance : TZero Tryd.prog 187 (Go.Value.nilFunc) := ⟨Tryd.zeroValue187⟩
instance : TElem Tryd.prog 187 (Go.Value.nilFunc) 1 8 := ⟨Tryd.t187, info_of (Tryd.typeInfo187 default), rfl, rfl, rfl, rfl⟩
instance : TOne Tryd.prog 188 := ⟨Tryd.isAgg188, Tryd.sizeOf188⟩
instance : TZero Tryd.prog 188 (Go.Value.int Go.IntKind.u8 0) := ⟨Tryd.zeroValue188⟩
instance : TU8 Tryd.prog 188 := ⟨Tryd.underlying188⟩
instance : TElem Tryd.prog 188 (Go.Value.int Go.IntKind.u8 0) 1 1 := ⟨Tryd.t188, info_of (Tryd.typeInfo188 default), rfl, rfl, rfl, rfl⟩
instance : TOne Tryd.prog 189 := ⟨Tryd.isAgg189, Tryd.sizeOf189⟩
instance : TZero Tryd.prog 189 (Go.Value.int Go.IntKind.u8 0) := ⟨Tryd.zeroValue189⟩
instance : TU8 Tryd.prog 189 := ⟨Tryd.underlying189⟩
instance : TElem Tryd.prog 189 (Go.Value.int Go.IntKind.u8 0) 1 1 := ⟨Tryd.t189, info_of (Tryd.typeInfo189 default), rfl, rfl, rfl, rfl⟩
instance : TOne Tryd.prog 190 := ⟨Tryd.isAgg190, Tryd.sizeOf190⟩
instance : TZero Tryd.prog 190 (Go.Value.nilFunc) := ⟨Tryd.zeroValue190⟩
instance : TElem Tryd.prog 190 (Go.Value.nilFunc) 1 8 := ⟨Tryd.t190, info_of (Tryd.typeInfo190 default), rfl, rfl, rfl, rfl⟩
instance : TOne Tryd.prog 191 := ⟨Tryd.isAgg191, Tryd.sizeOf191⟩
instance : TZero Tryd.prog 191 (Go.Value.pointer Option.none) := ⟨Tryd.zeroValue191⟩
instance : TElem Tryd.prog 191 (Go.Value.pointer Option.none) 1 8 := ⟨Tryd.t191, info_of (Tryd.typeInfo191 default), rfl, rfl, rfl, rfl⟩
instance : TOne Tryd.prog 192 := ⟨Tryd.isAgg192, Tryd.sizeOf192⟩
instance : TZero Tryd.prog 192 (Go.Value.int Go.IntKind.i32 0) := ⟨Tryd.zeroValue192⟩
instance : TElem Tryd.prog 192 (Go.Value.int Go.IntKind.i32 0) 1 4 := ⟨Tryd.t192, info_of (Tryd.typeInfo192 default), rfl, rfl, rfl, rfl⟩
instance : TOne Tryd.prog 193 := ⟨Tryd.isAgg193, Tryd.sizeOf193⟩
instance : TZero Tryd.prog 193 (Go.Value.int Go.IntKind.i32 0) := ⟨Tryd.zeroValue193⟩
instance : TElem Tryd.prog 193 (Go.Value.int Go.IntKind.i32 0) 1 4 := ⟨Tryd.t193, info_of (Tryd.typeInfo193 default), rfl, rfl, rfl, rfl⟩
instance : TAgg Tryd.prog 194 11 := ⟨Tryd.isAgg194, Tryd.sizeOf194⟩
instance : TZero Tryd.prog 194 (Go.Value.agg #[Go.Value.int Go.IntKind.u64 0, Go.Value.int Go.IntKind.u64 0, Go.Value.int Go.IntKind.u32 0, Go.Value.int Go.IntKind.u8 0, Go.Value.int Go.IntKind.u8 0, Go.Value.int Go.IntKind.u8 0, Go.Value.int Go.IntKind.u8 0, Go.Value.nilFunc, Go.Value.pointer Option.none, Go.Value.int Go.IntKind.i32 0, Go.Value.int Go.IntKind.i32 0]) := ⟨Tryd.zeroValue194⟩
instance : TElem Tryd.prog 194 (Go.Value.agg #[Go.Value.int Go.IntKind.u64 0, Go.Value.int Go.IntKind.u64 0, Go.Value.int Go.IntKind.u32 0, Go.Value.int Go.IntKind.u8 0, Go.Value.int Go.IntKind.u8 0, Go.Value.int Go.IntKind.u8 0, Go.Value.int Go.IntKind.u8 0, Go.Value.nilFunc, Go.Value.pointer Option.none, Go.Value.int Go.IntKind.i32 0, Go.Value.int Go.IntKind.i32 0]) 11 48 := ⟨Tryd.t194, info_of (Tryd.typeInfo194 default), rfl, rfl, rfl, rfl⟩
instance : TAgg Tryd.prog 195 11 := ⟨Tryd.isAgg195, Tryd.sizeOf195⟩
instance : TZero Tryd.prog 195 (Go.Value.agg #[Go.Value.int Go.IntKind.u64 0, Go.Value.int Go.IntKind.u64 0, Go.Value.int Go.IntKind.u32 0, Go.Value.int Go.IntKind.u8 0, Go.Value.int Go.IntKind.u8 0, Go.Value.int Go.IntKind.u8 0, Go.Value.int Go.IntKind.u8 0, Go.Value.nilFunc, Go.Value.pointer Option.none, Go.Value.int Go.IntKind.i32 0, Go.Value.int Go.IntKind.i32 0]) := ⟨Tryd.zeroValue195⟩
instance : TElem Tryd.prog 195 (Go.Value.agg #[Go.Value.int Go.IntKind.u64 0, Go.Value.int Go.IntKind.u64 0, Go.Value.int Go.IntKind.u32 0, Go.Value.int Go.IntKind.u8 0, Go.Value.int Go.IntKind.u8 0, Go.Value.int Go.IntKind.u8 0, Go.Value.int Go.IntKind.u8 0, Go.Value.nilFunc, Go.Value.pointer Option.none, Go.Value.int Go.IntKind.i32 0, Go.Value.int Go.IntKind.i32 0]) 11 48 := ⟨Tryd.t195, info_of (Tryd.typeInfo195 default), rfl, rfl, rfl, rfl⟩
instance : TAgg Tryd.prog 196 1 := ⟨Tryd.isAgg196, Tryd.sizeOf196⟩
instance : TZero Tryd.prog 196 (Go.Value.agg #[Go.Value.string { data := #[] }]) := ⟨Tryd.zeroValue196⟩
instance : TElem Tryd.prog 196 (Go.Value.agg #[Go.Value.string { data := #[] }]) 1 16 := ⟨Tryd.t196, info_of (Tryd.typeInfo196 default), rfl, rfl, rfl, rfl⟩
instance : TAgg Tryd.prog 197 1 := ⟨Tryd.isAgg197, Tryd.sizeOf197⟩
instance : TZero Tryd.prog 197 (Go.Value.agg #[Go.Value.string { data := #[] }]) := ⟨Tryd.zeroValue197⟩
instance : TElem Tryd.prog 197 (Go.Value.agg #[Go.Value.string { data := #[] }]) 1 16 := ⟨Tryd.t197, info_of (Tryd.typeInfo197 default), rfl, rfl, rfl, rfl⟩
instance : TOne Tryd.prog 198 := ⟨Tryd.isAgg198, Tryd.sizeOf198⟩
instance : TZero Tryd.prog 198 (Go.Value.pointer Option.none) := ⟨Tryd.zeroValue198⟩
instance : TElem Tryd.prog 198 (Go.Value.pointer Option.none) 1 8 := ⟨Tryd.t198, info_of (Tryd.typeInfo198 default), rfl, rfl, rfl, rfl⟩
instance : TOne Tryd.prog 199 := ⟨Tryd.isAgg199, Tryd.sizeOf199⟩
instance : TZero Tryd.prog 199 (Go.Value.nilFunc) := ⟨Tryd.zeroValue199⟩
instance : TElem Tryd.prog 199 (Go.Value.nilFunc) 1 8 := ⟨Tryd.t199, info_of (Tryd.typeInfo199 default), rfl, rfl, rfl, rfl⟩
end Go.Proofs.YtbklhnpnkinadaaDoor
end
section
namespace Go.Vil
open Go Go.RowKit
set_option linter.unusedVariables false
/-- What is to be shown of the end, behind a name: the walk does not open it. -/
theorem Calls.cps {P : Program} {f : FuncId} {args : Array Value} {w : World} {R : Ending → World → Prop} (h : ∀ R' : Ending → World → Prop, Hid (∀ e w', R e w' → R' e w') → Calls P f args w R') : Calls P f args w R :=
  h R (show ∀ e w', R e w' → R e w' from fun _ _ h => h)
section
variable {P : Program}

/-- The walk over a class of worlds that stays. -/
def walkC (P : Program) (l : List Oper) (C : World → Prop) (Q : Act → World → Prop) : List (List Nat × Nat) → List Nat → Act → World → Prop
  | [], last, a, w => wpQuiet P l.toArray C (fun a' => Q a' w) (pick l last) a
  | (h, g) :: segs, last, a, w => wpQuiet P l.toArray C
      (fun a' => wpList P l.toArray (Qn fun a'' w'' => C w'' ∧ walkC P l C Q segs last a'' w'') (pick l [g]) a' w) (pick l h) a

theorem walkG_of_walkC {l : List Oper} {C : World → Prop} {Q : Act → World → Prop} : ∀ (segs : List (List Nat × Nat)) (last : List Nat) (a : Act) (w : World), fitsSt l segs last = true →
    walkC P l C Q segs last a w → walkG P l.toArray Q segs last C a w
  | [], last, a, w, hf, h => by
    simp only [fitsSt, Bool.and_eq_true] at hf
    exact qI_of_wpQuiet _ _ hf.1 hf.2 h
  | (q, g) :: segs, last, a, w, hf, h => by
    simp only [fitsSt, Bool.and_eq_true, decide_eq_true_eq] at hf
    obtain ⟨⟨⟨h1, h2⟩, h3⟩, h4⟩ := hf
    have hg : l[g]? = some l[g] := List.getElem?_eq_getElem h3
    refine qI_of_wpQuiet _ _ h1 h2 (wpQuiet_mono (fun a' hk => ?_) _ _ h)
    simp only [pick, hg] at hk
    refine stepG_mono (fun a'' w'' ⟨hC, hrest⟩ => ?_) (stepG_of_wpList (o := l[g]) (by simp [hg]) hk)
    exact ⟨C, hC, fun _ h => h, walkG_of_walkC segs last a'' w'' h4 hrest⟩

/-- A region that draws: what only reads does so in the things of Lc; what turns others, or makes memory, comes up alone. -/
theorem St.regionC {id : Nat} {Q : Exit → Act → World → Prop} {a : Act} {w w0 : World} {bs : List Nat} {L : List Res} {l : List Oper} (S : St w0 bs w L) (Lc : List Res) (n : Nat) (segs : List (List Nat × Nat)) (last : List Nat)
    (h : ∀ w', Chg [] w w' → St w0 bs w' L → St w0 bs w' Lc → walkC P l (fun w'' => ∃ p : StW w' w0 bs Lc, w'' = p.w) (fun a w => wpList P l.toArray Q (l.drop n) a w) segs last a w')
    (hs : Sel Lc L := by repeat (first | exact Sel.nil | (apply Sel.cons; (repeat (first | exact Pull.head | apply Pull.tail)))))
    (hf : fitsSt l segs last = true := by kernel_rfl)
    (hm : P.follows .mixedOrders = true := by kernel_rfl)
    (hB : (Region.noSelect l.toArray && tailB .any l.toArray n && orderB .any l.toArray n segs last (Array.replicate l.length false) && decide (lengthG segs last = n)) = true := by kernel_rfl) : (Code.region id l.toArray true).wp P Q a w :=
  wp_regionG (C := fun w' => ∃ p : StW w.drew w0 bs Lc, w' = p.w) n segs last hm hB ⟨⟨w.drew, .inl rfl⟩, rfl⟩ (walkG_of_walkC segs last a w.drew hf (h _ ⟨rfl, rfl, rfl, Nat.le_refl _, fun _ _ _ => rfl⟩ S.drew (S.drew.sel hs)))
end
end Go.Vil
end
