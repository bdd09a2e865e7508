/- A tape of bytes in plain Lean, and a ring beside it. · A tape of bytes in plain Lean: how it grows, what is asked of it. · Operations of a tape in plain Lean: how they are cut, which of them fit, what they do. · A tape in plain Lean: operations and answers. · A tape and a ring side by side: each operation keeps them so, and what is answered is said. · Scripts of a tape and a ring side by side. -/
import Derived.Test.YtbklhnpnkinadaaDoorRiP
import Derived.Test.YtbklhnpnkinadaaDoorRiS
section
set_option linter.unusedVariables false
namespace Go.Vil

/-- A tape: how many bytes are there, from where to where, where it begins, and what stands on it, and whether that is known. -/
structure Ta where
  size : Nat
  b : Nat
  e : Nat
  o : Nat
  bytes : List UInt8
  known : List Bool
namespace Ta
/-- A tape is as it ought to be. -/
structure Fine (t : Ta) : Prop where
  pos : 1 ≤ t.size
  ob : t.o ≤ t.b
  be : t.b ≤ t.e
  fit : t.e - t.b ≤ t.size
  len : t.bytes.length = t.e - t.o
  klen : t.known.length = t.e - t.o
/-- A ring has what is known of the tape. -/
structure Beside (t : Ta) (r : Ri) (W : List UInt8) : Prop where
  fine : t.Fine
  has : r.Has W
  size : t.size = r.size
  b : t.b = r.b
  e : t.e = r.e
  get : ∀ i, i < W.length → t.known[t.b - t.o + i]? = some true → t.bytes[t.b - t.o + i]? = W[i]?
def fresh (size b : Nat) : Ta := ⟨size, b, b, b, [], []⟩
theorem fresh_fine (size b : Nat) (h : 1 ≤ size) : (fresh size b).Fine :=
  ⟨h, Nat.le_refl _, Nat.le_refl _, by simp [fresh], by simp [fresh], by simp [fresh]⟩
def put (t : Ta) (c : UInt8) (kn : Bool) : Ta := ⟨t.size, max t.b (t.e + 1 - t.size), t.e + 1, t.o, t.bytes ++ [c], t.known ++ [kn]⟩
theorem put_fine {t : Ta} (h : t.Fine) (c : UInt8) (kn : Bool) : (t.put c kn).Fine := by
  obtain ⟨h1, h2, h3, h4, h5, h6⟩ := h
  refine ⟨h1, by show t.o ≤ max t.b (t.e + 1 - t.size); omega, by show max t.b (t.e + 1 - t.size) ≤ t.e + 1; omega, by show t.e + 1 - max t.b (t.e + 1 - t.size) ≤ t.size; omega, ?_, ?_⟩
  · show (t.bytes ++ [c]).length = t.e + 1 - t.o
    rw [List.length_append, h5, List.length_singleton]; omega
  · show (t.known ++ [kn]).length = t.e + 1 - t.o
    rw [List.length_append, h6, List.length_singleton]; omega
theorem put_beside {t : Ta} {r : Ri} {W : List UInt8} (h : t.Beside r W) (c c' : UInt8) (kn : Bool) (hc : kn = true → c = c') :
    (t.put c kn).Beside (r.put c') (Ri.last r.size (W ++ [c'])) := by
  obtain ⟨hf, hh, hs, hb, he, hg⟩ := h
  have hW := hh.len
  have hle : r.len = r.e - r.b := rfl
  have h1 := hf.ob
  have h2 := hf.be
  have h3 := hf.fit
  have h4 := hf.len
  have h5 := hf.klen
  refine ⟨put_fine hf c kn, Ri.put_has hh c', hs.trans (Ri.put_size r c').symm, ?_, ?_, ?_⟩
  · show max t.b (t.e + 1 - t.size) = max r.b (r.e + 1 - r.size)
    rw [hb, he, hs]
  · show t.e + 1 = r.e + 1
    rw [he]
  · intro i hi hk
    rw [Ri.last_length, List.length_append, List.length_singleton] at hi
    have hix : max t.b (t.e + 1 - t.size) - t.o + i = t.b - t.o + (W.length + 1 - r.size + i) := by omega
    replace hk : (t.known ++ [kn])[max t.b (t.e + 1 - t.size) - t.o + i]? = some true := hk
    show (t.bytes ++ [c])[max t.b (t.e + 1 - t.size) - t.o + i]? = _
    rw [hix] at hk ⊢
    rw [Ri.last_get, List.length_append, List.length_singleton]
    by_cases hj : W.length + 1 - r.size + i < W.length
    · rw [List.getElem?_append_left (by omega)] at hk ⊢
      rw [List.getElem?_append_left hj]
      exact hg _ hj hk
    · have hj' : W.length + 1 - r.size + i = W.length := by omega
      rw [hj'] at hk ⊢
      rw [List.getElem?_append_right (by omega)] at hk ⊢
      rw [List.getElem?_append_right (by omega), Nat.sub_self]
      rw [show t.b - t.o + W.length - t.bytes.length = 0 by omega]
      rw [show t.b - t.o + W.length - t.known.length = 0 by omega] at hk
      have : kn = true := by simpa using hk
      rw [hc this]
def puts (t : Ta) (l : List (UInt8 × Bool)) : Ta := l.foldl (fun t x => t.put x.1 x.2) t
theorem puts_append (t : Ta) (a b : List (UInt8 × Bool)) : t.puts (a ++ b) = (t.puts a).puts b := List.foldl_append
/-- What is put on the tape, and into the ring, agrees where it is known. -/
def Agree : List (UInt8 × Bool) → List UInt8 → Prop
  | [], [] => True
  | x :: l, c :: m => (x.2 = true → x.1 = c) ∧ Agree l m
  | _, _ => False
theorem puts_beside (l : List (UInt8 × Bool)) : ∀ (m : List UInt8) {t : Ta} {r : Ri} {W : List UInt8}, Agree l m → t.Beside r W →
    (t.puts l).Beside (r.puts m) (Ri.last r.size (W ++ m)) := by
  induction l with
  | nil =>
    intro m t r W ha h
    cases m with
    | nil =>
      rw [List.append_nil, Ri.last_le (by have h1 := h.has.len; have h2 := h.has.fit; omega)]
      exact h
    | cons c m => exact ha.elim
  | cons x l ih =>
    intro m t r W ha h
    cases m with
    | nil => exact ha.elim
    | cons c m =>
      have h1 := ih m ha.2 (put_beside h x.1 c x.2 ha.1)
      rw [Ri.put_size, Ri.last_last, List.append_assoc] at h1
      exact h1
theorem agree_known (m : List UInt8) : Agree (m.map (fun c => (c, true))) m := by
  induction m with
  | nil => trivial
  | cons c m ih => exact ⟨fun _ => rfl, ih⟩
theorem agree_unknown (m : List UInt8) : Agree (List.replicate m.length (0, false)) m := by
  induction m with
  | nil => trivial
  | cons c m ih => exact ⟨fun h => absurd h (by simp), ih⟩
/-- A byte written over one that is there. -/
def over (t : Ta) (k : Nat) (c : UInt8) : Ta := ⟨t.size, t.b, t.e, t.o, t.bytes.set (t.b - t.o + k) c, t.known.set (t.b - t.o + k) true⟩
theorem over_fine {t : Ta} (h : t.Fine) (k : Nat) (c : UInt8) : (t.over k c).Fine :=
  ⟨h.pos, h.ob, h.be, h.fit, (List.length_set).trans h.len, (List.length_set).trans h.klen⟩
theorem over_beside {t : Ta} {r : Ri} {W : List UInt8} (h : t.Beside r W) {k : Nat} (c : UInt8) (hk : k < W.length) :
    (t.over k c).Beside (r.over k c) (W.set k c) := by
  obtain ⟨hf, hh, hs, hb, he, hg⟩ := h
  refine ⟨over_fine hf k c, Ri.over_has hh c hk, hs.trans (Ri.over_size r k c).symm, hb, he, ?_⟩
  intro i hi hkn
  rw [List.length_set] at hi
  have hW := hh.len
  have hle : r.len = r.e - r.b := rfl
  have h1 := hf.ob
  have h2 := hf.be
  have h4 := hf.len
  have h5 := hf.klen
  replace hkn : (t.known.set (t.b - t.o + k) true)[t.b - t.o + i]? = some true := hkn
  show (t.bytes.set (t.b - t.o + k) c)[t.b - t.o + i]? = _
  rw [List.getElem?_set] at hkn ⊢
  rw [List.getElem?_set]
  by_cases hik : k = i
  · rw [hik, if_pos rfl, if_pos (by omega), if_pos rfl, if_pos hi]
  · rw [if_neg (by omega)] at hkn ⊢
    rw [if_neg hik]
    exact hg i hi hkn
def overs (t : Ta) (k : Nat) : List UInt8 → Ta
  | [] => t
  | c :: l => overs (t.over k c) (k + 1) l
theorem overs_beside (l : List UInt8) : ∀ {t : Ta} {r : Ri} {W : List UInt8} {k : Nat}, t.Beside r W → k + l.length ≤ W.length →
    ∃ W', (t.overs k l).Beside (r.overs k l) W' ∧ W'.length = W.length := by
  induction l with
  | nil => exact fun h hk => ⟨_, h, rfl⟩
  | cons c l ih =>
    intro t r W k h hk
    rw [List.length_cons] at hk
    obtain ⟨W', h1, h2⟩ := ih (over_beside h c (k := k) (by omega)) (k := k + 1) (by rw [List.length_set]; omega)
    exact ⟨W', h1, h2.trans List.length_set⟩
theorem fresh_beside {r : Ri} (h1 : 1 ≤ r.size) (h2 : r.b = r.e) (h3 : r.ix = 0) : (fresh r.size r.b).Beside r [] :=
  ⟨fresh_fine _ _ h1, Ri.empty_has h1 h2 h3, rfl, rfl, h2, fun i hi => absurd hi (Nat.not_lt_zero i)⟩
def resize (t : Ta) (n : Nat) : Ta := ⟨n, max t.b (t.e - n), t.e, t.o, t.bytes, t.known⟩
theorem resize_fine {t : Ta} (h : t.Fine) {n : Nat} (hn : 1 ≤ n) : (t.resize n).Fine := by
  obtain ⟨h1, h2, h3, h4, h5, h6⟩ := h
  refine ⟨hn, by show t.o ≤ max t.b (t.e - n); omega, by show max t.b (t.e - n) ≤ t.e; omega, by show t.e - max t.b (t.e - n) ≤ n; omega, h5, h6⟩
/-- A smaller tape beside a smaller ring. -/
theorem resize_beside {t : Ta} {r : Ri} {W : List UInt8} (h : t.Beside r W) {n : Nat} (h1 : 1 ≤ n) (hn : n ≤ r.len) {D : List UInt8}
    (hD : D = (r.data.drop (r.at' (r.len - n)) ++ r.data.take (r.at' (r.len - n))).take n) :
    (t.resize n).Beside ⟨D, r.e - n, r.e, 0⟩ (Ri.last n W) := by
  have hR := Ri.shrunk h.has h1 hn hD
  have hW := h.has.len
  have hle : r.len = r.e - r.b := rfl
  have hb := h.b
  have he := h.e
  have ho := h.fine.ob
  have hsz : D.length = n := by
    have h2 := hR.len
    have h3 := hR.fit
    rw [Ri.last_length] at h2
    have hf := h.has.fit
    have ha := Ri.at_lt h.has (r.len - n)
    have hd : r.data.length = r.size := rfl
    rw [hD, List.length_take, List.length_append, List.length_drop, List.length_take]
    omega
  refine ⟨resize_fine h.fine h1, hR, hsz.symm, ?_, he, ?_⟩
  · show max t.b (t.e - n) = r.e - n
    omega
  · intro i hi hk
    rw [Ri.last_length] at hi
    have hix : max t.b (t.e - n) - t.o + i = t.b - t.o + (W.length - n + i) := by omega
    replace hk : t.known[max t.b (t.e - n) - t.o + i]? = some true := hk
    show t.bytes[max t.b (t.e - n) - t.o + i]? = _
    rw [hix] at hk ⊢
    rw [Ri.last_get]
    exact h.get _ (by omega) hk
theorem agree_of : ∀ (l : List (UInt8 × Bool)) (m : List UInt8), l.length = m.length →
    (∀ i : Nat, (l.map Prod.snd)[i]? = some true → (l.map Prod.fst)[i]? = m[i]?) → Agree l m := by
  intro l
  induction l with
  | nil =>
    intro m hl _
    cases m with
    | nil => trivial
    | cons c m => simp at hl
  | cons x l ih =>
    intro m hl hg
    cases m with
    | nil => simp at hl
    | cons c m =>
      refine ⟨fun hx => ?_, ih m (by simpa using hl) fun i hi => ?_⟩
      · have h1 := hg 0 (by simp [hx])
        simpa using h1
      · have h1 := hg (i + 1) (by simpa using hi)
        simpa using h1
/-- So many bytes from so far on, and which of them are known. -/
def piece (t : Ta) (k n : Nat) : List (UInt8 × Bool) := (((t.bytes.zip t.known).drop (t.b - t.o + k)).take n)
theorem piece_agree {t : Ta} {r : Ri} {W : List UInt8} (h : t.Beside r W) {k n : Nat} (hk : k + n ≤ W.length) :
    Agree (t.piece k n) ((W.drop k).take n) := by
  have hW := h.has.len
  have hle : r.len = r.e - r.b := rfl
  have hb := h.b
  have he := h.e
  have h1 := h.fine.ob
  have h4 := h.fine.len
  have h5 := h.fine.klen
  have hlen : t.bytes.length = t.known.length := h4.trans h5.symm
  have e1 : (t.bytes.zip t.known).map Prod.fst = t.bytes := List.map_fst_zip (by omega)
  have e2 : (t.bytes.zip t.known).map Prod.snd = t.known := List.map_snd_zip (by omega)
  refine agree_of _ _ ?_ fun i hi => ?_
  · unfold piece
    rw [List.length_take, List.length_take, List.length_drop, List.length_drop, List.length_zip]
    omega
  · unfold piece at hi ⊢
    rw [List.map_take, List.map_drop] at hi ⊢
    rw [e2, List.getElem?_take, List.getElem?_drop] at hi
    rw [e1, List.getElem?_take, List.getElem?_drop, List.getElem?_take, List.getElem?_drop]
    by_cases hin : i < n
    · rw [if_pos hin] at hi ⊢
      rw [if_pos hin]
      rw [Nat.add_assoc] at hi ⊢
      exact h.get (k + i) (by omega) hi
    · rw [if_neg hin] at hi
      exact absurd hi (by simp)
/-- What stands there once more. -/
theorem move_beside {t : Ta} {r : Ri} {W : List UInt8} (h : t.Beside r W) {k n : Nat} (hk : k + n ≤ W.length) :
    (t.puts (t.piece k n)).Beside (r.puts ((W.drop k).take n)) (Ri.last r.size (W ++ (W.drop k).take n)) :=
  puts_beside _ _ (piece_agree h hk) h
end Ta
end Go.Vil
end
section
set_option linter.unusedVariables false
namespace Go.Vil
namespace Ta
theorem puts_fine (l : List (UInt8 × Bool)) : ∀ {t : Ta}, t.Fine → (t.puts l).Fine := by
  induction l with
  | nil => exact fun h => h
  | cons x l ih => exact fun h => ih (put_fine h x.1 x.2)
theorem puts_size (l : List (UInt8 × Bool)) : ∀ (t : Ta), (t.puts l).size = t.size := by
  induction l with
  | nil => exact fun t => rfl
  | cons x l ih => exact fun t => ih (t.put x.1 x.2)
theorem puts_o (l : List (UInt8 × Bool)) : ∀ (t : Ta), (t.puts l).o = t.o := by
  induction l with
  | nil => exact fun t => rfl
  | cons x l ih => exact fun t => ih (t.put x.1 x.2)
theorem puts_e (l : List (UInt8 × Bool)) : ∀ (t : Ta), (t.puts l).e = t.e + l.length := by
  induction l with
  | nil => exact fun t => rfl
  | cons x l ih =>
    intro t
    rw [List.length_cons]
    exact (ih (t.put x.1 x.2)).trans (by show t.e + 1 + l.length = _; omega)
theorem puts_bytes (l : List (UInt8 × Bool)) : ∀ (t : Ta), (t.puts l).bytes = t.bytes ++ l.map Prod.fst := by
  induction l with
  | nil => exact fun t => (List.append_nil _).symm
  | cons x l ih =>
    intro t
    refine (ih (t.put x.1 x.2)).trans ?_
    show t.bytes ++ [x.1] ++ _ = _
    rw [List.append_assoc]; rfl
theorem puts_known (l : List (UInt8 × Bool)) : ∀ (t : Ta), (t.puts l).known = t.known ++ l.map Prod.snd := by
  induction l with
  | nil => exact fun t => (List.append_nil _).symm
  | cons x l ih =>
    intro t
    refine (ih (t.put x.1 x.2)).trans ?_
    show t.known ++ [x.2] ++ _ = _
    rw [List.append_assoc]; rfl
theorem puts_snoc (t : Ta) (l : List (UInt8 × Bool)) (x : UInt8 × Bool) : t.puts (l ++ [x]) = (t.puts l).put x.1 x.2 := puts_append t l [x]
/-- Whether so many bytes from an offset on are there. -/
def there (t : Ta) (off n : Int) : Bool := decide (t.b ≤ off ∧ off ≤ t.e ∧ n ≤ t.e - off)
theorem overs_rest (l : List UInt8) : ∀ (t : Ta) (k : Nat), (t.overs k l).size = t.size ∧ (t.overs k l).b = t.b ∧ (t.overs k l).e = t.e ∧ (t.overs k l).o = t.o ∧ (t.overs k l).bytes.length = t.bytes.length ∧ (t.overs k l).known.length = t.known.length := by
  induction l with
  | nil => exact fun t k => ⟨rfl, rfl, rfl, rfl, rfl, rfl⟩
  | cons c l ih =>
    intro t k
    obtain ⟨h1, h2, h3, h4, h5, h6⟩ := ih (t.over k c) (k + 1)
    exact ⟨h1, h2, h3, h4, h5.trans List.length_set, h6.trans List.length_set⟩
theorem overs_snoc (l : List UInt8) : ∀ (t : Ta) (k : Nat) (c : UInt8), t.overs k (l ++ [c]) = (t.overs k l).over (k + l.length) c := by
  induction l with
  | nil => exact fun t k c => rfl
  | cons d l ih =>
    intro t k c
    show (t.over k d).overs (k + 1) (l ++ [c]) = _
    rw [ih, List.length_cons, show k + 1 + l.length = k + (l.length + 1) by omega]
    rfl
theorem overs_fine (l : List UInt8) : ∀ {t : Ta} {k : Nat}, t.Fine → (t.overs k l).Fine := by
  induction l with
  | nil => exact fun h => h
  | cons c l ih => exact fun h => ih (over_fine h _ c)
/-- Whether bytes stand from so far on, as far as that is known; whether it is known. -/
def same (t : Ta) (at0 : Nat) : List UInt8 → Bool → Bool × Bool
  | [], told => (true, told)
  | c :: l, told => if t.known[at0]? = some true ∧ t.bytes[at0]? ≠ some c then (false, true) else same t (at0 + 1) l (told && decide (t.known[at0]? = some true))
end Ta
end Go.Vil
end
section
set_option linter.unusedVariables false
namespace Go.Vil
namespace Ta
open Ri
/-- A number of 64 bits without a sign. -/
def u64 (z : Int) : Int := z % 18446744073709551616
theorem u64_lo (z : Int) : 0 ≤ u64 z := Int.emod_nonneg _ (by decide)
theorem u64_hi (z : Int) : u64 z < 18446744073709551616 := Int.emod_lt_of_pos _ (by decide)
/-- The kind of an operation, cut. -/
def kindOf (z : Int) : Int := if u64 z % 11 = 9 then 10 else u64 z % 11
/-- An operation within the bounds. -/
def cut (t : Ta) (op : ROp) : ROp :=
  ⟨kindOf op.kind, op.data.take 300,
    if kindOf op.kind = 8 then max ((t.b : Int) - 5 + u64 op.off % ((t.e : Int) - t.b + 10)) 0 else (t.b : Int) - 5 + u64 op.off % ((t.e : Int) - t.b + 10),
    if kindOf op.kind = 6 then 1 + u64 op.len % 300 else u64 op.len % 300⟩
def fits (t : Ta) (op : ROp) : Bool :=
  if op.kind = 0 ∨ op.kind = 1 ∨ op.kind = 2 ∨ op.kind = 4 ∨ op.kind = 5 ∨ op.kind = 7 ∨ op.kind = 8 ∨ op.kind = 10 then true
  else if op.kind = 3 then !(t.there op.off 0) || t.there op.off op.len
  else if op.kind = 6 then decide (t.b = t.e) || decide (op.len ≤ (t.e : Int) - t.b)
  else false
end Ta
end Go.Vil
end
section
set_option linter.unusedVariables false
namespace Go.Vil
/-- Whether bytes are those that are known. -/
def agrees (xs ys : List UInt8) (ks : List Bool) : Bool := decide (xs.length = ys.length) && (List.range xs.length).all fun i => !(ks.getD i false) || xs.getD i 0 == ys.getD i 0
/-- What a tape answers: what is wanted, what of its bytes is known, whether it is open what was compared. -/
structure TAns where
  want : Ri.RAns
  known : List Bool
  open' : Bool
def TAns.says (a : TAns) (x : Ri.RAns) : Bool :=
  decide (a.want.fault = x.fault ∧ a.want.n = x.n ∧ a.want.m = x.m ∧ a.want.len = x.len) && (a.open' || a.want.is == x.is) && agrees x.data a.want.data a.known
namespace Ta
open Ri
def tbare (f n : Int) : TAns := ⟨bare f n, [], false⟩
/-- So many bytes from an offset on; which of them are known. -/
def readN (t : Ta) (off len : Int) : Nat := min len.toNat ((t.e : Int) - off).toNat
def readB (t : Ta) (off len : Int) : List UInt8 := (t.bytes.drop (off - t.o).toNat).take (t.readN off len)
def readK (t : Ta) (off len : Int) : List Bool := (t.known.drop (off - t.o).toNat).take (t.readN off len)
def step (t : Ta) (op : ROp) : Ta × TAns :=
  if op.kind = 0 then (if op.data.length ≤ t.size then (t.puts (op.data.map fun c => (c, true)), tbare 0 op.data.length) else (t, tbare 1 0))
  else if op.kind = 1 then (if t.there op.off 0 then (t, ⟨⟨if (t.readN op.off op.len : Int) < op.len then 1 else 0, t.readN op.off op.len, 0, 0, t.readB op.off op.len, false⟩, t.readK op.off op.len, false⟩) else (t, tbare 1 0))
  else if op.kind = 2 then (if t.there op.off op.data.length then (t.overs (op.off - t.b).toNat op.data, tbare 0 op.data.length) else (t, tbare 1 0))
  else if op.kind = 3 then (if t.there op.off op.len then (t, ⟨⟨0, 0, 0, 0, t.readB op.off op.len, false⟩, t.readK op.off op.len, false⟩) else (t, tbare 1 0))
  else if op.kind = 4 then (t, ⟨⟨0, 0, 0, 0, [], (if t.there op.off op.data.length then t.same (op.off - t.o).toNat op.data true else (false, true)).1⟩, [], !(if t.there op.off op.data.length then t.same (op.off - t.o).toNat op.data true else (false, true)).2⟩)
  else if op.kind = 5 then (if t.there op.off op.len then t.puts (t.piece (op.off - t.b).toNat op.len.toNat) else t, tbare 0 (if t.there op.off op.len then (t.e : Int) else -1))
  else if op.kind = 6 then (t.resize op.len.toNat, tbare 0 0)
  else if op.kind = 7 then (t.puts (List.replicate op.len.toNat (0, false)), tbare 0 0)
  else if op.kind = 8 then (fresh t.size op.off.toNat, tbare 0 0)
  else if op.kind = 10 then (t, ⟨⟨0, t.b, t.e, t.size, [], false⟩, [], false⟩)
  else (t, tbare 0 0)
section
variable (t : Ta) (xs : List UInt8) (off len : Int)
theorem step0 : t.step ⟨0, xs, off, len⟩ = if xs.length ≤ t.size then (t.puts (xs.map fun c => (c, true)), tbare 0 xs.length) else (t, tbare 1 0) := rfl
theorem step1 : t.step ⟨1, xs, off, len⟩ = if t.there off 0 then (t, ⟨⟨if (t.readN off len : Int) < len then 1 else 0, t.readN off len, 0, 0, t.readB off len, false⟩, t.readK off len, false⟩) else (t, tbare 1 0) := rfl
theorem step2 : t.step ⟨2, xs, off, len⟩ = if t.there off xs.length then (t.overs (off - t.b).toNat xs, tbare 0 xs.length) else (t, tbare 1 0) := rfl
theorem step3 : t.step ⟨3, xs, off, len⟩ = if t.there off len then (t, ⟨⟨0, 0, 0, 0, t.readB off len, false⟩, t.readK off len, false⟩) else (t, tbare 1 0) := rfl
theorem step4 : t.step ⟨4, xs, off, len⟩ = (t, ⟨⟨0, 0, 0, 0, [], (if t.there off xs.length then t.same (off - t.o).toNat xs true else (false, true)).1⟩, [], !(if t.there off xs.length then t.same (off - t.o).toNat xs true else (false, true)).2⟩) := rfl
theorem step5 : t.step ⟨5, xs, off, len⟩ = (if t.there off len then t.puts (t.piece (off - t.b).toNat len.toNat) else t, tbare 0 (if t.there off len then (t.e : Int) else -1)) := rfl
theorem step6 : t.step ⟨6, xs, off, len⟩ = (t.resize len.toNat, tbare 0 0) := rfl
theorem step7 : t.step ⟨7, xs, off, len⟩ = (t.puts (List.replicate len.toNat (0, false)), tbare 0 0) := rfl
theorem step8 : t.step ⟨8, xs, off, len⟩ = (fresh t.size off.toNat, tbare 0 0) := rfl
theorem step10 : t.step ⟨10, xs, off, len⟩ = (t, ⟨⟨0, t.b, t.e, t.size, [], false⟩, [], false⟩) := rfl
end
end Ta
end Go.Vil
end
section
set_option linter.unusedVariables false
namespace Go.Vil
theorem agrees_of {xs ys : List UInt8} {ks : List Bool} (hl : xs.length = ys.length) (h : ∀ i, i < xs.length → ks[i]? = some true → xs[i]? = ys[i]?) : agrees xs ys ks = true := by
  unfold agrees
  rw [decide_eq_true hl, Bool.true_and, List.all_eq_true]
  intro i hi
  have hi2 := List.mem_range.1 hi
  rw [Bool.or_eq_true]
  cases hk : ks[i]? with
  | none => left; simp [List.getD, hk]
  | some b =>
    cases b with
    | false => left; simp [List.getD, hk]
    | true =>
      right
      have h2 := h i hi2 hk
      simp [List.getD, h2]
theorem agrees_nil (ks : List Bool) : agrees [] [] ks = true := agrees_of rfl (fun i hi => by simp at hi)
theorem says_bare (f n : Int) : (Ta.tbare f n).says (Ri.bare f n) = true := by
  show (_ && _ && agrees [] [] []) = true
  rw [agrees_nil]
  simp [Ta.tbare, Ri.bare]
theorem says_data (f n : Int) {xs ys : List UInt8} {ks : List Bool} (h : agrees xs ys ks = true) : (TAns.mk ⟨f, n, 0, 0, ys, false⟩ ks false).says ⟨f, n, 0, 0, xs, false⟩ = true := by
  unfold TAns.says
  simp only [h]
  simp
namespace Ta
open Ri
theorem beside_len {t : Ta} {r : Ri} {W : List UInt8} (h : t.Beside r W) : W.length = t.e - t.b := by
  rw [h.has.len, h.b, h.e]; rfl
/-- What the ring has from an offset on, and what the tape has. -/
theorem read_beside {t : Ta} {r : Ri} {W : List UInt8} (h : t.Beside r W) {off len : Int} (h1 : t.there off 0 = true) (hl : 0 ≤ len) :
    (r.from' off len).length = t.readN off len ∧ agrees (r.from' off len) (t.readB off len) (t.readK off len) = true := by
  have hz : (t.b : Int) ≤ off ∧ off ≤ (t.e : Int) ∧ (0 : Int) ≤ t.e - off := of_decide_eq_true h1
  have hW := beside_len h
  have hw := has_win h.has
  have ho := h.fine.ob
  have hbe := h.fine.be
  have hbl := h.fine.len
  have hb := h.b
  have he := h.e
  have hl1 : (r.from' off len).length = t.readN off len := by
    unfold from' readN
    rw [hw, List.length_take, List.length_drop]
    omega
  have hl2 : (t.readB off len).length = t.readN off len := by
    unfold readB
    rw [List.length_take, List.length_drop]
    unfold readN
    omega
  refine ⟨hl1, agrees_of (hl1.trans hl2.symm) fun i hi hk => ?_⟩
  rw [hl1] at hi
  have hi2 : i < min len.toNat ((t.e : Int) - off).toNat := hi
  unfold readK at hk
  unfold from' readB
  rw [List.getElem?_take, if_pos hi, List.getElem?_drop] at hk
  rw [List.getElem?_take, if_pos (show i < len.toNat by omega), List.getElem?_take, if_pos hi, List.getElem?_drop, List.getElem?_drop, hw]
  have e1 : (off - t.o).toNat + i = t.b - t.o + ((off - t.b).toNat + i) := by omega
  rw [e1] at hk ⊢
  rw [← hb]
  exact (h.get _ (by omega) hk).symm
/-- What is compared. -/
theorem same_spec {t : Ta} (xs : List UInt8) : ∀ (ys : List UInt8) (k : Nat) (told : Bool), xs.length = ys.length → k + ys.length ≤ t.known.length → k + ys.length ≤ t.bytes.length →
    (∀ i, i < ys.length → t.known[k + i]? = some true → t.bytes[k + i]? = ys[i]?) →
    ((t.same k xs told).2 = true → (t.same k xs told).1 = decide (xs = ys)) := by
  induction xs with
  | nil =>
    intro ys k told hl _ _ _ _
    cases ys with
    | nil => rfl
    | cons y ys => simp at hl
  | cons x xs ih =>
    intro ys k told hl hk hb hg
    cases ys with
    | nil => simp at hl
    | cons y ys =>
      rw [List.length_cons] at hk hb
      have hl2 : xs.length = ys.length := by simpa using hl
      have h0 := hg 0 (by simp)
      rw [Nat.add_zero] at h0
      have ht : ∀ i, i < ys.length → t.known[k + 1 + i]? = some true → t.bytes[k + 1 + i]? = ys[i]? := by
        intro i hi hki
        have := hg (i + 1) (by simpa using hi)
        rw [show k + (i + 1) = k + 1 + i by omega] at this
        simpa using this hki
      unfold same
      by_cases hc : t.known[k]? = some true ∧ t.bytes[k]? ≠ some x
      · rw [if_pos hc]
        intro _
        have hy := h0 hc.1
        have hne : x ≠ y := fun e => hc.2 (by rw [hy, e]; rfl)
        simp [hne]
      · rw [if_neg hc]
        by_cases hkn : t.known[k]? = some true
        · have hbx : t.bytes[k]? = some x := Classical.byContradiction fun h => hc ⟨hkn, h⟩
          have hy := h0 hkn
          rw [hbx] at hy
          have hxy : x = y := by simpa using hy
          intro h2
          rw [ih ys (k + 1) _ hl2 (by omega) (by omega) ht h2, hxy]
          simp
        · intro h2
          rw [decide_eq_false hkn, Bool.and_false] at h2 ⊢
          have hmono : ∀ (l : List UInt8) (j : Nat), (t.same j l false).2 = true → (t.same j l false).1 = false := by
            intro l
            induction l with
            | nil => intro j h; exact absurd h (by simp [same])
            | cons c l ihl =>
              intro j h
              unfold same at h ⊢
              split
              · rfl
              · rename_i hh
                rw [if_neg hh, Bool.false_and] at h
                rw [Bool.false_and]
                exact ihl _ h
          have h3 := hmono _ _ h2
          have h4 := ih ys (k + 1) _ hl2 (by omega) (by omega) ht h2
          rw [h3] at h4 ⊢
          have h5 : xs ≠ ys := of_decide_eq_false h4.symm
          simp [h5]
/-- A tape that nothing is on, beside a ring that nothing is in. -/
theorem empty_beside {t : Ta} {r : Ri} (hf : t.Fine) (hs : t.size = r.size) (hb : t.b = r.b) (he : t.e = r.e) (hbe : r.b = r.e) (hx : r.ix = 0) : t.Beside r [] :=
  ⟨hf, Ri.empty_has (by rw [← hs]; exact hf.pos) hbe hx, hs, hb, he, fun i hi => absurd hi (Nat.not_lt_zero i)⟩
theorem sized_beside {t : Ta} {r : Ri} {W : List UInt8} (h : t.Beside r W) {n : Nat} (h1 : 1 ≤ n) (h2 : t.b = t.e ∨ t.b + n ≤ t.e) : ∃ W', (t.resize n).Beside (r.sized n) W' := by
  have hb := h.b
  have he := h.e
  have hbe := h.fine.be
  have hfit := h.fine.fit
  have hsz := h.size
  have hrl : r.len = r.e - r.b := rfl
  have hrd : r.data.length = r.size := rfl
  by_cases hn : n = r.size
  · have e1 : r.sized n = r := by unfold sized; rw [if_pos hn]
    have e2 : t.resize n = t := by
      unfold resize
      rw [show max t.b (t.e - n) = t.b by omega, hn, ← hsz]
    rw [e1, e2]; exact ⟨W, h⟩
  · have e1 : r.sized n = ⟨((r.data.drop (r.at' (r.len - n)) ++ r.data.take (r.at' (r.len - n))) ++ List.replicate n 0).take n, max r.b (r.e - n), r.e, 0⟩ := by unfold sized; rw [if_neg hn]
    by_cases hz : t.b = t.e
    · refine ⟨[], ?_⟩
      rw [e1]
      refine empty_beside (resize_fine h.fine h1) ?_ ?_ he ?_ rfl
      · show n = (List.take n _).length
        rw [List.length_take, List.length_append, List.length_replicate]; omega
      · show max t.b (t.e - n) = max r.b (r.e - n)
        rw [hb, he]
      · show max r.b (r.e - n) = r.e
        omega
    · have hnl : n ≤ r.len := by omega
      have ha := Ri.at_lt h.has (r.len - n)
      refine ⟨Ri.last n W, ?_⟩
      rw [e1, show max r.b (r.e - n) = r.e - n by omega]
      refine resize_beside h h1 hnl ?_
      rw [List.take_append_of_le_length]
      rw [List.length_append, List.length_drop, List.length_take]
      have := h.has.fit
      omega
/-- An operation that fits, within bounds. -/
structure Apt (t : Ta) (op : ROp) : Prop where
  kind : 0 ≤ op.kind ∧ op.kind ≤ 10 ∧ op.kind ≠ 9
  len : 0 ≤ op.len
  size : op.kind = 6 → 1 ≤ op.len
  off : op.kind = 8 → 0 ≤ op.off
  fits : t.fits op = true
theorem Apt.slice {t : Ta} {op : ROp} (h : t.Apt op) (hk : op.kind = 3) (h0 : t.there op.off 0 = true) : t.there op.off op.len = true := by
  have hf := h.fits
  unfold Ta.fits at hf
  rw [if_neg (by omega), if_pos hk, h0] at hf
  simpa using hf
theorem Apt.resize {t : Ta} {op : ROp} (h : t.Apt op) (hk : op.kind = 6) : t.b = t.e ∨ t.b + op.len.toNat ≤ t.e := by
  have hf := h.fits
  unfold Ta.fits at hf
  rw [if_neg (by omega), if_neg (by omega), if_pos hk, Bool.or_eq_true, decide_eq_true_eq, decide_eq_true_eq] at hf
  have := h.len
  omega
theorem step_beside {t : Ta} {r : Ri} {W : List UInt8} (h : t.Beside r W) {op : ROp} (ha : t.Apt op) :
    (∃ W', (t.step op).1.Beside (r.step op).1 W') ∧ (t.step op).2.says (r.step op).2 = true := by
  have hb := h.b
  have he := h.e
  have hsz := h.size
  have hW := beside_len h
  have hw := has_win h.has
  have hbe := h.fine.be
  have hrd : r.data.length = r.size := rfl
  have hslice := ha.slice
  have hresize := ha.resize
  obtain ⟨⟨k1, k2, k9⟩, hl, h6, h8, hfit⟩ := ha
  obtain ⟨k, xs, off, len⟩ := op
  simp only at *
  have hthere : ∀ z : Int, (t.there off z = true) ↔ ((t.b : Int) ≤ off ∧ off ≤ (t.e : Int) ∧ z ≤ t.e - off) := fun z => ⟨fun h => of_decide_eq_true h, fun h => decide_eq_true h⟩
  have hks : k = 0 ∨ k = 1 ∨ k = 2 ∨ k = 3 ∨ k = 4 ∨ k = 5 ∨ k = 6 ∨ k = 7 ∨ k = 8 ∨ k = 10 := by omega
  rcases hks with rfl | rfl | rfl | rfl | rfl | rfl | rfl | rfl | rfl | rfl
  · rw [Ta.step0, Ri.step0, hsz, hrd]
    by_cases hc : xs.length ≤ r.size
    · rw [if_pos hc, if_pos hc]
      exact ⟨⟨_, puts_beside _ _ (agree_known xs) h⟩, says_bare _ _⟩
    · rw [if_neg hc, if_neg hc]
      exact ⟨⟨_, h⟩, says_bare _ _⟩
  · rw [Ta.step1, Ri.step1]
    cases hc : t.there off 0 with
    | true =>
      have hz := (hthere 0).1 hc
      obtain ⟨h1, h2⟩ := read_beside h hc hl
      have hrn : t.readN off len = min len.toNat ((t.e : Int) - off).toNat := rfl
      rw [if_pos rfl, if_pos (show (r.b : Int) ≤ off ∧ off ≤ r.e by omega), h1]
      refine ⟨⟨_, h⟩, ?_⟩
      rw [show (if ((t.readN off len : Nat) : Int) < len then (1 : Int) else 0) = if (r.e : Int) < off + len then 1 else 0 by
        rw [hrn]
        by_cases hq : (r.e : Int) < off + len
        · rw [if_pos hq, if_pos (by omega)]
        · rw [if_neg hq, if_neg (by omega)]]
      exact says_data _ _ h2
    | false =>
      have hz : ¬ ((t.b : Int) ≤ off ∧ off ≤ (t.e : Int) ∧ (0 : Int) ≤ t.e - off) := fun hh => by have := (hthere 0).2 hh; rw [hc] at this; cases this
      rw [if_neg (by simp), if_neg (show ¬ ((r.b : Int) ≤ off ∧ off ≤ r.e) by omega)]
      exact ⟨⟨_, h⟩, says_bare _ _⟩
  · rw [Ta.step2, Ri.step2]
    cases hc : t.there off xs.length with
    | true =>
      have hz := (hthere xs.length).1 hc
      rw [if_pos rfl, if_pos (show (r.b : Int) ≤ off ∧ off + xs.length ≤ r.e by omega), ← hb]
      obtain ⟨W', hB, _⟩ := overs_beside xs h (k := (off - t.b).toNat) (by omega)
      exact ⟨⟨_, hB⟩, says_bare _ _⟩
    | false =>
      have hz : ¬ ((t.b : Int) ≤ off ∧ off ≤ (t.e : Int) ∧ (xs.length : Int) ≤ t.e - off) := fun hh => by have := (hthere _).2 hh; rw [hc] at this; cases this
      rw [if_neg (by simp), if_neg (show ¬ ((r.b : Int) ≤ off ∧ off + xs.length ≤ r.e) by omega)]
      exact ⟨⟨_, h⟩, says_bare _ _⟩
  · rw [Ta.step3, Ri.step3]
    cases hc : t.there off len with
    | true =>
      have hz := (hthere len).1 hc
      obtain ⟨h1, h2⟩ := read_beside h (off := off) (len := len) ((hthere 0).2 (by omega)) hl
      rw [if_pos rfl, if_pos (show (r.b : Int) ≤ off ∧ off ≤ r.e by omega)]
      exact ⟨⟨_, h⟩, says_data _ _ h2⟩
    | false =>
      have hz0 : ¬ t.there off 0 = true := fun hh => by have := hslice rfl hh; rw [hc] at this; cases this
      have hz : ¬ ((t.b : Int) ≤ off ∧ off ≤ (t.e : Int) ∧ (0 : Int) ≤ t.e - off) := fun hh => hz0 ((hthere 0).2 hh)
      rw [if_neg (by simp), if_neg (show ¬ ((r.b : Int) ≤ off ∧ off ≤ r.e) by omega)]
      exact ⟨⟨_, h⟩, says_bare _ _⟩
  · rw [Ta.step4, Ri.step4]
    refine ⟨⟨_, h⟩, ?_⟩
    cases hc : t.there off xs.length with
    | true =>
      have hz := (hthere xs.length).1 hc
      rw [if_pos rfl]
      have hob := h.fine.ob
      have hbl := h.fine.len
      have hkl := h.fine.klen
      have hfl : (r.from' off xs.length).length = xs.length := by
        unfold from'
        rw [hw, List.length_take, List.length_drop]; omega
      have hsp := same_spec (t := t) xs (r.from' off xs.length) (off - t.o).toNat true hfl.symm (by omega) (by omega) (fun i hi hk => by
        unfold from'
        rw [hw, List.getElem?_take, if_pos (by omega), List.getElem?_drop]
        have e1 : (off - t.o).toNat + i = t.b - t.o + ((off - t.b).toNat + i) := by omega
        rw [e1] at hk ⊢
        rw [← hb]
        exact h.get _ (by omega) hk)
      generalize t.same (off - t.o).toNat xs true = pr at *
      obtain ⟨is, told⟩ := pr
      simp only at hsp ⊢
      unfold TAns.says
      rw [agrees_nil]
      cases told with
      | false => simp
      | true =>
        rw [hsp rfl]
        simp only [Bool.not_true, Bool.false_or, and_self, decide_true, Bool.true_and, Bool.and_true]
        have : (↑r.b ≤ off ∧ off + ↑xs.length ≤ ↑r.e ∧ xs = r.from' off ↑xs.length) ↔ xs = r.from' off xs.length := ⟨fun hh => hh.2.2, fun hh => ⟨by omega, by omega, hh⟩⟩
        simp only [this, beq_self_eq_true]
    | false =>
      have hz : ¬ ((t.b : Int) ≤ off ∧ off ≤ (t.e : Int) ∧ (xs.length : Int) ≤ t.e - off) := fun hh => by have := (hthere _).2 hh; rw [hc] at this; cases this
      rw [if_neg (by simp)]
      unfold TAns.says
      rw [agrees_nil]
      have : ¬ (↑r.b ≤ off ∧ off + ↑xs.length ≤ ↑r.e ∧ xs = r.from' off ↑xs.length) := fun hh => hz (by omega)
      simp [this]
  · rw [Ta.step5, Ri.step5]
    cases hc : t.there off len with
    | true =>
      have hz := (hthere len).1 hc
      rw [if_pos rfl, if_pos rfl, if_pos (show (r.b : Int) ≤ off ∧ off + len ≤ r.e by omega)]
      have hm := move_beside h (k := (off - t.b).toNat) (n := len.toNat) (by omega)
      have e1 : r.from' off len = (W.drop (off - t.b).toNat).take len.toNat := by unfold from'; rw [hw, hb]
      rw [e1, ← he]
      exact ⟨⟨_, hm⟩, says_bare _ _⟩
    | false =>
      have hz : ¬ ((t.b : Int) ≤ off ∧ off ≤ (t.e : Int) ∧ len ≤ t.e - off) := fun hh => by have := (hthere _).2 hh; rw [hc] at this; cases this
      rw [if_neg (by simp), if_neg (by simp), if_neg (show ¬ ((r.b : Int) ≤ off ∧ off + len ≤ r.e) by omega)]
      exact ⟨⟨_, h⟩, says_bare _ _⟩
  · rw [Ta.step6, Ri.step6]
    have := h6 rfl
    exact ⟨sized_beside h (by omega) (hresize rfl), says_bare _ _⟩
  · rw [Ta.step7, Ri.step7]
    obtain ⟨U, hU, hp⟩ := Ri.skip_puts h.has len.toNat
    have hB := puts_beside _ U (agree_unknown U) h
    rw [hp, hU] at hB
    exact ⟨⟨_, hB⟩, says_bare _ _⟩
  · rw [Ta.step8, Ri.step8]
    have h0 := h8 rfl
    refine ⟨⟨[], ?_⟩, says_bare _ _⟩
    rw [hsz]
    exact fresh_beside (r := ⟨r.data, off.toNat, off.toNat, 0⟩) h.has.pos rfl rfl
  · rw [Ta.step10, Ri.step10]
    refine ⟨⟨_, h⟩, ?_⟩
    rw [hb, he, hsz]
    unfold TAns.says
    rw [agrees_nil]
    simp
end Ta
end Go.Vil
end
section
set_option linter.unusedVariables false
namespace Go.Vil
namespace Ri
theorem run_append : ∀ (a : List ROp) (r : Ri) (b : List ROp), r.run (a ++ b) = r.run a ++ (r.endR a).run b
  | [], _, _ => rfl
  | op :: a, r, b => by
    show (r.step op).2 :: Ri.run (r.step op).1 (a ++ b) = _
    rw [run_append a (r.step op).1 b]; rfl
theorem fine_append : ∀ (a : List ROp) (r : Ri) (b : List ROp), r.Fine a → (r.endR a).Fine b → r.Fine (a ++ b)
  | [], _, _, _, h => h
  | op :: a, r, b, h, h2 => ⟨h.1, fine_append a (r.step op).1 b h.2 h2⟩
theorem endR_append : ∀ (a : List ROp) (r : Ri) (b : List ROp), r.endR (a ++ b) = (r.endR a).endR b
  | [], _, _ => rfl
  | op :: a, r, b => endR_append a (r.step op).1 b
theorem run_length : ∀ (a : List ROp) (r : Ri), (r.run a).length = a.length
  | [], _ => rfl
  | op :: a, r => by
    show (Ri.run (r.step op).1 a).length + 1 = _
    rw [run_length a]; rfl
end Ri
namespace Ta
open Ri
/-- A tape that is not long yet. -/
structure Low (t : Ta) (k : Nat) : Prop where
  fine : t.Fine
  size : t.size ≤ 300
  e : t.e ≤ 1099511627776 + 305 * k
  len : t.bytes.length ≤ 300 * k
/-- An operation near to what is there. -/
structure Near (t : Ta) (op : ROp) : Prop where
  apt : t.Apt op
  data : op.data.length ≤ 300
  len : op.len ≤ 300
  off : -5 ≤ op.off ∧ op.off ≤ (t.e : Int) + 5
theorem kindOf_range (z : Int) : 0 ≤ kindOf z ∧ kindOf z ≤ 10 ∧ kindOf z ≠ 9 := by
  have h1 : 0 ≤ u64 z % 11 := Int.emod_nonneg _ (by decide)
  have h2 : u64 z % 11 < 11 := Int.emod_lt_of_pos _ (by decide)
  unfold kindOf
  split <;> omega
theorem cut_off (t : Ta) (op : ROp) (hf : t.Fine) : (t.b : Int) - 5 ≤ (t.cut op).off ∧ (t.cut op).off ≤ (t.e : Int) + 5 ∧ ((t.cut op).kind = 8 → 0 ≤ (t.cut op).off) := by
  have hbe := hf.be
  have h1 : 0 ≤ u64 op.off % ((t.e : Int) - t.b + 10) := Int.emod_nonneg _ (by omega)
  have h2 : u64 op.off % ((t.e : Int) - t.b + 10) < (t.e : Int) - t.b + 10 := Int.emod_lt_of_pos _ (by omega)
  have hk : (t.cut op).kind = kindOf op.kind := rfl
  have ho : (t.cut op).off = if kindOf op.kind = 8 then max ((t.b : Int) - 5 + u64 op.off % ((t.e : Int) - t.b + 10)) 0 else (t.b : Int) - 5 + u64 op.off % ((t.e : Int) - t.b + 10) := rfl
  rw [hk, ho]
  generalize u64 op.off % ((t.e : Int) - t.b + 10) = z at *
  split <;> omega
theorem cut_len (t : Ta) (op : ROp) : 0 ≤ (t.cut op).len ∧ (t.cut op).len ≤ 300 ∧ ((t.cut op).kind = 6 → 1 ≤ (t.cut op).len) := by
  have h1 : 0 ≤ u64 op.len % 300 := Int.emod_nonneg _ (by decide)
  have h2 : u64 op.len % 300 < 300 := Int.emod_lt_of_pos _ (by decide)
  have hk : (t.cut op).kind = kindOf op.kind := rfl
  have hl : (t.cut op).len = if kindOf op.kind = 6 then 1 + u64 op.len % 300 else u64 op.len % 300 := rfl
  rw [hk, hl]
  generalize u64 op.len % 300 = z at *
  split <;> omega
theorem cut_near (t : Ta) (op : ROp) (hf : t.Fine) (h : t.fits (t.cut op) = true) : t.Near (t.cut op) := by
  have h1 := cut_off t op hf
  have h2 := cut_len t op
  refine ⟨⟨kindOf_range op.kind, h2.1, h2.2.2, h1.2.2, h⟩, ?_, h2.2.1, by omega, h1.2.1⟩
  show (op.data.take 300).length ≤ 300
  rw [List.length_take]; omega
theorem near_ten (t : Ta) : t.Near ⟨10, [], 0, 0⟩ :=
  ⟨⟨by simp, by simp, by simp, by simp, rfl⟩, by simp, by simp, by simp; omega⟩
theorem near_all (t : Ta) {k : Nat} (h : t.Low k) : t.Near ⟨1, [], t.b, (t.e : Int) - t.b⟩ := by
  have h1 := h.fine.be
  have h2 := h.fine.fit
  have h3 := h.size
  refine ⟨⟨by simp, ?_, by simp, by simp, rfl⟩, by simp, ?_, ?_, ?_⟩
  all_goals (simp only; omega)
theorem step_low {t : Ta} {k : Nat} {op : ROp} (h : t.Low k) (hn : t.Near op) : (t.step op).1.Low (k + 1) := by
  obtain ⟨hf, hs, he, hl⟩ := h
  obtain ⟨hapt, hd, hln, ho1, ho2⟩ := hn
  have hks := hapt.kind
  have hl0 := hapt.len
  have h6 := hapt.size
  have h8 := hapt.off
  have hres := hapt.resize
  clear hapt
  have hbe := hf.be
  have hfit := hf.fit
  obtain ⟨kd, xs, off, len⟩ := op
  simp only at *
  have same : t.Low (k + 1) := ⟨hf, hs, by omega, by omega⟩
  have more : ∀ l : List (UInt8 × Bool), l.length ≤ 300 → (t.puts l).Low (k + 1) := fun l hl2 =>
    ⟨puts_fine l hf, by rw [puts_size]; exact hs, by rw [puts_e]; omega, by rw [puts_bytes, List.length_append, List.length_map]; omega⟩
  have hkk : kd = 0 ∨ kd = 1 ∨ kd = 2 ∨ kd = 3 ∨ kd = 4 ∨ kd = 5 ∨ kd = 6 ∨ kd = 7 ∨ kd = 8 ∨ kd = 10 := by omega
  rcases hkk with rfl | rfl | rfl | rfl | rfl | rfl | rfl | rfl | rfl | rfl
  · rw [step0]; split
    · exact more _ (by rw [List.length_map]; exact hd)
    · exact same
  · rw [step1]; split <;> exact same
  · rw [step2]; split
    · obtain ⟨e1, e2, e3, e4, e5, e6⟩ := overs_rest xs t (off - t.b).toNat
      exact ⟨overs_fine xs hf, by show (t.overs _ xs).size ≤ 300; omega, by show (t.overs _ xs).e ≤ _; omega, by show (t.overs _ xs).bytes.length ≤ _; omega⟩
    · exact same
  · rw [step3]; split <;> exact same
  · rw [step4]; exact same
  · rw [step5]
    show (if t.there off len = true then t.puts (t.piece (off - t.b).toNat len.toNat) else t).Low (k + 1)
    split
    · refine more _ ?_
      unfold piece
      rw [List.length_take]; omega
    · exact same
  · rw [step6]
    have := h6 rfl
    exact ⟨resize_fine hf (by omega), by show len.toNat ≤ 300; omega, by show t.e ≤ _; omega, by show t.bytes.length ≤ _; omega⟩
  · rw [step7]
    exact more _ (by rw [List.length_replicate]; omega)
  · rw [step8]
    refine ⟨fresh_fine _ _ hf.pos, hs, ?_, Nat.zero_le _⟩
    show off.toNat ≤ _
    omega
  · rw [step10]; exact same
/-- What was done to a tape, and what was answered. -/
inductive Did (t0 : Ta) : List (ROp × TAns) → Ta → Prop
  | nil : Did t0 [] t0
  | snoc {l : List (ROp × TAns)} {t : Ta} {op : ROp} (h : Did t0 l t) (hn : t.Near op) : Did t0 (l ++ [(op, (t.step op).2)]) (t.step op).1
/-- All answers are said. -/
def SaysAll (l : List TAns) (as : List RAns) : Prop := l.length = as.length ∧ ∀ (i : Nat) (p : TAns) (a : RAns), l[i]? = some p → as[i]? = some a → p.says a = true
theorem legal_of {t : Ta} {r : Ri} {W : List UInt8} {op : ROp} {k : Nat} (h : t.Beside r W) (hl : t.Low k) (hk : k ≤ 1000) (hn : t.Near op) : r.Legal op := by
  have h1 := hl.e
  have h2 := hl.size
  have h3 := h.size
  have h4 := h.b
  have h5 := h.e
  obtain ⟨hapt, hd, hln, ho⟩ := hn
  have h6 := hapt.kind
  have h7 := hapt.len
  refine ⟨by rw [has_win h.has]; exact h.has, by omega, by omega, ⟨h6.1, h6.2.1⟩, by omega, by omega, by omega, fun h3' hb he => ?_, fun h6' => ⟨hapt.size h6', ?_⟩, hapt.off⟩
  · have := hapt.slice h3' (decide_eq_true (by omega))
    have hz : (t.b : Int) ≤ op.off ∧ op.off ≤ (t.e : Int) ∧ op.len ≤ t.e - op.off := of_decide_eq_true this
    omega
  · have := hapt.resize h6'
    omega
theorem did_all {t0 t : Ta} {l : List (ROp × TAns)} (h : Did t0 l t) {r : Ri} {W : List UInt8} (hB : t0.Beside r W) {k : Nat} (hL : t0.Low k) (hk : k + l.length ≤ 1000) :
    t.Low (k + l.length) ∧ r.Fine (l.map (·.1)) ∧ (∃ W', t.Beside (r.endR (l.map (·.1))) W') ∧ SaysAll (l.map (·.2)) (r.run (l.map (·.1))) := by
  induction h with
  | nil => exact ⟨hL, trivial, ⟨W, hB⟩, rfl, fun i p a hp => by simp at hp⟩
  | @snoc l t op h hn ih =>
    rw [List.length_append] at hk ⊢
    simp only [List.length_cons, List.length_nil] at hk ⊢
    obtain ⟨i1, i2, ⟨W', i3⟩, i4, i5⟩ := ih (by omega)
    have hs := step_beside i3 hn.apt
    rw [List.map_append, List.map_append, Ri.endR_append, Ri.run_append]
    refine ⟨step_low i1 hn, Ri.fine_append _ _ _ i2 ⟨legal_of i3 i1 (by omega) hn, trivial⟩, hs.1, ?_, ?_⟩
    · rw [List.length_append, List.length_append, i4]; rfl
    · intro i p a hp ha
      by_cases hi : i < (l.map (·.2)).length
      · rw [List.getElem?_append_left hi] at hp
        rw [List.getElem?_append_left (by omega)] at ha
        exact i5 i p a hp ha
      · rw [List.getElem?_append_right (by omega)] at hp
        rw [List.getElem?_append_right (by omega)] at ha
        rw [← i4] at ha
        have hi2 : i - (l.map (·.2)).length = 0 := by
          have := (List.getElem?_eq_some_iff.1 hp).1
          simp only [List.map_cons, List.map_nil, List.length_cons, List.length_nil] at this; omega
        rw [hi2] at hp ha
        have e1 : p = (t.step op).2 := by simpa using hp.symm
        have e2 : a = (Ri.step (r.endR (l.map (·.1))) op).2 := by simpa [Ri.run] using ha.symm
        rw [e1, e2]
        exact hs.2
/-- How long is what a tape answers. -/
theorem step_known {t : Ta} (hf : t.Fine) (op : ROp) (ho : t.Apt op) : (t.step op).2.want.data = [] ∨ (t.step op).2.known.length = (t.step op).2.want.data.length := by
  have h1 := hf.len
  have h2 := hf.klen
  have hr : ∀ off len : Int, (t.readK off len).length = (t.readB off len).length := fun off len => by
    unfold readK readB
    rw [List.length_take, List.length_take, List.length_drop, List.length_drop, h1, h2]
  have hks := ho.kind
  obtain ⟨kd, xs, off, len⟩ := op
  simp only at hks
  have hkk : kd = 0 ∨ kd = 1 ∨ kd = 2 ∨ kd = 3 ∨ kd = 4 ∨ kd = 5 ∨ kd = 6 ∨ kd = 7 ∨ kd = 8 ∨ kd = 10 := by omega
  rcases hkk with rfl | rfl | rfl | rfl | rfl | rfl | rfl | rfl | rfl | rfl
  · rw [step0]; split <;> exact .inl rfl
  · rw [step1]; split
    · exact .inr (hr _ _)
    · exact .inl rfl
  · rw [step2]; split <;> exact .inl rfl
  · rw [step3]; split
    · exact .inr (hr _ _)
    · exact .inl rfl
  · rw [step4]; exact .inl rfl
  · rw [step5]; exact .inl rfl
  · rw [step6]; exact .inl rfl
  · rw [step7]; exact .inl rfl
  · rw [step8]; exact .inl rfl
  · rw [step10]; exact .inl rfl
theorem readB_le (t : Ta) (off len : Int) : (t.readB off len).length ≤ len.toNat := by
  unfold readB
  rw [List.length_take]
  have : t.readN off len ≤ len.toNat := Nat.min_le_left _ _
  omega
theorem step_small (t : Ta) (op : ROp) : (t.step op).2.want.data.length ≤ op.len.toNat := by
  unfold step
  repeat' split
  all_goals first | exact Nat.zero_le _ | exact readB_le _ _ _
theorem agrees_length {xs ys : List UInt8} {ks : List Bool} (h : agrees xs ys ks = true) : xs.length = ys.length := by
  unfold agrees at h
  rw [Bool.and_eq_true] at h
  exact of_decide_eq_true h.1
theorem says_length {a : TAns} {x : RAns} (h : a.says x = true) : x.data.length = a.want.data.length := by
  unfold TAns.says at h
  rw [Bool.and_eq_true] at h
  exact agrees_length h.2
theorem did_small {t0 t : Ta} {l : List (ROp × TAns)} (h : Did t0 l t) : ∀ p ∈ l, p.2.want.data.length ≤ 300 := by
  induction h with
  | nil => intro p hp; cases hp
  | @snoc l t op h hn ih =>
    intro p hp
    rcases List.mem_append.1 hp with hp | hp
    · exact ih p hp
    · obtain rfl := List.mem_singleton.1 hp
      have h1 := step_small t op
      have h2 := hn.len
      show (t.step op).2.want.data.length ≤ 300
      omega
theorem fresh_both (size b : Nat) (h : 1 ≤ size) : (fresh size b).Beside (Ri.fresh size b) [] := by
  have hs : (Ri.fresh size b).size = size := List.length_replicate
  have := fresh_beside (r := Ri.fresh size b) (by omega) rfl rfl
  rw [hs] at this
  exact this
theorem did_low {t0 t : Ta} {l : List (ROp × TAns)} (h : Did t0 l t) {k : Nat} (hL : t0.Low k) : t.Low (k + l.length) := by
  induction h with
  | nil => exact hL
  | snoc h hn ih =>
    rw [List.length_append]
    exact step_low ih hn
theorem did_known {t0 t : Ta} {l : List (ROp × TAns)} (h : Did t0 l t) {k : Nat} (hL : t0.Low k) : ∀ p ∈ l, p.2.want.data = [] ∨ p.2.known.length = p.2.want.data.length := by
  induction h with
  | nil => intro p hp; cases hp
  | snoc h hn ih =>
    intro p hp
    rcases List.mem_append.1 hp with hp | hp
    · exact ih p hp
    · obtain rfl := List.mem_singleton.1 hp
      exact step_known (did_low h hL).fine _ hn.apt
end Ta
end Go.Vil
end
