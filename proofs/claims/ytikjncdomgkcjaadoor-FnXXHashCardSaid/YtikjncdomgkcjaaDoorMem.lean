/- A small calculus of memory, over any program: which blocks there are, and what an operation does to them. -/
import Derived.WalkKit
import Derived.ProofKit
import Derived.BigQuiet
import Derived.Laws.AppendOwn
import Derived.Laws.OwnMore
namespace Go.Vil
open Go.RowKit

/-- A slice whose elements, of so many cells each, lie in a block that is its own, from wherever on; or nil. -/
def hasRow (w : World) (e : TypeId) (size : Nat) (v : Value) (n : Nat) (xs : List Value) : Prop :=
  xs.length = n * size ∧ ((v = .slice none 0 0 ∧ n = 0) ∨ ∃ (g o cap : Nat) (cur : Array Value), v = .slice (some ⟨g, o, none⟩) n cap ∧ w.heap[g]? = some (.cells cur e (0, 0)) ∧ n ≤ cap ∧ cap ≤ maxLen ∧ o + cap * size ≤ cur.size ∧ (cur.toList.drop o).take (n * size) = xs)
theorem hasRow.lt {w : World} {e : TypeId} {size : Nat} {v : Value} {n : Nat} {xs : List Value} (h : hasRow w e size v n xs) (b : Nat) (hb : v.ownBlock = some b) : b < w.heap.size := by
  rcases h.2 with ⟨rfl, _⟩ | ⟨g, o, cap, cur, rfl, hg, _⟩
  · simp [Value.ownBlock] at hb
  · simp only [Value.ownBlock, Option.some.injEq] at hb; subst hb
    exact (Array.getElem?_eq_some_iff.1 hg).1
/-- A thing in memory: a block that is known, a row that grows by append (nil, or a block of its own), a block of which something is known. -/
inductive Res where
  | blk (b : Nat) (o : Obj)
  | row (e : TypeId) (size : Nat) (v : Value) (n : Nat) (xs : List Value)
  | sat (b : Nat) (p : Obj → Prop)
  | orow (e : TypeId) (size : Nat) (v : Value) (n : Nat) (xs : List Value)

/-- The block that it takes. -/
def Res.foot : Res → Option Nat
  | .blk b _ => some b
  | .row _ _ v _ _ => v.ownBlock
  | .sat b _ => some b
  | .orow _ _ v _ _ => v.ownBlock

def Res.holds (w : World) : Res → Prop
  | .blk b o => w.heap[b]? = some o
  | .row e size v n xs => w.ownsRow 0 e size v n xs
  | .sat b p => ∃ o, w.heap[b]? = some o ∧ p o
  | .orow e size v n xs => hasRow w e size v n xs

theorem Res.holds_lt {w : World} {r : Res} (h : r.holds w) : ∀ b, r.foot = some b → b < w.heap.size := by
  intro b hb
  cases r with
  | blk b' o =>
    simp only [Res.foot, Option.some.injEq] at hb; subst hb
    exact (Array.getElem?_eq_some_iff.1 h).1
  | row e size v n xs => exact (World.ownsRow.lt h b hb).2
  | sat b' p =>
    simp only [Res.foot, Option.some.injEq] at hb; subst hb
    obtain ⟨o, ho, _⟩ := h
    exact (Array.getElem?_eq_some_iff.1 ho).1
  | orow e size v n xs => exact hasRow.lt h b hb

theorem Res.holds_of_block {w w' : World} {r : Res} (h : r.holds w) (hb : ∀ b, r.foot = some b → w'.heap[b]? = w.heap[b]?) : r.holds w' := by
  cases r with
  | blk b o => exact (hb b rfl).trans h
  | row e size v n xs =>
    refine ⟨h.1, ?_⟩
    rcases h.2 with h1 | ⟨g, cap, cur, rfl, h2, hg, h3⟩
    · exact .inl h1
    · exact .inr ⟨g, cap, cur, rfl, h2, (hb g rfl).trans hg, h3⟩
  | sat b p =>
    obtain ⟨o, ho, hp⟩ := h
    exact ⟨o, (hb b rfl).trans ho, hp⟩
  | orow e size v n xs =>
    refine ⟨h.1, ?_⟩
    rcases h.2 with h1 | ⟨g, o, cap, cur, rfl, hg, h3⟩
    · exact .inl h1
    · exact .inr ⟨g, o, cap, cur, rfl, (hb g rfl).trans hg, h3⟩

/-- These things are there, each with a block of its own. -/
def Mem (w : World) (l : List Res) : Prop := (l.filterMap Res.foot).Nodup ∧ ∀ r ∈ l, r.holds w

/-- What turned between two worlds: blocks of a list, and new ones. -/
structure Chg (bs : List Nat) (w w' : World) : Prop where
  os : w'.os = w.os
  tape : w'.tape = w.tape
  output : w'.output = w.output
  size : w.heap.size ≤ w'.heap.size
  block : ∀ k, k < w.heap.size → k ∉ bs → w'.heap[k]? = w.heap[k]?

theorem Chg.refl (bs : List Nat) (w : World) : Chg bs w w := ⟨rfl, rfl, rfl, Nat.le_refl _, fun _ _ _ => rfl⟩
theorem Chg.trans {bs : List Nat} {a b c : World} (h : Chg bs a b) (k : Chg bs b c) : Chg bs a c :=
  ⟨k.os.trans h.os, k.tape.trans h.tape, k.output.trans h.output, Nat.le_trans h.size k.size, fun i hi hn => (k.block i (Nat.lt_of_lt_of_le hi h.size) hn).trans (h.block i hi hn)⟩
theorem Chg.mono {bs bs' : List Nat} {a b : World} (h : Chg bs a b) (hs : ∀ k ∈ bs, k ∈ bs') : Chg bs' a b :=
  ⟨h.os, h.tape, h.output, h.size, fun i hi hn => h.block i hi (fun e => hn (hs i e))⟩
theorem Chg.below {w w' : World} (h : Chg [] w w') : Below w.heap.size w w' := ⟨h.os, h.tape, h.output, h.size, fun k hk => h.block k hk (by simp)⟩
theorem Chg.of_below {w w' : World} (h : Below w.heap.size w w') : Chg [] w w' := ⟨h.os, h.tape, h.output, h.size, fun k hk _ => h.block k hk⟩
/-- Behind a change: what was added to the changes of before: each block of it is an allowed one, or was not there at the beginning. -/
theorem Chg.on {bs bs' : List Nat} {a b c : World} (h : Chg bs a b) (k : Chg bs' b c) (hm : ∀ x ∈ bs', x ∈ bs ∨ a.heap.size ≤ x) : Chg bs a c :=
  ⟨k.os.trans h.os, k.tape.trans h.tape, k.output.trans h.output, Nat.le_trans h.size k.size, fun i hi hn =>
    (k.block i (Nat.lt_of_lt_of_le hi h.size) (fun e => (hm i e).elim hn (fun h' => by omega))).trans (h.block i hi hn)⟩
theorem Chg.cell {bs : List Nat} {w w' : World} (h : Chg bs w w') {a : Addr} {v : Value} (hc : w.cell? a = some v) (hn : a.block ∉ bs) : w'.cell? a = some v :=
  (World.cell?_of_block (h.block a.block (World.block_lt_of_cell? w a hc) hn)).trans hc

/-- The state of a walk: what is there, what has turned since its beginning (blocks of a list, and new ones), and that what is there lies in those. -/
structure St (w0 : World) (bs : List Nat) (w : World) (l : List Res) : Prop where
  mem : Mem w l
  chg : Chg bs w0 w
  org : ∀ r ∈ l, ∀ b, r.foot = some b → b ∈ bs ∨ w0.heap.size ≤ b

/-- A world in such a state, or a given one. (A structure of its own, so that simp sees that there is one.) -/
structure StW (wc w0 : World) (bs : List Nat) (l : List Res) where
  w : World
  st : w = wc ∨ St w0 bs w l
instance (wc w0 : World) (bs : List Nat) (l : List Res) : Nonempty (StW wc w0 bs l) := ⟨⟨wc, .inl rfl⟩⟩
theorem St.of {w0 : World} {bs : List Nat} {l : List Res} {w' wc : World} (S : St w0 bs wc l) (h : ∃ p : StW wc w0 bs l, w' = p.w) : St w0 bs w' l := by
  obtain ⟨⟨w, h⟩, rfl⟩ := h
  rcases h with rfl | h
  · exact S
  · exact h
theorem St.inSt {w0 : World} {bs : List Nat} {l : List Res} {w' : World} (wc : World) (h : St w0 bs w' l) : ∃ p : StW wc w0 bs l, w' = p.w := ⟨⟨w', .inr h⟩, rfl⟩

theorem St.inSt' {w0 : World} {bs : List Nat} {l : List Res} {w' : World} (_ : St w0 bs w' l) : ∃ p : StW w' w0 bs l, w' = p.w := ⟨⟨w', .inl rfl⟩, rfl⟩
theorem Mem.nil (w : World) : Mem w [] := ⟨by simp, by simp⟩
theorem St.start {w : World} {l : List Res} (h : Mem w l) : St w (l.filterMap Res.foot) w l := ⟨h, Chg.refl _ _, fun r hr _ hb => .inl (List.mem_filterMap.2 ⟨r, hr, hb⟩)⟩
theorem St.begin (w : World) : St w [] w [] := ⟨Mem.nil w, Chg.refl _ _, by simp⟩

/-- One thing is replaced by another, in place. -/
inductive At (r r' : Res) : List Res → List Res → Prop
  | head {l : List Res} : At r r' (r :: l) (r' :: l)
  | tail {p : Res} {l l' : List Res} : At r r' l l' → At r r' (p :: l) (p :: l')

/-- One thing is taken out. -/
inductive Pull (r : Res) : List Res → List Res → Prop
  | head {l : List Res} : Pull r (r :: l) l
  | tail {p : Res} {l l' : List Res} : Pull r l l' → Pull r (p :: l) (p :: l')

/-- Some things, out of others, in any order. -/
inductive Sel : List Res → List Res → Prop
  | nil {l : List Res} : Sel [] l
  | cons {r : Res} {rs l l' : List Res} : Pull r l l' → Sel rs l' → Sel (r :: rs) l

theorem Pull.perm {r : Res} {l l' : List Res} (h : Pull r l l') : l.Perm (r :: l') := by
  induction h with
  | head => exact .refl _
  | tail _ ih => exact (List.Perm.cons _ ih).trans (.swap _ _ _)

theorem Mem.perm {w : World} {l l' : List Res} (h : Mem w l) (hp : l.Perm l') : Mem w l' :=
  ⟨(hp.filterMap Res.foot).nodup_iff.1 h.1, fun r hr => h.2 r (hp.mem_iff.2 hr)⟩

theorem Mem.tail {w : World} {r : Res} {l : List Res} (h : Mem w (r :: l)) : Mem w l := by
  refine ⟨?_, fun x hx => h.2 x (List.mem_cons_of_mem _ hx)⟩
  have := h.1
  rw [List.filterMap_cons] at this
  split at this
  · exact this
  · exact (List.nodup_cons.1 this).2

theorem Mem.head {w : World} {r : Res} {l : List Res} (h : Mem w (r :: l)) : r.holds w := h.2 r List.mem_cons_self

theorem Mem.cons {w : World} {r : Res} {l : List Res} (h : Mem w l) (hr : r.holds w) (hf : ∀ b, r.foot = some b → ∀ x ∈ l, x.foot ≠ some b) : Mem w (r :: l) := by
  refine ⟨?_, fun x hx => by cases hx with | head => exact hr | tail _ hx => exact h.2 x hx⟩
  rw [List.filterMap_cons]
  split
  · exact h.1
  · rename_i b hb
    refine List.nodup_cons.2 ⟨fun hm => ?_, h.1⟩
    obtain ⟨x, hx, hxb⟩ := List.mem_filterMap.1 hm
    exact hf b hb x hx hxb

theorem Mem.apart {w : World} {r : Res} {l : List Res} (h : Mem w (r :: l)) : ∀ b, r.foot = some b → ∀ x ∈ l, x.foot ≠ some b := by
  intro b hb x hx hxb
  have := h.1
  rw [List.filterMap_cons, hb] at this
  exact (List.nodup_cons.1 this).1 (List.mem_filterMap.2 ⟨x, hx, hxb⟩)

theorem Mem.sel {w : World} {rs l : List Res} (hs : Sel rs l) : Mem w l → Mem w rs := by
  induction hs with
  | nil => intro _; exact Mem.nil w
  | @cons r rs l l' hp hs ih =>
    intro h
    have h1 := h.perm hp.perm
    refine (ih h1.tail).cons h1.head fun b hb x hx => h1.apart b hb x ?_
    clear ih h h1 hp hb
    induction hs with
    | nil => cases hx
    | @cons r' rs' m m' hp' _ ih' =>
      cases hx with
      | head => exact hp'.perm.mem_iff.2 List.mem_cons_self
      | tail _ hx => exact hp'.perm.mem_iff.2 (List.mem_cons_of_mem _ (ih' hx))

theorem Sel.sub {rs l : List Res} (hs : Sel rs l) : ∀ x ∈ rs, x ∈ l := by
  induction hs with
  | nil => intro x hx; cases hx
  | @cons r rs l l' hp _ ih =>
    intro x hx
    cases hx with
    | head => exact hp.perm.mem_iff.2 List.mem_cons_self
    | tail _ hx => exact hp.perm.mem_iff.2 (List.mem_cons_of_mem _ (ih x hx))
theorem St.sel {w0 : World} {bs : List Nat} {w : World} {rs l : List Res} (h : St w0 bs w l) (hs : Sel rs l) : St w0 bs w rs := ⟨h.mem.sel hs, h.chg, fun r hr => h.org r (hs.sub r hr)⟩

theorem Mem.keep {w w' : World} {l : List Res} (h : Mem w l) (hb : ∀ r ∈ l, ∀ b, r.foot = some b → w'.heap[b]? = w.heap[b]?) : Mem w' l :=
  ⟨h.1, fun r hr => Res.holds_of_block (h.2 r hr) (hb r hr)⟩

/-- Some things are taken out, one after the other. -/
inductive Pulls : List Res → List Res → List Res → Prop
  | nil {l : List Res} : Pulls [] l l
  | cons {r : Res} {rs l l' F : List Res} : Pull r l l' → Pulls rs l' F → Pulls (r :: rs) l F
theorem Pulls.perm {rs l F : List Res} (h : Pulls rs l F) : l.Perm (rs ++ F) := by
  induction h with
  | nil => exact .refl _
  | cons hp _ ih => exact hp.perm.trans (List.Perm.cons _ ih)

/-- What a call did to the things that it was handed: they go out of the list, those that it leaves come in. -/
theorem St.callP {w0 : World} {bs : List Nat} {w w' : World} {l rs rs' F : List Res} (S : St w0 bs w l) (hp : l.Perm (rs ++ F)) (C : St w (rs.filterMap Res.foot) w' rs') : St w0 bs w' (rs' ++ F) := by
  have h1 := S.mem.perm hp
  have hF : Mem w F := ⟨by have := h1.1; rw [List.filterMap_append] at this; exact (List.nodup_append.1 this).2.1, fun r hr => h1.2 r (List.mem_append_right _ hr)⟩
  have hap : ∀ x ∈ rs, ∀ y ∈ F, ∀ b, x.foot = some b → y.foot ≠ some b := by
    intro x hx y hy b hxb hyb
    have := h1.1
    rw [List.filterMap_append] at this
    exact (List.nodup_append.1 this).2.2 b (List.mem_filterMap.2 ⟨x, hx, hxb⟩) b (List.mem_filterMap.2 ⟨y, hy, hyb⟩) rfl
  have hF' : Mem w' F := hF.keep fun r hr b hb => C.chg.block b (Res.holds_lt (hF.2 r hr) b hb) fun hb' => by
    obtain ⟨x, hx, hxb⟩ := List.mem_filterMap.1 hb'
    exact hap x hx r hr b hxb hb
  have horg : ∀ b ∈ rs.filterMap Res.foot, b ∈ bs ∨ w0.heap.size ≤ b := fun b hb => by
    obtain ⟨x, hx, hxb⟩ := List.mem_filterMap.1 hb
    exact S.org x (hp.mem_iff.2 (List.mem_append_left _ hx)) b hxb
  refine ⟨⟨?_, fun r hr => (List.mem_append.1 hr).elim (C.mem.2 r) (hF'.2 r)⟩, S.chg.on C.chg horg, fun r hr b hb => ?_⟩
  · rw [List.filterMap_append]
    refine List.nodup_append.2 ⟨C.mem.1, hF'.1, fun b hb c hc e => ?_⟩
    subst e
    obtain ⟨x, hx, hxb⟩ := List.mem_filterMap.1 hb
    obtain ⟨y, hy, hyb⟩ := List.mem_filterMap.1 hc
    rcases C.org x hx b hxb with hb' | hlt
    · obtain ⟨z, hz, hzb⟩ := List.mem_filterMap.1 hb'
      exact hap z hz y hy b hzb hyb
    · have := Res.holds_lt (hF.2 y hy) b hyb; omega
  · rcases List.mem_append.1 hr with hr | hr
    · rcases C.org r hr b hb with hb' | hlt
      · exact horg b hb'
      · have := S.chg.size; right; omega
    · exact S.org r (hp.mem_iff.2 (List.mem_append_right _ hr)) b hb
/-- The things that take these blocks are taken out. -/
inductive PullF (b : Nat) : List Res → List Res → Prop
  | head {r : Res} {l : List Res} (h : r.foot = some b) : PullF b (r :: l) l
  | tail {p : Res} {l l' : List Res} : PullF b l l' → PullF b (p :: l) (p :: l')
inductive PullsF : List Nat → List Res → List Res → Prop
  | nil {l : List Res} : PullsF [] l l
  | cons {b : Nat} {bs : List Nat} {l l' F : List Res} : PullF b l l' → PullsF bs l' F → PullsF (b :: bs) l F
theorem PullF.perm {b : Nat} {l F : List Res} (h : PullF b l F) : ∃ r : Res, r.foot = some b ∧ l.Perm (r :: F) := by
  induction h with
  | head h => exact ⟨_, h, .refl _⟩
  | tail _ ih =>
    obtain ⟨r, h1, h2⟩ := ih
    exact ⟨r, h1, (List.Perm.cons _ h2).trans (.swap _ _ _)⟩
theorem PullsF.perm {bs : List Nat} {l F : List Res} (h : PullsF bs l F) : ∃ rs : List Res, rs.filterMap Res.foot = bs ∧ l.Perm (rs ++ F) := by
  induction h with
  | nil => exact ⟨[], rfl, .refl _⟩
  | cons hp _ ih =>
    obtain ⟨r, h1, h2⟩ := hp.perm
    obtain ⟨rs, h3, h4⟩ := ih
    exact ⟨r :: rs, by simp [h1, h3], h2.trans (List.Perm.cons _ h4)⟩
theorem St.call {w0 : World} {bs bs' : List Nat} {w w' : World} {l rs' F : List Res} (S : St w0 bs w l) (C : St w bs' w' rs')
    (hp : PullsF bs' l F := by repeat (first | exact PullsF.nil | (apply PullsF.cons; (repeat (first | exact PullF.head rfl | apply PullF.tail))))) : St w0 bs w' (rs' ++ F) := by
  obtain ⟨rs, h1, h2⟩ := hp.perm
  exact S.callP h2 (h1.symm ▸ C)

/-- Some of the things, found by looking. -/
theorem St.sel1 {w0 : World} {bs : List Nat} {w : World} {l F : List Res} {r : Res} (S : St w0 bs w l) (hp : Pull r l F := by repeat (first | exact Pull.head | apply Pull.tail)) : Mem w [r] := S.mem.sel (.cons hp .nil)
theorem St.sel2 {w0 : World} {bs : List Nat} {w : World} {l F F1 : List Res} {r r1 : Res} (S : St w0 bs w l) (hp : Pull r l F1 := by repeat (first | exact Pull.head | apply Pull.tail)) (hp1 : Pull r1 F1 F := by repeat (first | exact Pull.head | apply Pull.tail)) : Mem w [r, r1] :=
  S.mem.sel (.cons hp (.cons hp1 .nil))
theorem St.sel3 {w0 : World} {bs : List Nat} {w : World} {l F F1 F2 : List Res} {r r1 r2 : Res} (S : St w0 bs w l) (hp : Pull r l F1 := by repeat (first | exact Pull.head | apply Pull.tail)) (hp1 : Pull r1 F1 F2 := by repeat (first | exact Pull.head | apply Pull.tail))
    (hp2 : Pull r2 F2 F := by repeat (first | exact Pull.head | apply Pull.tail)) : Mem w [r, r1, r2] := S.mem.sel (.cons hp (.cons hp1 (.cons hp2 .nil)))
theorem St.sel4 {w0 : World} {bs : List Nat} {w : World} {l F F1 F2 F3 : List Res} {r r1 r2 r3 : Res} (S : St w0 bs w l) (hp : Pull r l F1 := by repeat (first | exact Pull.head | apply Pull.tail)) (hp1 : Pull r1 F1 F2 := by repeat (first | exact Pull.head | apply Pull.tail))
    (hp2 : Pull r2 F2 F3 := by repeat (first | exact Pull.head | apply Pull.tail)) (hp3 : Pull r3 F3 F := by repeat (first | exact Pull.head | apply Pull.tail)) : Mem w [r, r1, r2, r3] := S.mem.sel (.cons hp (.cons hp1 (.cons hp2 (.cons hp3 .nil))))
/-- Nothing that is there has turned. -/
theorem St.same {w0 : World} {bs : List Nat} {w w' : World} {l : List Res} (S : St w0 bs w l) (C : Chg [] w w') : St w0 bs w' l :=
  ⟨S.mem.keep fun r hr b hb => C.block b (Res.holds_lt (S.mem.2 r hr) b hb) (by simp), S.chg.on C (by simp), S.org⟩

/-- Something new. -/
theorem St.add {w0 : World} {bs : List Nat} {w w' : World} {l : List Res} {r : Res} (S : St w0 bs w l) (C : Chg [] w w') (hr : r.holds w') (hf : ∀ b, r.foot = some b → w.heap.size ≤ b) : St w0 bs w' (r :: l) := by
  have S' := S.same C
  refine ⟨S'.mem.cons hr fun b hb x hx hxb => ?_, S'.chg, fun x hx b hb => ?_⟩
  · have := Res.holds_lt (S.mem.2 x hx) b hxb
    have := hf b hb
    omega
  · cases hx with
    | head => have := hf b hb; have := S.chg.size; right; omega
    | tail _ hx => exact S.org x hx b hb

theorem At.perm {r r' : Res} {l l' : List Res} (h : At r r' l l') : ∃ F, l.Perm (r :: F) ∧ l'.Perm (r' :: F) := by
  induction h with
  | head => exact ⟨_, .refl _, .refl _⟩
  | tail _ ih =>
    obtain ⟨F, h1, h2⟩ := ih
    exact ⟨_ :: F, (List.Perm.cons _ h1).trans (.swap _ _ _), (List.Perm.cons _ h2).trans (.swap _ _ _)⟩

theorem St.perm {w0 : World} {bs : List Nat} {w : World} {l l' : List Res} (S : St w0 bs w l) (h : l.Perm l') : St w0 bs w l' := ⟨S.mem.perm h, S.chg, fun r hr => S.org r (h.mem_iff.2 hr)⟩

/-- One thing is written, or made anew. -/
theorem St.set {w0 : World} {bs : List Nat} {w w' : World} {l l' : List Res} {r r' : Res} (S : St w0 bs w l) (hA : At r r' l l') (C : Chg r.foot.toList w w') (hr' : r'.holds w')
    (hf : ∀ c, r'.foot = some c → r.foot = some c ∨ w.heap.size ≤ c) : St w0 bs w' l' := by
  obtain ⟨F, h1, h2⟩ := hA.perm
  have hM : Mem w' [r'] := (Mem.nil w').cons hr' (by simp)
  have hfm : [r].filterMap Res.foot = r.foot.toList := by cases h : r.foot <;> simp [h]
  have := S.callP (rs := [r]) (rs' := [r']) (F := F) h1 ⟨hM, by rw [hfm]; exact C, fun x hx b hb => by
    rw [hfm]
    obtain rfl : x = r' := by simpa using hx
    rcases hf b hb with h | h
    · left; simp [h]
    · right; exact h⟩
  exact this.perm h2.symm

theorem At.mem {r r' : Res} {l l' : List Res} (h : At r r' l l') : r ∈ l := by
  induction h with
  | head => exact List.mem_cons_self
  | tail _ ih => exact List.mem_cons_of_mem _ ih
theorem Pull.mem {r : Res} {l l' : List Res} (h : Pull r l l') : r ∈ l := by
  induction h with
  | head => exact List.mem_cons_self
  | tail _ ih => exact List.mem_cons_of_mem _ ih

theorem St.blk {w0 : World} {bs : List Nat} {w : World} {l F : List Res} {b : Nat} {o : Obj} (S : St w0 bs w l) (h : Pull (.blk b o) l F) : w.heap[b]? = some o := S.mem.2 _ h.mem

theorem Chg.drew {bs : List Nat} {w w' : World} (h : Chg bs w w') : Chg bs w w'.drew := ⟨h.os, h.tape, h.output, h.size, h.block⟩
theorem St.drew {w0 : World} {bs : List Nat} {w : World} {l : List Res} (S : St w0 bs w l) : St w0 bs w.drew l := S.same ⟨rfl, rfl, rfl, Nat.le_refl _, fun _ _ _ => rfl⟩

theorem Chg.alloc (w : World) (o : Obj) : Chg [] w (w.alloc o) := ⟨rfl, rfl, rfl, by simp, fun k hk _ => Below.heap_alloc w o k hk⟩
theorem Chg.setCell (w : World) (a : Addr) (v : Value) : Chg [a.block] w (w.setCell a v) := ⟨rfl, rfl, rfl, by simp, fun k _ hn => heap_setCell_other w a k v (by simpa using hn)⟩
theorem Chg.grown {w w' : World} {row : Option Nat} (h : w.grownBy w' row) : Chg row.toList w w' :=
  ⟨h.os, h.tape, h.output, h.size, fun k hk hn => h.block k hk (fun e => hn (by simp [← e]))⟩

end Go.Vil
