/- Slices of structs: element by element. -/
import Derived.Test.YtikjncdomgkcjaaDoorRet
namespace Go.Vil
open Go Go.RowKit
set_option linter.unusedSimpArgs false
set_option linter.unusedVariables false

/-- Two lists, element by element. -/
def Each {α β : Type} (R : α → β → Prop) : List α → List β → Prop
  | [], [] => True
  | a :: l, b :: m => R a b ∧ Each R l m
  | _, _ => False
theorem Each.length {α β : Type} {R : α → β → Prop} : ∀ {l : List α} {m : List β}, Each R l m → l.length = m.length
  | [], [], _ => rfl
  | a :: l, b :: m, h => by simp [Each.length h.2]
theorem Each.get {α β : Type} {R : α → β → Prop} : ∀ {l : List α} {m : List β}, Each R l m → ∀ (i : Nat) (a : α), l[i]? = some a → ∃ b, m[i]? = some b ∧ R a b
  | [], [], _, i, a, h => by simp at h
  | x :: l, y :: m, h, 0, a, ha => by simp at ha; subst ha; exact ⟨y, rfl, h.1⟩
  | x :: l, y :: m, h, i + 1, a, ha => Each.get h.2 i a (by simpa using ha)
theorem Each.mono {α β : Type} {R R' : α → β → Prop} (hR : ∀ a b, R a b → R' a b) : ∀ {l : List α} {m : List β}, Each R l m → Each R' l m
  | [], [], _ => trivial
  | a :: l, b :: m, h => ⟨hR _ _ h.1, Each.mono hR h.2⟩
theorem Each.append {α β : Type} {R : α → β → Prop} : ∀ {l l' : List α} {m m' : List β}, Each R l m → Each R l' m' → Each R (l ++ l') (m ++ m')
  | [], _, [], _, _, h' => h'
  | a :: l, _, b :: m, _, h, h' => ⟨h.1, Each.append h.2 h'⟩
theorem Each.of_get {α β : Type} {R : α → β → Prop} : ∀ {l : List α} {m : List β}, l.length = m.length → (∀ (i : Nat) (a : α) (b : β), l[i]? = some a → m[i]? = some b → R a b) → Each R l m
  | [], [], _, _ => trivial
  | a :: l, b :: m, hl, h => ⟨h 0 a b rfl rfl, Each.of_get (by simpa using hl) fun i x y hx hy => h (i + 1) x y (by simpa using hx) (by simpa using hy)⟩
theorem Each.take {α β : Type} {R : α → β → Prop} : ∀ {l : List α} {m : List β} (n : Nat), Each R l m → Each R (l.take n) (m.take n)
  | [], [], n, _ => by simp [Each]
  | a :: l, b :: m, 0, h => trivial
  | a :: l, b :: m, n + 1, h => ⟨h.1, Each.take n h.2⟩
theorem Each.drop {α β : Type} {R : α → β → Prop} : ∀ {l : List α} {m : List β} (n : Nat), Each R l m → Each R (l.drop n) (m.drop n)
  | [], [], n, _ => by simp [Each]
  | a :: l, b :: m, 0, h => h
  | a :: l, b :: m, n + 1, h => Each.drop n h.2

theorem flat_get {α : Type} {size : Nat} : ∀ {css : List (List α)} (_ : ∀ cs ∈ css, cs.length = size) (i : Nat) (cs : List α) (j : Nat), css[i]? = some cs → j < size → css.flatten[i * size + j]? = cs[j]?
  | [], _, i, cs, j, h, _ => by simp at h
  | c :: css, hs, 0, cs, j, h, hj => by
    simp at h; subst h
    rw [List.flatten_cons, Nat.zero_mul, Nat.zero_add, List.getElem?_append_left (by rw [hs c List.mem_cons_self]; exact hj)]
  | c :: css, hs, i + 1, cs, j, h, hj => by
    have hc := hs c List.mem_cons_self
    rw [List.flatten_cons, List.getElem?_append_right (by rw [hc, Nat.add_mul]; omega), hc, show (i + 1) * size + j - size = i * size + j by rw [Nat.add_mul]; omega]
    exact flat_get (fun x hx => hs x (List.mem_cons_of_mem _ hx)) i cs j (by simpa using h) hj
theorem flat_len {α : Type} {size : Nat} : ∀ {css : List (List α)} (_ : ∀ cs ∈ css, cs.length = size), css.flatten.length = css.length * size
  | [], _ => by simp
  | c :: css, hs => by
    rw [List.flatten_cons, List.length_append, flat_len (fun x hx => hs x (List.mem_cons_of_mem _ hx)), hs c List.mem_cons_self, List.length_cons, Nat.add_mul]; omega

/-- A slice whose elements, of so many cells each, read as such values. -/
def Arr {α : Type} (R : World → α → List Value → Prop) (size : Nat) (w : World) (v : Value) (xs : List α) : Prop :=
  ∃ (oa : Option Addr) (c : Nat) (css : List (List Value)), v = .slice oa xs.length c ∧ xs.length ≤ c ∧ Each (fun x cs => R w x cs ∧ cs.length = size) xs css ∧ Src w size (.slice oa xs.length c) xs.length css.flatten

theorem Arr.on {α : Type} {R : World → α → List Value → Prop} {size : Nat} {w w' : World} {v : Value} {xs : List α} (h : Arr R size w v xs) (C : Chg [] w w') (hR : ∀ x cs, R w x cs → R w' x cs) : Arr R size w' v xs := by
  obtain ⟨oa, c, css, h1, h2, h3, h4⟩ := h
  exact ⟨oa, c, css, h1, h2, h3.mono (fun x cs hx => ⟨hR _ _ hx.1, hx.2⟩), h4.on C⟩

theorem Each.sizes {α : Type} {R : α → List Value → Prop} {size : Nat} {xs : List α} {css : List (List Value)} (h : Each (fun x cs => R x cs ∧ cs.length = size) xs css) : ∀ cs ∈ css, cs.length = size := by
  intro cs hc
  obtain ⟨i, hi⟩ := List.getElem?_of_mem hc
  have hlt := (List.getElem?_eq_some_iff.1 hi).1
  have hl := h.length
  obtain ⟨b, hb, _, hb2⟩ := h.get i xs[i] (List.getElem?_eq_getElem (by omega))
  rw [hi] at hb
  cases hb
  exact hb2

theorem add_add (a : Addr) (i j : Nat) : (a.add i).add j = a.add (i + j) := by
  unfold Addr.add
  by_cases h1 : i = 0
  · subst h1; simp
  · by_cases h2 : j = 0
    · subst h2; simp
    · simp [h1, h2]; omega

/-- The cells of an element. -/
theorem Arr.get {α : Type} {R : World → α → List Value → Prop} {size : Nat} {w : World} {ad : Addr} {n c : Nat} {xs : List α} (h : Arr R size w (.slice (some ad) n c) xs) (k : Nat) (x : α) (hk : xs[k]? = some x) :
    ∃ cs, R w x cs ∧ cs.length = size ∧ ∀ j v, cs[j]? = some v → w.cell? ((ad.add (k * size)).add j) = some v := by
  obtain ⟨oa, c', css, h1, h2, h3, h4⟩ := h
  cases h1
  obtain ⟨cs, hcs, hR, hl⟩ := h3.get k x hk
  refine ⟨cs, hR, hl, fun j v hv => ?_⟩
  rw [add_add]
  have hj := (List.getElem?_eq_some_iff.1 hv).1
  exact h4.2.2.2 _ _ ((flat_get h3.sizes k cs j hcs (by omega)).trans hv)
theorem Arr.shape {α : Type} {R : World → α → List Value → Prop} {size : Nat} {w : World} {v : Value} {xs : List α} (h : Arr R size w v xs) : ∃ oa c, v = .slice oa xs.length c ∧ xs.length ≤ c := by
  obtain ⟨oa, c, css, h1, h2, h3, h4⟩ := h
  exact ⟨oa, c, h1, h2⟩
theorem Arr.some {α : Type} {R : World → α → List Value → Prop} {size : Nat} {w : World} {oa : Option Addr} {n c : Nat} {xs : List α} (h : Arr R size w (.slice oa n c) xs) (hsz : 0 < size) (hn : 0 < xs.length) : ∃ ad, oa = .some ad := by
  obtain ⟨oa', c', css, h1, h2, h3, h4⟩ := h
  cases h1
  cases oa with
  | some ad => exact ⟨ad, rfl⟩
  | none =>
    have h5 := h4.2.2.2
    have h6 := h4.1
    rw [h5] at h6
    have : 0 < xs.length * size := Nat.mul_pos hn hsz
    simp at h6; omega
theorem Arr.nil {α : Type} (R : World → α → List Value → Prop) (size : Nat) (w : World) : Arr R size w (.slice none 0 0) [] := ⟨none, 0, [], rfl, Nat.le_refl _, trivial, Src.nil w size 0⟩

/-- A list that another one ends with. -/
inductive Suf (T : List Res) : List Res → Prop
  | refl : Suf T T
  | cons {p : Res} {l : List Res} : Suf T l → Suf T (p :: l)
theorem Sel.refl : ∀ (l : List Res), Sel l l
  | [] => .nil
  | _ :: l => .cons .head (Sel.refl l)
theorem Sel.weaken {p : Res} {rs l : List Res} (h : Sel rs l) : Sel rs (p :: l) := by
  induction h with
  | nil => exact .nil
  | cons hp _ ih => exact .cons (.tail hp) ih
theorem Suf.sel {T l : List Res} (h : Suf T l) : Sel T l := by
  induction h with
  | refl => exact Sel.refl _
  | cons _ ih => exact ih.weaken
/-- Some things and a list of others, out of a list that ends with those. -/
inductive SelT : List Res → List Res → Prop
  | nil {T l : List Res} (h : Suf T l) : SelT T l
  | cons {r : Res} {rs l l' : List Res} : Pull r l l' → SelT rs l' → SelT (r :: rs) l
theorem SelT.sel {rs l : List Res} (h : SelT rs l) : Sel rs l := by
  induction h with
  | nil h => exact h.sel
  | cons hp _ ih => exact .cons hp ih
theorem St.selT {w0 : World} {bs : List Nat} {w : World} {rs l : List Res} (S : St w0 bs w l) (h : SelT rs l) : St w0 bs w rs := S.sel h.sel

/-- The shape of a row. -/
theorem row_shape {w : World} {e : TypeId} {size n : Nat} {v : Value} {xs : List Value} (hsz : 0 < size) (h : (Res.row e size v n xs).holds w) : ∃ oa c, v = .slice oa n c ∧ n ≤ c ∧ n ≤ maxLen := by
  have h' : w.ownsRow 0 e size v n xs := h
  rcases h'.2 with ⟨rfl, h1⟩ | ⟨g, cap, cur, rfl, _, hg, h1, h2, _⟩
  · subst h1; exact ⟨none, 0, rfl, Nat.le_refl _, by simp [maxLen]⟩
  · exact ⟨_, _, rfl, h1, Nat.le_trans h1 h2⟩
/-- A row of structs, as a slice that is read. -/
theorem row_arr {α : Type} {R : World → α → List Value → Prop} {size : Nat} {w : World} {e : TypeId} {v : Value} {xs : List α} {css : List (List Value)} (hsz : 0 < size) (h : (Res.row e size v xs.length css.flatten).holds w) (he : Each (fun x cs => R w x cs ∧ cs.length = size) xs css)
    (h1 : ∀ cs ∈ css, ∀ u ∈ cs, u.oneCell' = true) : Arr R size w v xs := by
  obtain ⟨oa, c, rfl, hc, _⟩ := row_shape hsz h
  refine ⟨oa, c, css, rfl, hc, he, Src.row h fun u hu => ?_⟩
  obtain ⟨cs, hcs, hu⟩ := List.mem_flatten.1 hu
  exact h1 cs hcs u hu

section
variable {P : Program} {ops : Array Oper} {Q : Exit → Act → World → Prop} {rest : List Oper} {o : Oper} {a : Act} {w w' : World}
/-- A load of a struct that was there ahead of all. -/
theorem wpList_ldAc {w0 : World} {L : List Res} (S : St w0 [] w L) {a' : Act} {ty : TypeId} {x : Operand} {ad : Addr} {n : Nat} {cs : List Value}
    (k : wpList P ops Q rest a' w) (hl : cs.length = n) (hc : ∀ j v, cs[j]? = some v → w0.cell? (ad.add j) = some v)
    (hw : Region.wanted o (yielded ops a.tmps) = true := by rfl) (ho : o.op = .load ty x := by rfl) (hT0 : TAgg P ty n := by infer_instance) (ha : slot a x = some (.pointer (some ad)) := by rfl)
    (hput : Put a o.dst (.agg cs.toArray) a' := by exact put_of (by conv => lhs; simp only [List.set_cons_succ, List.set_cons_zero])) : wpList P ops Q (o :: rest) a w :=
  wpList_run hw (run_ldA ty x ho (eval_slot ha) hl fun j v hv => S.chg.cell (hc j v hv) (by simp)) (hput.is ▸ k)
end
end Go.Vil
