/- What came in: slices of structs, as the calculus of memory has them. -/
import Derived.Test.YtikjncdomgkcjaaDoorOpen
import Derived.Test.YtikjncdomgkcjaaDoorArr
import Derived.Deep.Slices
import Derived.Deep.Strs
namespace Go.Vil
open Go Go.RowKit Go.ChangeShapes Go.WideShapes Go.ChangeAt Go.Deep
set_option linter.unusedVariables false

section
variable {H : Type} {enc : TypeId × Value → H} {P : Program} {w : World} {base : Nat} {spare : Nat → Bool} {held : Bool}
/-- Bytes in a cell that came in. -/
theorem open_bytesC {t e : TypeId} {fuel : Nat} {v : Value} {x : DataW H × List MemPlace} (ht : P.underlying t = some (.slice e)) (he : P.underlying e = some (.int .u8)) (hc : P.cellsOf e = 1) (hf : DataW.trod enc P w base spare held fuel t [v] = some x) :
    ∃ (n : Nat) (l : List UInt8), Src w 1 v n (u8s l) ∧ l.length = n ∧ (∃ a c, v = .slice a n c ∧ n ≤ maxLen ∧ n ≤ c) := by
  rcases open_ints ht he hc hf with ⟨hcs, hx⟩ | ⟨a, len', cap', zs, hcs, _, hl, hm, hz, hx, hcell, hwz⟩
  · simp only [List.cons.injEq, and_true] at hcs
    subst hcs
    exact ⟨0, [], Src.nil w 1 0, rfl, none, 0, rfl, by simp [maxLen], Nat.le_refl _⟩
  · simp only [List.cons.injEq, and_true] at hcs
    subst hcs
    have hlen : len' ≤ zs.length := by rw [hz]; split <;> omega
    refine ⟨len', (zs.take len').map fun z => UInt8.ofNat z.toNat, ?_, by simp; omega, some a, cap', rfl, Nat.le_trans hl hm, hl⟩
    refine Src.cells (by simp; omega) (u8s_one _) fun j u hu => ?_
    rw [u8s_get?, List.getElem?_map, List.getElem?_take] at hu
    split at hu
    · rename_i hj
      have hjz : j < zs.length := by omega
      have hw := hwz zs[j] (List.getElem_mem hjz)
      rw [List.getElem?_eq_getElem hjz] at hu
      simp only [Option.map_some, Option.some.injEq] at hu
      subst hu
      rw [hcell j hjz]
      simp only [List.getD, List.getElem?_eq_getElem hjz, Option.getD_some, Option.some.injEq, Value.int.injEq, true_and]
      rw [UInt8.toNat_ofNat']
      simp [Lit.wf, IntKind.min, IntKind.max, IntKind.signed, IntKind.bits] at hw
      omega
    · simp at hu

theorem each_of_index {α β : Type} {R : α → β → Prop} : ∀ (n : Nat) (f : Nat → α) (g : Nat → β), (∀ i, i < n → R (f i) (g i)) → Each R ((List.range n).map f) ((List.range n).map g) := by
  intro n f g h
  refine Each.of_get (by simp) fun i a b h1 h2 => ?_
  rw [List.getElem?_map] at h1 h2
  by_cases hi : i < n
  · rw [List.getElem?_range hi] at h1 h2
    simp only [Option.map_some, Option.some.injEq] at h1 h2
    subst h1 h2
    exact h i hi
  · rw [List.getElem?_eq_none (by simpa using hi)] at h1
    cases h1

/-- A slice of elements that are opened each by itself. -/
theorem open_arr {α : Type} [Inhabited α] {R : World → α → List Value → Prop} {size : Nat} {base' : Nat} {r : Reach} {t e : TypeId} {v : Value} {d : DataW H} {ps : List MemPlace} (ht : P.underlying t = some (.slice e)) (hc : P.cellsOf e = size) (hsz : 0 < size)
    (hel : ∀ (fuel : Nat) (cs : List Value) (x : DataW H × List MemPlace), cs.length = size → DataW.trod enc P w base spare held fuel e cs = some x → ∃ a, R w a cs)
    (hone : ∀ a cs, R w a cs → ∀ u ∈ cs, u.oneCell' = true)
    (hval : Value.okWide P w r base' t v) (hd : DataW.Trod enc P w base spare held t v d ps) : ∃ xs : List α, Arr R size w v xs := by
  obtain ⟨a0, len, cap, rfl⟩ := okWide_slice ht hval
  obtain ⟨fuel, hf⟩ := hd
  rcases open_slice ht hf with ⟨hcs, hx⟩ | ⟨a, len', cap', m, n, D, Pl, hcs, hb, hl, hm, hmm, hx, hall⟩
  · simp [Value.cells] at hcs
    obtain ⟨rfl, rfl, rfl⟩ := hcs
    exact ⟨[], Arr.nil R size w⟩
  · simp [Value.cells] at hcs
    obtain ⟨rfl, rfl, rfl⟩ := hcs
    have hlm : len ≤ m := by rw [hmm]; split <;> omega
    obtain ⟨g, hg⟩ := choose_lt (α := List Value) (n := len) (p := fun i cs => cs.length = size ∧ (∀ j, j < size → w.cell? ((a.add (i * size)).add j) = cs[j]?) ∧ ∃ x, R w x cs) (fun i hi => by
      obtain ⟨cs', h1, h2⟩ := hall i (by omega)
      rw [hc] at h1
      obtain ⟨_, h3, h4⟩ := World.cells?_some h1
      exact ⟨cs', h3, h4, hel n cs' _ h3 h2⟩)
    obtain ⟨f, hff⟩ := choose_lt (α := α) (n := len) (p := fun i x => R w x (g i)) (fun i hi => (hg i hi).2.2)
    have hlen : ((List.range len).map f).length = len := by simp
    have hsizes : ∀ cs ∈ (List.range len).map g, cs.length = size := by
      intro cs hcs
      obtain ⟨i, hi, rfl⟩ := List.mem_map.1 hcs
      exact (hg i (List.mem_range.1 hi)).1
    have hflat : ((List.range len).map g).flatten.length = len * size := by rw [flat_len hsizes]; simp
    refine ⟨(List.range len).map f, some a, cap, (List.range len).map g, by rw [hlen], by rw [hlen]; exact hl, each_of_index len f g fun i hi => ⟨hff i hi, (hg i hi).1⟩, ?_⟩
    rw [hlen]
    refine Src.cells hflat (fun u hu => ?_) fun j u hu => ?_
    · obtain ⟨cs, hcs, hu⟩ := List.mem_flatten.1 hu
      obtain ⟨i, hi, rfl⟩ := List.mem_map.1 hcs
      exact hone _ _ (hff i (List.mem_range.1 hi)) u hu
    · have hj := (List.getElem?_eq_some_iff.1 hu).1
      rw [hflat] at hj
      have hq : j / size < len := (Nat.div_lt_iff_lt_mul hsz).2 hj
      have hr : j % size < size := Nat.mod_lt _ hsz
      have hjj : j / size * size + j % size = j := by rw [Nat.mul_comm]; exact Nat.div_add_mod j size
      have hget : ((List.range len).map g)[j / size]? = some (g (j / size)) := by rw [List.getElem?_map, List.getElem?_range hq]; rfl
      have h5 := flat_get hsizes (j / size) _ (j % size) hget hr
      rw [hjj, hu] at h5
      have h6 := (hg (j / size) hq).2.1 (j % size) hr
      rw [Go.Deep.add_add, hjj] at h6
      rw [h6, ← h5]
end
end Go.Vil
