/- What came in, as the calculus of memory has it. -/
import Derived.Test.YtikjncdomgkcjaaDoorRows2
import Derived.OpenShut
import Derived.ProofKit
namespace Go.Vil
open Go Go.RowKit Go.ChangeShapes Go.WideShapes Go.ChangeAt

/-- Bytes that came in. -/
theorem open_bytes {H : Type} {enc : TypeId × Value → H} {P : Program} {w : World} {base base' : Nat} {spare : Nat → Bool} {held : Bool} {r : Reach} {t e : TypeId} {v : Value} {d : DataW H} {ps : List MemPlace} (ht : P.underlying t = some (.slice e)) (he : P.underlying e = some (.int .u8)) (hc : P.cellsOf e = 1)
    (hval : Value.okWide P w r base' t v) (hd : DataW.Trod enc P w base spare held t v d ps) :
    ∃ (n : Nat) (l : List UInt8), Src w 1 v n (u8s l) ∧ l.length = n ∧ (∃ a c, v = .slice a n c ∧ n ≤ maxLen ∧ n ≤ c) := by
  obtain ⟨a0, len, cap, rfl⟩ := okWide_slice ht hval
  obtain ⟨fuel, hf⟩ := hd
  rcases open_ints ht he hc hf with ⟨hcs, hx⟩ | ⟨a, len', cap', zs, hcs, _, hl, hm, hz, hx, hcell, hwz⟩
  · simp [Value.cells] at hcs
    obtain ⟨rfl, rfl, rfl⟩ := hcs
    exact ⟨0, [], Src.nil w 1 0, rfl, none, 0, rfl, by simp [maxLen], Nat.le_refl _⟩
  · simp [Value.cells] at hcs
    obtain ⟨rfl, rfl, rfl⟩ := hcs
    have hlen : len ≤ zs.length := by rw [hz]; split <;> omega
    refine ⟨len, (zs.take len).map fun z => UInt8.ofNat z.toNat, ?_, by simp; omega, some a, cap, rfl, Nat.le_trans hl hm, hl⟩
    refine Src.cells (by simp; omega) (u8s_one _) fun j u hu => ?_
    rw [u8s_get?, List.getElem?_map, List.getElem?_take] at hu
    split at hu
    · rename_i hj
      have hjz : j < zs.length := by omega
      have hw := hwz zs[j] (List.getElem_mem hjz)
      rw [List.getElem?_eq_getElem hjz] at hu
      simp only [Option.map_some, Option.some.injEq] at hu
      subst hu
      rw [hcell j hjz]
      simp only [List.getD, List.getElem?_eq_getElem hjz, Option.getD_some, Option.some.injEq, Value.int.injEq, true_and]
      rw [UInt8.toNat_ofNat']
      simp [Lit.wf, IntKind.min, IntKind.max, IntKind.signed, IntKind.bits] at hw
      omega
    · simp at hu
end Go.Vil
