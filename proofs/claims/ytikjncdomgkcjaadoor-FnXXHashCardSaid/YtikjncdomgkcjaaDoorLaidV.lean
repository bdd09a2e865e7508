/- Package-level variables that are listed, and behind a change that leaves old blocks alone. -/
import Derived.LaidMore
import Derived.LaidLaws
import Derived.Stop.LaidErr
import Derived.Below
namespace Go.Vil
open Go Go.RowKit Go.ChangeShapes
theorem var_below {P : Program} {W W' : World} {n : String} {cs : Array Value} (h : W.var? P n = some cs) (bel : Below W.heap.size W W') : W'.var? P n = some cs := by
  unfold World.var? at h ⊢
  cases hg : P.globalNamed n with
  | none => simp [hg] at h
  | some g =>
    simp only [hg, Option.bind_some] at h ⊢
    have hlt : g < W.heap.size := by
      rcases Nat.lt_or_ge g W.heap.size with h' | h'
      · exact h'
      · simp [Array.getElem?_eq_none h'] at h
    rw [bel.block g hlt]
    exact h
theorem trod_u64 {H : Type} {enc : TypeId × Value → H} {P : Program} {w : World} {base : Nat} {sp : Nat → Bool} {held : Bool} {t : TypeId} {k : Int} (ht : P.underlying t = some (.int .u64)) (hk : (Lit.int .u64 k).wf = true) :
    DataW.trod enc P w base sp held 1 t [.int .u64 k] = some (.lit (.int .u64 k), []) := by simp [DataW.trod, ht, hk]
/-- A listed number. -/
theorem laid_u64 {P : Program} {n : String} {k : Int} {r : List (String × DataW Unit)} {W : World} {g : Nat} {ti : TypeId} (h : laidMet P ((n, .lit (.int .u64 k)) :: r) W)
    (hg : P.globalNamed n = some g) (ht : (P.globals[g]?).map (·.type) = some ti) (hi : P.underlying ti = some (.int .u64)) : W.var? P n = some #[.int .u64 k] := by
  obtain ⟨ps, ⟨g0, t0, cs0, f0, p0, q0, hg0, ht0, hv0, hd0, _, e0⟩, _, _⟩ := h
  obtain rfl := Option.some.inj (hg.symm.trans hg0)
  obtain rfl := Option.some.inj (ht.symm.trans ht0)
  obtain ⟨l0⟩ := cs0
  obtain ⟨m, h1, h2, _⟩ := DataW.trod_int hi hd0
  simp only at h1
  subst h1
  simp only [Prod.mk.injEq, DataW.lit.injEq, Lit.int.injEq, true_and] at h2
  obtain ⟨rfl, _⟩ := h2
  exact hv0
end Go.Vil
