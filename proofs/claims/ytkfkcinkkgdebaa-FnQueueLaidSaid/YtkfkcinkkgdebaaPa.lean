/- The reference's list as it lies among my things. -/
import Derived.Test.YtkfkcinkkgdebaaSc
namespace Go.Proofs.Ytkfkcinkkgdebaa
open Go Go.RowKit Go.Vil
set_option linter.unusedSimpArgs false
set_option linter.unusedVariables false
set_option maxRecDepth 100000

/-- The cells of entries: each with a slice that reads as its bytes in the world of what came in. -/
def Ents (w : World) (ents : List (Nat × List UInt8)) (css : List (List Value)) : Prop := Each (fun e cs => EntV w e cs ∧ cs.length = 2) ents css
theorem Ents.on {w w' : World} {ents : List (Nat × List UInt8)} {css : List (List Value)} (h : Ents w ents css) (C : Chg [] w w') : Ents w' ents css := Each.mono (fun e cs hx => ⟨hx.1.on C, hx.2⟩) h
theorem EntV.oneC {w : World} {e : Nat × List UInt8} {cs : List Value} (h : EntV w e cs) : ∀ u ∈ cs, u.oneCell' = true := by
  obtain ⟨oa, c, rfl, _⟩ := h
  intro u hu
  simp at hu
  rcases hu with rfl | rfl <;> rfl
theorem Ents.one {w : World} {ents : List (Nat × List UInt8)} {css : List (List Value)} (h : Ents w ents css) : ∀ u ∈ css.flatten, u.oneCell' = true := by
  intro u hu
  obtain ⟨cs, hcs, hu⟩ := List.mem_flatten.1 hu
  obtain ⟨i, hi⟩ := List.getElem?_of_mem hcs
  have hlt := (List.getElem?_eq_some_iff.1 hi).1
  have hl := h.length
  obtain ⟨b, hb, hb2, _⟩ := h.get i _ (List.getElem?_eq_getElem (show i < ents.length by omega))
  rw [hi] at hb
  cases hb
  exact hb2.oneC u hu
/-- The list's own cells. -/
def listCells (ev : Value) (s : SL) : List Value := [ev, .int .i64 s.cap, .int .i64 s.most, .bool s.lost, .bool s.ended]
theorem listAt_of {w0 w : World} {bs : List Nat} {L F F' : List Res} (S : St w0 bs w L) {l : Nat} {T e : TypeId} {ev : Value} {s : SL} {css : List (List Value)} (hE : Ents w s.ents css)
    (hp : Pull (.blk l (.cells (listCells ev s).toArray T (0, 0))) L F) (hq : Pull (.orow e 2 ev s.ents.length css.flatten) L F') : ListAt w l s := by
  have hc : ∀ (i : Nat) (v : Value), (listCells ev s)[i]? = some v → w.cell? ⟨l, i, none⟩ = some v := fun i v h => S.cell hp h
  obtain ⟨oa, c, rfl, hle⟩ := S.orowShape hq
  refine ⟨⟨_, hc 0 _ rfl, ⟨oa, c, css, rfl, hle, hE, S.orowSrc hq hE.one⟩⟩, hc 1 _ rfl, hc 2 _ rfl, hc 3 _ rfl, hc 4 _ rfl⟩
end Go.Proofs.Ytkfkcinkkgdebaa
