/- A slice of bytes turned to its own type: the run-time's mark goes onto its row. -/
import Derived.Test.YtkfkcinkkgdebaaArr
namespace Go.Vil
open Go Go.RowKit
set_option linter.unusedSimpArgs false
set_option linter.unusedVariables false
section
variable {P : Program} {ops : Array Oper} {Q : Exit → Act → World → Prop} {rest : List Oper} {o : Oper} {a : Act} {w w' : World}
theorem freeze_new {w : World} {b k : Nat} {C : Array Value} {T : TypeId} (h : w.heap[b]? = some (.cells C T (0, 0))) : (w.freeze ⟨b, k, none⟩ 1).heap[b]? = some (.cells C T (k, k + 1)) := by
  unfold World.freeze
  rw [if_neg (by decide)]
  simp only [Array.getElem?_modify, h]
  simp
theorem Chg.freeze (w : World) (b k : Nat) : Chg [b] w (w.freeze ⟨b, k, none⟩ 1) := by
  unfold World.freeze
  rw [if_neg (by decide)]
  refine ⟨rfl, rfl, rfl, by simp, fun j hj hn => ?_⟩
  have : b ≠ j := fun h => hn (by simp [h])
  simp only [Array.getElem?_modify, if_neg this]
theorem wpList_idB {w0 : World} {bs : List Nat} {L L' : List Res} (S : St w0 bs w L) {t e : TypeId} {x : Operand} {b m c : Nat} {cs : List Value} {T : TypeId} {a' : Act}
    (k : ∀ w', St w0 bs w' L' → wpList P ops Q rest a' w')
    (hw : Region.wanted o (yielded ops a.tmps) = true := by rfl) (ho : o.op = .convert t t x := by rfl) (h1 : TSlice P t e := by infer_instance) (h2 : TU8 P e := by infer_instance)
    (hx : slot a x = some (.slice (some ⟨b, 0, none⟩) m c) := by rfl)
    (hA : At (.blk b (.cells cs.toArray T (0, 0))) (.blk b (.cells cs.toArray T (cs.length, cs.length + 1))) L L' := by repeat (first | exact At.head | apply At.tail))
    (hput : Put a o.dst (.slice (some ⟨b, 0, none⟩) m c) a' := by exact put_of (by conv => lhs; simp only [List.set_cons_succ, List.set_cons_zero])) : wpList P ops Q (o :: rest) a w := by
  have hb : w.heap[b]? = some (.cells cs.toArray T (0, 0)) := S.mem.2 _ hA.mem
  have hsh : w.shape? b = some (T, cs.length) := by unfold World.shape?; rw [hb]; simp
  refine wpList_run hw (w' := w.freeze ⟨b, cs.length, none⟩ 1) (v := .slice (some ⟨b, 0, none⟩) m c) ?_ (by rw [hput.is]; exact k _ (S.set hA (Chg.freeze w b _) (freeze_new hb) (by simp [Res.foot])))
  simp [execOp, ho, eval_slot hx, convert, run_underlying h1.is, run_underlying h2.is, markStringish, hsh]
end
end Go.Vil
