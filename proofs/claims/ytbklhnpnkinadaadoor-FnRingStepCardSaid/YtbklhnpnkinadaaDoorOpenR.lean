/- Package-level variables behind a change that leaves old blocks alone. · Rings and operations of rings that came in. -/
import Derived.LaidMore
import Derived.LaidLaws
import Derived.Stop.LaidErr
import Derived.Below
import Derived.Test.YtbklhnpnkinadaaDoorOpen2
import Derived.Test.YtbklhnpnkinadaaDoorRl
import Derived.Test.YtbklhnpnkinadaaDoorTq
import Derived.Lib.SmallJoins
section
namespace Go.Vil
open Go Go.RowKit Go.ChangeShapes
theorem var_below {P : Program} {W W' : World} {n : String} {cs : Array Value} (h : W.var? P n = some cs) (bel : Below W.heap.size W W') : W'.var? P n = some cs := by
  unfold World.var? at h ⊢
  cases hg : P.globalNamed n with
  | none => simp [hg] at h
  | some g =>
    simp only [hg, Option.bind_some] at h ⊢
    have hlt : g < W.heap.size := by
      rcases Nat.lt_or_ge g W.heap.size with h' | h'
      · exact h'
      · simp [Array.getElem?_eq_none h'] at h
    rw [bel.block g hlt]
    exact h
end Go.Vil
end
section
namespace Go.Proofs.YtbklhnpnkinadaaDoor
open Go Go.RowKit Go.ChangeShapes Go.WideShapes Go.ChangeAt Go.Deep Go.Vil
set_option linter.unusedVariables false
set_option linter.unusedSimpArgs false
set_option maxRecDepth 100000

instance : Inhabited Ri.ROp := ⟨⟨0, [], 0, 0⟩⟩
theorem rop_of {H : Type} {enc : TypeId × Value → H} {w : World} {base : Nat} {spare : Nat → Bool} {held : Bool} {fuel : Nat} {cs : List Value} {x : DataW H × List MemPlace} (hl : cs.length = 4)
    (hx : DataW.trod enc Tryd.prog w base spare held fuel 26 cs = some x) : ∃ op, ROpV w op cs := by
  have c3 : Tryd.prog.cellsOf 3 = 1 := by kernel_rfl
  have c26 : Tryd.prog.cellsOf 22 = 1 := by kernel_rfl
  match cs, hl with
  | [c0, c1, c2, c3'], _ =>
    obtain ⟨y0, y1, y2, y3, n, rfl, _, t0, t1, t2, t3⟩ := Go.Joins.trod_struct4 Tryd.underlying26 hx
    simp only [c3, c26, List.drop, List.take] at t0 t1 t2 t3
    obtain ⟨k, hk, _, _⟩ := DataW.trod_int Tryd.underlying3 t0
    obtain ⟨i, hi, _, _⟩ := DataW.trod_int Tryd.underlying3 t2
    obtain ⟨j, hj, _, _⟩ := DataW.trod_int Tryd.underlying3 t3
    obtain ⟨m, l, h1, h2, a, c, h3, h4, h5⟩ := open_bytesC Tryd.underlying22 Tryd.underlying5 (by kernel_rfl) t1
    simp only [List.cons.injEq, and_true] at hk hi hj
    subst hk hi hj h3
    exact ⟨⟨k, l, i, j⟩, a, m, c, rfl, h1, h5⟩
/-- A script of operations that came in. -/
theorem open_rops {H : Type} {enc : TypeId × Value → H} {w : World} {base base' : Nat} {spare : Nat → Bool} {held : Bool} {r : Reach} {v : Value} {d : DataW H} {ps : List MemPlace}
    (hval : Value.okWide Tryd.prog w r base' 49 v) (hd : DataW.Trod enc Tryd.prog w base spare held 49 v d ps) : ∃ ops : List Ri.ROp, Arr ROpV 4 w v ops :=
  open_arr Tryd.underlying49 (e := 26) (by kernel_rfl) (by decide) (fun _ _ _ hl hx => rop_of hl hx) (fun _ _ h => ROpV.one h) hval hd
/-- What the two listed variables hold. -/
theorem errs_of {W : World} {t0 t1 : TypeId} {x0 x1 : Addr} (h1 : W.cell? ⟨1, 0, none⟩ = some (.iface t1 (.pointer (some x1)))) (h0 : W.cell? ⟨0, 0, none⟩ = some (.iface t0 (.pointer (some x0)))) :
    Errs W [] (.iface t0 (.pointer (some x0))) (.iface t1 (.pointer (some x1))) := ⟨⟨h0, by simp⟩, ⟨h1, by simp⟩, ⟨_, _, rfl⟩, ⟨_, _, rfl⟩⟩
end Go.Proofs.YtbklhnpnkinadaaDoor
end
