/- Functions that defer a closure that recovers, where nothing panics; results that live in variables. -/
import Derived.Test.YtikjncdomgkcjaaDoorOps
import Derived.Defers
import Derived.Recover
namespace Go.Vil
open Go Go.RowKit
set_option linter.unusedSimpArgs false
set_option linter.unusedVariables false

theorem toList_loop (a : ByteArray) : ∀ (m i : Nat) (r : List UInt8), a.size - i = m → ByteArray.toList.loop a i r = r.reverse ++ a.data.toList.drop i := by
  intro m
  induction m with
  | zero =>
    intro i r h
    unfold ByteArray.toList.loop
    rw [if_neg (by omega), List.drop_eq_nil_of_le (by simp; omega)]; simp
  | succ m ih =>
    intro i r h
    have hi : i < a.size := by omega
    unfold ByteArray.toList.loop
    rw [if_pos hi, ih (i + 1) _ (by omega)]
    have hi' : i < a.data.toList.length := by simpa using hi
    rw [List.drop_eq_getElem_cons hi']
    have : a.get! i = a.data.toList[i] := by
      simp [ByteArray.get!, Array.getElem_toList]
      rw [getElem!_pos a.data i (by simpa using hi)]
    rw [this]; simp
theorem toList_data (a : ByteArray) : a.toList = a.data.toList := by
  have := toList_loop a _ 0 [] rfl
  simpa [ByteArray.toList] using this

/-- The closure that is deferred does nothing where nothing panics. -/
def Idle (P : Program) (G : FuncId) (cap : Array Value) : Prop := ∀ w, CallsD P G cap .returning w fun e u' w' => e = .returned (.tuple #[]) ∧ u' = .returning ∧ w' = w

theorem door_idle {P : Program} {fn : Func} {tmps : Array Value} {R : Ending → World → Prop} {G : FuncId} {cap : Array Value} {w : World} (hi : Idle P G cap) (hinv : (invoke (.fn (.func G) cap) #[]).run P w = .ok (.enter G cap) w) (v : Value) (hr : (results fn tmps).run P w = .ok v w) (hR : R (.returned v) w) :
    bodyPostD P fn R Exit.ret ⟨tmps, [{ target := .fn (.func G) cap, args := #[] }]⟩ w := by
  refine leaves_cons (by simp) hinv ?_
  refine (hi w).mono ?_
  rintro e u' w'' ⟨rfl, rfl, rfl⟩
  exact ⟨v, hr, hR⟩

theorem results_cells2 {P : Program} {fn : Func} {tmps : Array Value} {w : World} {i j : Nat} {t u : TypeId} [h1 : TOne P t] [h2 : TOne P u] {a b : Addr} {x y : Value} (h : fn.results = #[.cell i t, .cell j u]) (hi : tmps.toList[i]? = some (.pointer (some a))) (hj : tmps.toList[j]? = some (.pointer (some b)))
    (ha : w.cell? a = some x) (hb : w.cell? b = some y) : (results fn tmps).run P w = .ok (.tuple #[x, y]) w := by
  simp only [Array.getElem?_toList] at hi hj
  simp [results, h, hi, hj, asAddr, loadVar, h1.agg, h2.agg, ha, hb]
theorem St.cell {w0 : World} {bs : List Nat} {w : World} {L F : List Res} (S : St w0 bs w L) {b i : Nat} {c : List Value} {T : TypeId} {fr : Nat × Nat} {v : Value} (hp : Pull (.blk b (.cells c.toArray T fr)) L F := by repeat (first | exact Pull.head | apply Pull.tail)) (hi : c[i]? = some v := by rfl) : w.cell? ⟨b, i, none⟩ = some v :=
  (cell_at (S.blk hp)).trans (by simpa using hi)
/-- The door of a function that defers a closure, with two results that live in variables. -/
theorem door2 {P : Program} {fn : Func} {l : List Value} {R : Ending → World → Prop} {G : FuncId} {cap : Array Value} {w w0 : World} {bs : List Nat} {L F F' : List Res} (S : St w0 bs w L) (hi : Idle P G cap) {i j p q : Nat} {t u T U : TypeId} {x y : Value}
    (hR : R (.returned (.tuple #[x, y])) w) (hinv : (invoke (.fn (.func G) cap) #[]).run P w = .ok (.enter G cap) w := by simp [go_sem])
    (h : fn.results = #[.cell i t, .cell j u] := by rfl) (h1 : TOne P t := by infer_instance) (h2 : TOne P u := by infer_instance)
    (hti : l[i]? = some (.pointer (some ⟨p, 0, none⟩)) := by rfl) (htj : l[j]? = some (.pointer (some ⟨q, 0, none⟩)) := by rfl)
    (hp : Pull (.blk p (.cells [x].toArray T (0, 0))) L F := by repeat (first | exact Pull.head | apply Pull.tail)) (hq : Pull (.blk q (.cells [y].toArray U (0, 0))) L F' := by repeat (first | exact Pull.head | apply Pull.tail)) :
    bodyPostD P fn R Exit.ret ⟨l.toArray, [{ target := .fn (.func G) cap, args := #[] }]⟩ w :=
  door_idle hi hinv _ (results_cells2 h (by simpa using hti) (by simpa using htj) ((cell_at (S.blk hp)).trans rfl) ((cell_at (S.blk hq)).trans rfl)) hR
end Go.Vil
