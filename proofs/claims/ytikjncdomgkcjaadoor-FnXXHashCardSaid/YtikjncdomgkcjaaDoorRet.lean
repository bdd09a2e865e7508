/- Results that lie in memory: structs and arrays. -/
import Derived.Test.YtikjncdomgkcjaaDoorSlc
import Derived.Test.YtikjncdomgkcjaaDoorDoor
namespace Go.Vil
open Go Go.RowKit
set_option linter.unusedSimpArgs false
set_option linter.unusedVariables false

theorem run_loadVarA {P : Program} {w w0 : World} {bs : List Nat} {L F : List Res} (S : St w0 bs w L) {t : TypeId} {n : Nat} [h : TAgg P t n] {b : Nat} {c : List Value} {T : TypeId} {fr : Nat × Nat} (hp : Pull (.blk b (.cells c.toArray T fr)) L F) (hn : c.length = n) :
    (loadVar t ⟨b, 0, none⟩).run P w = .ok (.agg c.toArray) w := by
  have := run_loadCells_list (P := P) w ⟨b, 0, none⟩ c (fun j v hv => by
    rw [Addr.add_lit, cell_at (S.blk hp)]
    simpa using hv)
  rw [hn] at this
  simp [loadVar, h.agg, h.size, this]

theorem results_c {P : Program} {fn : Func} {l : List Value} {w w0 : World} {bs : List Nat} {L F : List Res} (S : St w0 bs w L) {i b : Nat} {t T : TypeId} {n : Nat} {c : List Value} (h : fn.results = #[.cell i t] := by rfl) (h1 : TAgg P t n := by infer_instance)
    (hi : l[i]? = some (.pointer (some ⟨b, 0, none⟩)) := by rfl) (hp : Pull (.blk b (.cells c.toArray T (0, 0))) L F := by repeat (first | exact Pull.head | apply Pull.tail)) (hn : c.length = n := by rfl) :
    (results fn l.toArray).run P w = .ok (.agg c.toArray) w := by
  have hl := run_loadVarA (P := P) (t := t) S hp hn
  simp [results, h, hi, asAddr, hl]
theorem results_cc {P : Program} {fn : Func} {l : List Value} {w w0 : World} {bs : List Nat} {L F F' : List Res} (S : St w0 bs w L) {i j b b' : Nat} {t T t' T' : TypeId} {n n' : Nat} {c c' : List Value} (h : fn.results = #[.cell i t, .cell j t'] := by rfl) (h1 : TAgg P t n := by infer_instance) (h2 : TAgg P t' n' := by infer_instance)
    (hi : l[i]? = some (.pointer (some ⟨b, 0, none⟩)) := by rfl) (hj : l[j]? = some (.pointer (some ⟨b', 0, none⟩)) := by rfl) (hp : Pull (.blk b (.cells c.toArray T (0, 0))) L F := by repeat (first | exact Pull.head | apply Pull.tail)) (hp' : Pull (.blk b' (.cells c'.toArray T' (0, 0))) L F' := by repeat (first | exact Pull.head | apply Pull.tail)) (hn : c.length = n := by rfl) (hn' : c'.length = n' := by rfl) :
    (results fn l.toArray).run P w = .ok (.tuple #[.agg c.toArray, .agg c'.toArray]) w := by
  have hl := run_loadVarA (P := P) (t := t) S hp hn
  have hl' := run_loadVarA (P := P) (t := t') S hp' hn'
  simp [results, h, hi, hj, asAddr, hl, hl']
theorem results_ttc {P : Program} {fn : Func} {l : List Value} {w w0 : World} {bs : List Nat} {L F : List Res} (S : St w0 bs w L) {i j k b : Nat} {t T : TypeId} {n : Nat} {c : List Value} {x y : Value} (h : fn.results = #[.tmp i, .tmp j, .cell k t] := by rfl) (h1 : TAgg P t n := by infer_instance)
    (hi : l[i]? = some x := by rfl) (hj : l[j]? = some y := by rfl) (hk : l[k]? = some (.pointer (some ⟨b, 0, none⟩)) := by rfl) (hp : Pull (.blk b (.cells c.toArray T (0, 0))) L F := by repeat (first | exact Pull.head | apply Pull.tail)) (hn : c.length = n := by rfl) :
    (results fn l.toArray).run P w = .ok (.tuple #[x, y, .agg c.toArray]) w := by
  have hl := run_loadVarA (P := P) (t := t) S hp hn
  simp [results, h, hi, hj, hk, asAddr, hl]
theorem results_ct {P : Program} {fn : Func} {l : List Value} {w w0 : World} {bs : List Nat} {L F : List Res} (S : St w0 bs w L) {i k b : Nat} {t T : TypeId} {n : Nat} {c : List Value} {x : Value} (h : fn.results = #[.cell k t, .tmp i] := by rfl) (h1 : TAgg P t n := by infer_instance)
    (hi : l[i]? = some x := by rfl) (hk : l[k]? = some (.pointer (some ⟨b, 0, none⟩)) := by rfl) (hp : Pull (.blk b (.cells c.toArray T (0, 0))) L F := by repeat (first | exact Pull.head | apply Pull.tail)) (hn : c.length = n := by rfl) :
    (results fn l.toArray).run P w = .ok (.tuple #[.agg c.toArray, x]) w := by
  have hl := run_loadVarA (P := P) (t := t) S hp hn
  simp [results, h, hi, hk, asAddr, hl]
theorem results_tttt {P : Program} {fn : Func} {l : List Value} {w : World} {i j k m : Nat} {x y z u : Value} (h : fn.results = #[.tmp i, .tmp j, .tmp k, .tmp m] := by rfl)
    (hi : l[i]? = some x := by rfl) (hj : l[j]? = some y := by rfl) (hk : l[k]? = some z := by rfl) (hm : l[m]? = some u := by rfl) :
    (results fn l.toArray).run P w = .ok (.tuple #[x, y, z, u]) w := by
  simp [results, h, hi, hj, hk, hm]
/-- The end of a function whose results are reckoned like this. -/
theorem ret_of {P : Program} {fn : Func} {l : List Value} {w : World} {R : Ending → World → Prop} {v : Value} (hr : (results fn l.toArray).run P w = .ok v w) (h : R (.returned v) w) : bodyPost P fn R Exit.ret ⟨l.toArray, []⟩ w :=
  bodyPost_ret hr rfl h
/-- The door of a function that defers a closure that recovers, where nothing panics. -/
theorem door_of {P : Program} {fn : Func} {l : List Value} {w : World} {R : Ending → World → Prop} {v : Value} {G : FuncId} {cap : Array Value} (hr : (results fn l.toArray).run P w = .ok v w) (hi : Idle P G cap) (h : R (.returned v) w)
    (hinv : (invoke (.fn (.func G) cap) #[]).run P w = .ok (.enter G cap) w := by simp [go_sem]) : bodyPostD P fn R Exit.ret ⟨l.toArray, [{ target := .fn (.func G) cap, args := #[] }]⟩ w :=
  door_idle hi hinv v hr h
section
variable {P : Program} {ops : Array Oper} {Q : Exit → Act → World → Prop} {rest : List Oper} {o : Oper} {a : Act} {w w' : World}
/-- append(nil, y...), of bytes. -/
theorem wpList_appN {w0 : World} {bs : List Nat} {L : List Res} (S : St w0 bs w L) {sv : Value} {m : Nat} {news : List UInt8} (hs : Src w 1 sv m (u8s news)) {a' : Value → Act} {x y : Operand} {t tx e : TypeId} {z : Value} {bytes : Nat}
    (k : ∀ v' w', (v' = .slice none 0 0 ↔ m = 0) → St w0 bs w' (.row e 1 v' m (u8s news) :: L) → wpList P ops Q rest (a' v') w')
    (hw : Region.wanted o (yielded ops a.tmps) = true := by rfl) (ho : o.op = .call { callee := .builtin .append, args := #[x, y], argTypes := #[t, tx] } := by rfl)
    (ht : TSlice P t e := by infer_instance) (htx : TRow P tx := by infer_instance) (he : TElem P e z 1 bytes := by infer_instance)
    (hx : slot a x = some (.slice none 0 0) := by rfl) (hy : slot a y = some sv := by rfl)
    (h63 : m ≤ maxLen := by (unfold maxLen; first | omega | (simp; omega))) (hb : m * bytes ≤ 140737488355328 := by first | omega | (simp; omega))
    (hput : ∀ v', Put a o.dst v' (a' v') := by (intro _; exact put_of (by conv => lhs; simp only [List.set_cons_succ, List.set_cons_zero]))) : wpList P ops Q (o :: rest) a w :=
  wpList_app (n := 0) (xs := []) (S.nilRow e 1) hs (fun v' w' h S' => k v' w' (by simpa using h) (by rwa [Nat.zero_add, List.nil_append] at S')) hw ho ht htx he hx hy .head (by decide) (by rwa [Nat.zero_add]) (by rwa [Nat.zero_add]) hput
end
end Go.Vil
