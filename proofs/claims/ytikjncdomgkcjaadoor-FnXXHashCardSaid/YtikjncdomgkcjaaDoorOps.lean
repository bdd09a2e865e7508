/- Laws of single operations over the calculus of memory, over any program. -/
import Derived.Test.YtikjncdomgkcjaaDoorMem
namespace Go.Vil
open Go.RowKit

/-! ### What is asked of types: found by their numbers -/
class TOne (P : Program) (t : TypeId) : Prop where
  agg : ∀ w, (isAgg t).run P w = .ok false w
  size : ∀ w, (sizeOf t).run P w = .ok 1 w
class TAgg (P : Program) (t : TypeId) (n : outParam Nat) : Prop where
  agg : ∀ w, (isAgg t).run P w = .ok true w
  size : ∀ w, (sizeOf t).run P w = .ok n w
class TZero (P : Program) (t : TypeId) (z : outParam Value) : Prop where
  zero : ∀ w, (zeroValue t).run P w = .ok z w
class TSlice (P : Program) (t : TypeId) (e : outParam TypeId) : Prop where
  is : P.underlying t = some (.slice e)
class TElem (P : Program) (e : TypeId) (z : outParam Value) (size bytes : outParam Nat) : Prop where
  is : ∃ i, P.info? e = some i ∧ i.zero = some z ∧ i.size = size ∧ i.bytes = bytes ∧ z.cells.size = size
/-- What can be the source of an append or a copy: a slice or a string. -/
class TRow (P : Program) (t : TypeId) : Prop where
  is : ∃ d, P.underlying t = some d ∧ ∀ k, d ≠ .int k

/-- Bytes as cells. -/
def u8s (l : List UInt8) : List Value := l.map fun c => .int .u8 (c.toNat : Int)
@[simp] theorem length_u8s (l : List UInt8) : (u8s l).length = l.length := by simp [u8s]
theorem u8s_get? (l : List UInt8) (i : Nat) : (u8s l)[i]? = (l[i]?).map fun c => .int .u8 (c.toNat : Int) := by simp [u8s]
theorem u8s_append (a b : List UInt8) : u8s (a ++ b) = u8s a ++ u8s b := by simp [u8s]
theorem u8s_take (a : List UInt8) (n : Nat) : u8s (a.take n) = (u8s a).take n := by simp [u8s, List.map_take]
theorem u8s_drop (a : List UInt8) (n : Nat) : u8s (a.drop n) = (u8s a).drop n := by simp [u8s, List.map_drop]
theorem u8s_one (l : List UInt8) : ∀ u ∈ u8s l, u.oneCell' = true := by
  intro u hu
  obtain ⟨c, _, rfl⟩ := List.mem_map.1 hu
  rfl

section
variable {P : Program} {ops : Array Oper} {Q : Exit → Act → World → Prop} {rest : List Oper} {o : Oper} {a : Act} {w w' : World}

theorem wpList_run {v : Value} (hw : Region.wanted o (yielded ops a.tmps) = true) (h : (execOp a.eval o).run P w = .ok (.value v) w') (k : wpList P ops Q rest (a.put o.dst v) w') : wpList P ops Q (o :: rest) a w := by
  refine wpList_step fun K hK => ?_
  rw [if_pos hw]
  unfold Oper.wp
  rw [h]
  exact hK _ _ k
theorem wpList_run_skip (hw : Region.wanted o (yielded ops a.tmps) = true) (h : (execOp a.eval o).run P w = .ok .skip w') (k : wpList P ops Q rest (a.put o.dst undef) w') : wpList P ops Q (o :: rest) a w := by
  refine wpList_step fun K hK => ?_
  rw [if_pos hw]
  unfold Oper.wp
  rw [h]
  exact hK _ _ k
theorem quiet_run {C : World → Prop} {K : Act → Prop} {v : Value} (h : ∀ w, C w → (execOp a.eval o).run P w = .ok (.value v) w) (hk : K (a.put o.dst v)) : o.quiet P a C K :=
  ⟨v, fun w hw => by unfold Oper.quietAt; rw [h w hw]; exact ⟨rfl, rfl⟩, hk⟩

/-- What an operand is: read off the frame quickly. -/
def slot (a : Act) : Operand → Option Value
  | .tmp n => a.tmps.toList[n]?
  | .const v => some v
  | x => some (a.eval x)
theorem eval_slot {x : Operand} {v : Value} (h : slot a x = some v) : a.eval x = v := by
  cases x with
  | tmp n =>
    simp only [slot, Array.getElem?_toList] at h
    simp [Act.eval, h]
  | const u => exact Option.some.inj h
  | global g => exact Option.some.inj h
  | func g => exact Option.some.inj h
/-- The frame with a slot written, written out. -/
structure Put (a : Act) (d : Option Tmp) (v : Value) (a' : Act) : Prop where
  is : a.put d v = a'
theorem put_of {l l' : List Value} {ds : List Deferred} {d : Nat} {v : Value} (h : l.set d v = l') : Put ⟨l.toArray, ds⟩ (some d) v ⟨l'.toArray, ds⟩ := ⟨by simp [Act.put, h]⟩

/-! ### Loads -/
theorem cell_at {w : World} {b i : Nat} {c : Array Value} {T : TypeId} {fr : Nat × Nat} (h : w.heap[b]? = some (.cells c T fr)) : w.cell? ⟨b, i, none⟩ = c[i]? := by
  simp [World.cell?, h]
theorem frozen_at {w : World} {b i : Nat} {c : Array Value} {T : TypeId} (h : w.heap[b]? = some (.cells c T (0, 0))) : w.frozen? ⟨b, i, none⟩ = false := by
  simp [World.frozen?, h]

theorem run_ld (ty : TypeId) (x : Operand) (ho : o.op = .load ty x) {ad : Addr} (ha : a.eval x = .pointer (some ad)) [h1 : TOne P ty] {v : Value} (hc : w.cell? ad = some v) :
    (execOp a.eval o).run P w = .ok (.value v) w := by
  simp [execOp, ho, ha, Instr.loadAt, Instr.sureAddr, loadVar, h1.agg, hc]
theorem run_ldA (ty : TypeId) (x : Operand) (ho : o.op = .load ty x) {ad : Addr} (ha : a.eval x = .pointer (some ad)) {n : Nat} [h1 : TAgg P ty n] {cs : List Value} (hl : cs.length = n)
    (hc : ∀ j v, cs[j]? = some v → w.cell? (ad.add j) = some v) : (execOp a.eval o).run P w = .ok (.value (.agg cs.toArray)) w := by
  have := run_loadCells_list (P := P) w ad cs hc
  rw [hl] at this
  simp [execOp, ho, ha, Instr.loadAt, Instr.sureAddr, loadVar, h1.agg, h1.size, this]

/-- A load out of a block that is known. -/
theorem wpList_ld {w0 : World} {bs : List Nat} {L F : List Res} (S : St w0 bs w L) {a' : Act} {ty : TypeId} {x : Operand} {b i : Nat} {c : List Value} {T : TypeId} {fr : Nat × Nat} {v : Value}
    (k : wpList P ops Q rest a' w)
    (hw : Region.wanted o (yielded ops a.tmps) = true := by rfl) (ho : o.op = .load ty x := by rfl) (hT0 : TOne P ty := by infer_instance) (ha : slot a x = some (.pointer (some ⟨b, i, none⟩)) := by rfl)
    (hp : Pull (.blk b (.cells c.toArray T fr)) L F := by repeat (first | exact Pull.head | apply Pull.tail)) (hi : c[i]? = some v := by rfl) (hput : Put a o.dst v a' := by exact put_of (by conv => lhs; simp only [List.set_cons_succ, List.set_cons_zero])) : wpList P ops Q (o :: rest) a w :=
  wpList_run hw (run_ld ty x ho (eval_slot ha) ((cell_at (S.blk hp)).trans (by simpa using hi))) (hput.is ▸ k)
theorem quiet_ld {w0 : World} {bs : List Nat} {L F : List Res} (S : St w0 bs w L) {K : Act → Prop} {a' : Act} {ty : TypeId} {x : Operand} {b i : Nat} {c : List Value} {T : TypeId} {fr : Nat × Nat} {v : Value}
    (k : K a')
    (ho : o.op = .load ty x := by rfl) (hT0 : TOne P ty := by infer_instance) (ha : slot a x = some (.pointer (some ⟨b, i, none⟩)) := by rfl)
    (hp : Pull (.blk b (.cells c.toArray T fr)) L F := by repeat (first | exact Pull.head | apply Pull.tail)) (hi : c[i]? = some v := by rfl) (hput : Put a o.dst v a' := by exact put_of (by conv => lhs; simp only [List.set_cons_succ, List.set_cons_zero])) : o.quiet P a (fun w' => ∃ p : StW w w0 bs L, w' = p.w) K :=
  quiet_run (fun _ hS => have S := S.of hS; run_ld ty x ho (eval_slot ha) ((cell_at (S.blk hp)).trans (by simpa using hi))) (hput.is ▸ k)

/-- A load of a struct or an array out of a block that is known. -/
theorem run_ldAblk {w0 : World} {bs : List Nat} {L F : List Res} (S : St w0 bs w L) (ty : TypeId) (x : Operand) (ho : o.op = .load ty x) {b i : Nat} (ha : a.eval x = .pointer (some ⟨b, i, none⟩)) {n : Nat} [TAgg P ty n]
    {c : List Value} {T : TypeId} {fr : Nat × Nat} (hp : Pull (.blk b (.cells c.toArray T fr)) L F) (hi : i + n ≤ c.length) :
    (execOp a.eval o).run P w = .ok (.value (.agg ((c.drop i).take n).toArray)) w := by
  refine run_ldA ty x ho ha (n := n) (by simp; omega) fun j v hv => ?_
  have hj : j < n := by
    have := (List.getElem?_eq_some_iff.1 hv).1
    simp at this; omega
  rw [Addr.add_lit, cell_at (S.blk hp)]
  rw [List.getElem?_take, if_pos hj, List.getElem?_drop] at hv
  simpa using hv
theorem wpList_ldA {w0 : World} {bs : List Nat} {L F : List Res} (S : St w0 bs w L) {a' : Act} {ty : TypeId} {x : Operand} {b i : Nat} {n : Nat} {c : List Value} {T : TypeId} {fr : Nat × Nat}
    (k : wpList P ops Q rest a' w)
    (hw : Region.wanted o (yielded ops a.tmps) = true := by rfl) (ho : o.op = .load ty x := by rfl) (hT0 : TAgg P ty n := by infer_instance) (ha : slot a x = some (.pointer (some ⟨b, i, none⟩)) := by rfl)
    (hp : Pull (.blk b (.cells c.toArray T fr)) L F := by repeat (first | exact Pull.head | apply Pull.tail)) (hi : i + n ≤ c.length := by (first | decide | omega | (simp; done) | (simp; omega))) (hput : Put a o.dst (.agg ((c.drop i).take n).toArray) a' := by exact put_of (by conv => lhs; simp only [List.set_cons_succ, List.set_cons_zero])) : wpList P ops Q (o :: rest) a w :=
  wpList_run hw (run_ldAblk S ty x ho (eval_slot ha) hp hi) (hput.is ▸ k)
theorem quiet_ldA {w0 : World} {bs : List Nat} {L F : List Res} (S : St w0 bs w L) {K : Act → Prop} {a' : Act} {ty : TypeId} {x : Operand} {b i : Nat} {n : Nat} {c : List Value} {T : TypeId} {fr : Nat × Nat}
    (k : K a')
    (ho : o.op = .load ty x := by rfl) (hT0 : TAgg P ty n := by infer_instance) (ha : slot a x = some (.pointer (some ⟨b, i, none⟩)) := by rfl)
    (hp : Pull (.blk b (.cells c.toArray T fr)) L F := by repeat (first | exact Pull.head | apply Pull.tail)) (hi : i + n ≤ c.length := by (first | decide | omega | (simp; done) | (simp; omega))) (hput : Put a o.dst (.agg ((c.drop i).take n).toArray) a' := by exact put_of (by conv => lhs; simp only [List.set_cons_succ, List.set_cons_zero])) : o.quiet P a (fun w' => ∃ p : StW w w0 bs L, w' = p.w) K :=
  quiet_run (fun _ hS => have S := S.of hS; run_ldAblk S ty x ho (eval_slot ha) hp hi) (hput.is ▸ k)

/-- A load of a struct without fields. -/
theorem wpList_ld0 {a' : Act} {ty : TypeId} {x : Operand} {ad : Addr}
    (k : wpList P ops Q rest a' w)
    (hw : Region.wanted o (yielded ops a.tmps) = true := by rfl) (ho : o.op = .load ty x := by rfl) (hT0 : TAgg P ty 0 := by infer_instance) (ha : slot a x = some (.pointer (some ad)) := by rfl) (hput : Put a o.dst (.agg #[]) a' := by exact put_of (by conv => lhs; simp only [List.set_cons_succ, List.set_cons_zero])) : wpList P ops Q (o :: rest) a w :=
  wpList_run hw (run_ldA ty x ho (eval_slot ha) (n := 0) (cs := []) rfl (by simp)) (hput.is ▸ k)
theorem quiet_ld0 {C : World → Prop} {K : Act → Prop} {a' : Act} {ty : TypeId} {x : Operand} {ad : Addr}
    (k : K a')
    (ho : o.op = .load ty x := by rfl) (hT0 : TAgg P ty 0 := by infer_instance) (ha : slot a x = some (.pointer (some ad)) := by rfl) (hput : Put a o.dst (.agg #[]) a' := by exact put_of (by conv => lhs; simp only [List.set_cons_succ, List.set_cons_zero])) : o.quiet P a C K :=
  quiet_run (fun _ _ => run_ldA ty x ho (eval_slot ha) (n := 0) (cs := []) rfl (by simp)) (hput.is ▸ k)

/-- A load of a byte out of a block of bytes. -/
theorem wpList_ld8 {w0 : World} {bs : List Nat} {L F : List Res} (S : St w0 bs w L) {a' : Act} {ty : TypeId} {x : Operand} {b i : Nat} {l : List UInt8} {T : TypeId} {fr : Nat × Nat}
    (k : wpList P ops Q rest a' w)
    (hw : Region.wanted o (yielded ops a.tmps) = true := by rfl) (ho : o.op = .load ty x := by rfl) (hT0 : TOne P ty := by infer_instance) (ha : slot a x = some (.pointer (some ⟨b, i, none⟩)) := by rfl)
    (hp : Pull (.blk b (.cells (u8s l).toArray T fr)) L F := by repeat (first | exact Pull.head | apply Pull.tail)) (hi : i < l.length := by (first | omega | (simp; omega))) (hput : Put a o.dst (.int .u8 ((l.getD i 0).toNat : Int)) a' := by exact put_of (by conv => lhs; simp only [List.set_cons_succ, List.set_cons_zero])) : wpList P ops Q (o :: rest) a w :=
  wpList_run hw (run_ld ty x ho (eval_slot ha) ((cell_at (S.blk hp)).trans (by simp [u8s, hi]))) (hput.is ▸ k)
theorem quiet_ld8 {w0 : World} {bs : List Nat} {L F : List Res} (S : St w0 bs w L) {K : Act → Prop} {a' : Act} {ty : TypeId} {x : Operand} {b i : Nat} {l : List UInt8} {T : TypeId} {fr : Nat × Nat}
    (k : K a')
    (ho : o.op = .load ty x := by rfl) (hT0 : TOne P ty := by infer_instance) (ha : slot a x = some (.pointer (some ⟨b, i, none⟩)) := by rfl)
    (hp : Pull (.blk b (.cells (u8s l).toArray T fr)) L F := by repeat (first | exact Pull.head | apply Pull.tail)) (hi : i < l.length := by (first | omega | (simp; omega))) (hput : Put a o.dst (.int .u8 ((l.getD i 0).toNat : Int)) a' := by exact put_of (by conv => lhs; simp only [List.set_cons_succ, List.set_cons_zero])) : o.quiet P a (fun w' => ∃ p : StW w w0 bs L, w' = p.w) K :=
  quiet_run (fun _ hS => have S := S.of hS; run_ld ty x ho (eval_slot ha) ((cell_at (S.blk hp)).trans (by simp [u8s, hi]))) (hput.is ▸ k)

/-! ### Stores -/
theorem run_st (ty : TypeId) (x y : Operand) (ho : o.op = .store ty x y) {ad : Addr} (ha : a.eval x = .pointer (some ad)) {v : Value} (hv : a.eval y = v) [h1 : TOne P ty] (hv1 : v.oneCell' = true) {u : Value} (hc : w.cell? ad = some u) (hf : w.frozen? ad = false) :
    (execOp a.eval o).run P w = .ok .skip (w.setCell ad v) := by
  have hcs : v.cells = #[v] := by cases v <;> first | rfl | (simp [Value.oneCell'] at hv1)
  simp [execOp, ho, ha, hv, Instr.storeAt, Instr.sureAddr, storeVar, h1.size, hcs, storeCells, Addr.add_zero', run_store P w ad v _ hv1, hc, hf]

theorem heap_set {w : World} {b i : Nat} {c : Array Value} {T : TypeId} {v : Value} (h : w.heap[b]? = some (.cells c T (0, 0))) : (w.setCell ⟨b, i, none⟩ v).heap[b]? = some (.cells (c.setIfInBounds i v) T (0, 0)) := by
  simp only [World.setCell, Array.getElem?_modify, h]
  simp

theorem St.setBlk {w0 : World} {bs : List Nat} {L L' : List Res} (S : St w0 bs w L) {b i : Nat} {c c' : Array Value} {T : TypeId} {v : Value}
    (hA : At (.blk b (.cells c T (0, 0))) (.blk b (.cells c' T (0, 0))) L L') (hc' : c.setIfInBounds i v = c') : St w0 bs (w.setCell ⟨b, i, none⟩ v) L' := by
  have hb : w.heap[b]? = some (.cells c T (0, 0)) := S.mem.2 _ hA.mem
  exact S.set hA (Chg.setCell w ⟨b, i, none⟩ v) (by subst hc'; exact heap_set hb) (by simp [Res.foot])

/-- A store into a block that is known. -/
theorem wpList_st {w0 : World} {bs : List Nat} {L L' : List Res} (S : St w0 bs w L) {ty : TypeId} {x y : Operand} {b i : Nat} {c c' : List Value} {T : TypeId} {v : Value}
    (k : ∀ w', St w0 bs w' L' → wpList P ops Q rest a w')
    (hw : Region.wanted o (yielded ops a.tmps) = true := by rfl) (ho : o.op = .store ty x y := by rfl) (hd : o.dst = none := by rfl) (hT0 : TOne P ty := by infer_instance) (ha : slot a x = some (.pointer (some ⟨b, i, none⟩)) := by rfl) (hv : slot a y = some v := by rfl)
    (hA : At (.blk b (.cells c.toArray T (0, 0))) (.blk b (.cells c'.toArray T (0, 0))) L L' := by repeat (first | exact At.head | apply At.tail))
    (hi : i < c.length := by (first | decide | (simp; done) | omega))
    (hc' : c.set i v = c' := by (conv => lhs; simp only [List.set_cons_succ, List.set_cons_zero]))
    (hv1 : v.oneCell' = true := by rfl) : wpList P ops Q (o :: rest) a w := by
  have hb : w.heap[b]? = some (.cells c.toArray T (0, 0)) := S.mem.2 _ hA.mem
  refine wpList_run_skip hw (run_st ty x y ho (eval_slot ha) (eval_slot hv) hv1 (u := c[i]) (by rw [cell_at hb]; simp [hi]) (frozen_at hb)) (by rw [hd]; exact k _ (S.setBlk hA (by subst hc'; simp)))

/-- A store of a byte into a block of bytes. -/
theorem wpList_st8 {w0 : World} {bs : List Nat} {L L' : List Res} (S : St w0 bs w L) {ty : TypeId} {x y : Operand} {b i : Nat} {l : List UInt8} {T : TypeId} {z : Int}
    (k : ∀ w', St w0 bs w' L' → wpList P ops Q rest a w')
    (hw : Region.wanted o (yielded ops a.tmps) = true := by rfl) (ho : o.op = .store ty x y := by rfl) (hd : o.dst = none := by rfl) (hT0 : TOne P ty := by infer_instance) (ha : slot a x = some (.pointer (some ⟨b, i, none⟩)) := by rfl) (hv : slot a y = some (.int .u8 z) := by rfl)
    (hA : At (.blk b (.cells (u8s l).toArray T (0, 0))) (.blk b (.cells (u8s (l.set i (UInt8.ofNat z.toNat))).toArray T (0, 0))) L L' := by repeat (first | exact At.head | apply At.tail))
    (hi : i < l.length := by (first | omega | (simp; omega)))
    (hz : 0 ≤ z ∧ z < 256 := by first | omega | (simp only [IntKind.wrap_u8]; omega))
    : wpList P ops Q (o :: rest) a w := by
  have hb : w.heap[b]? = some (.cells (u8s l).toArray T (0, 0)) := S.mem.2 _ hA.mem
  have hcc : (u8s l).toArray.setIfInBounds i (.int .u8 z) = (u8s (l.set i (UInt8.ofNat z.toNat))).toArray := by
    have hzz : ((UInt8.ofNat z.toNat).toNat : Int) = z := by rw [UInt8.toNat_ofNat']; omega
    simp only [List.setIfInBounds_toArray]
    congr 1
    simp only [u8s, List.map_set, hzz]
  refine wpList_run_skip hw (run_st ty x y ho (eval_slot ha) (eval_slot hv) rfl (u := .int .u8 ((l.getD i 0).toNat : Int)) (by rw [cell_at hb]; simp [u8s, hi]) (frozen_at hb)) (by rw [hd]; exact k _ (S.setBlk hA hcc))

/-! ### New blocks -/
theorem St.alloc {w0 : World} {bs : List Nat} {L : List Res} (S : St w0 bs w L) (ob : Obj) : St w0 bs (w.alloc ob) (.blk w.heap.size ob :: L) :=
  S.add (Chg.alloc w ob) (heap_alloc_new w ob) (by simp [Res.foot])

theorem wpList_box {w0 : World} {bs : List Nat} {L : List Res} {a' : Nat → Act} (S : St w0 bs w L) {ty : TypeId} {x : Operand} {v : Value} {cs : List Value}
    (k : ∀ n w', w0.heap.size ≤ n → St w0 bs w' (.blk n (.cells cs.toArray ty (0, 0)) :: L) → wpList P ops Q rest (a' n) w')
    (hw : Region.wanted o (yielded ops a.tmps) = true := by rfl) (ho : o.op = .box ty x := by rfl) (hv : slot a x = some v := by rfl) (hc : v.cells = cs.toArray := by rfl) (hput : ∀ n, Put a o.dst (.pointer (some ⟨n, 0, none⟩)) (a' n) := by (intro _; exact put_of (by conv => lhs; simp only [List.set_cons_succ, List.set_cons_zero]))) : wpList P ops Q (o :: rest) a w := by
  refine wpList_run hw (w' := w.alloc (.cells cs.toArray ty)) (v := .pointer (some ⟨w.heap.size, 0, none⟩)) ?_ (by rw [(hput _).is]; exact k _ _ S.chg.size (S.alloc _))
  simp [execOp, ho, Instr.box, newVar, newRow, (eval_slot hv), hc]

theorem wpList_alloc {w0 : World} {bs : List Nat} {L : List Res} {a' : Nat → Act} (S : St w0 bs w L) {ty : TypeId} {z : Value} {cs : List Value}
    (k : ∀ n w', w0.heap.size ≤ n → St w0 bs w' (.blk n (.cells cs.toArray ty (0, 0)) :: L) → wpList P ops Q rest (a' n) w')
    (hw : Region.wanted o (yielded ops a.tmps) = true := by rfl) (ho : o.op = .alloc ty := by rfl) (hz : TZero P ty z := by infer_instance) (hv : z.cells = cs.toArray := by rfl) (hput : ∀ n, Put a o.dst (.pointer (some ⟨n, 0, none⟩)) (a' n) := by (intro _; exact put_of (by conv => lhs; simp only [List.set_cons_succ, List.set_cons_zero]))) : wpList P ops Q (o :: rest) a w := by
  refine wpList_run hw (w' := w.alloc (.cells cs.toArray ty)) (v := .pointer (some ⟨w.heap.size, 0, none⟩)) ?_ (by rw [(hput _).is]; exact k _ _ S.chg.size (S.alloc _))
  simp [execOp, ho, Instr.alloc, newVar, newRow, hz.zero, hv]

/-- make([]T, l, c), each element of one cell. -/
theorem wpList_mk {w0 : World} {bs : List Nat} {L : List Res} (S : St w0 bs w L) {a' : Nat → Act} {ty e : TypeId} {x y : Operand} {z : Value} {bytes : Nat} {kl kc : IntKind} {l c : Int} {ln cn : Nat}
    (k : ∀ n w', w0.heap.size ≤ n → St w0 bs w' (.blk n (.cells (List.replicate cn z).toArray e (0, 0)) :: L) → wpList P ops Q rest (a' n) w')
    (hw : Region.wanted o (yielded ops a.tmps) = true := by rfl) (ho : o.op = .makeSlice ty x y := by rfl) (ht : TSlice P ty e := by infer_instance) (he : TElem P e z 1 bytes := by infer_instance)
    (hx : slot a x = some (.int kl l) := by rfl) (hy : slot a y = some (.int kc c) := by rfl) (hz1 : z.cells = #[z] := by rfl)
    (hln : l.toNat = ln := by (first | exact Int.toNat_natCast _ | rfl)) (hcn : c.toNat = cn := by (first | exact Int.toNat_natCast _ | rfl))
    (h0 : 0 ≤ l := by omega) (hlc : l ≤ c := by omega) (hb : bytes * c ≤ 281474976710656 := by omega) (h63 : c ≤ 9223372036854775807 := by omega)
    (hput : ∀ n, Put a o.dst (.slice (some ⟨n, 0, none⟩) ln cn) (a' n) := by (intro _; exact put_of (by conv => lhs; simp only [List.set_cons_succ, List.set_cons_zero]))) : wpList P ops Q (o :: rest) a w := by
  obtain ⟨i, hi, hz, hs, hby, hzs⟩ := he.is
  subst hby hln hcn
  have hr := run_make (P := P) w ty e i z ht.is hi hz kl kc l c h0 hlc hb h63
  have hcells : madeCells z.cells (c.toNat * i.size) = (List.replicate c.toNat z).toArray := by
    rw [hs, Nat.mul_one, hz1]
    apply Array.ext'
    rw [toList_madeCells_one z c.toNat]
  rw [hcells] at hr
  refine wpList_run hw (w' := w.alloc (.cells (List.replicate c.toNat z).toArray e)) (v := .slice (some ⟨w.heap.size, 0, none⟩) l.toNat c.toNat) ?_ (by rw [(hput _).is]; exact k _ _ S.chg.size (S.alloc _))
  simp [execOp, ho, eval_slot hx, eval_slot hy, hr]
theorem u8s_zeros (n : Nat) : u8s (List.replicate n 0) = List.replicate n (.int .u8 0) := by simp [u8s]
/-- make([]byte, l, c). -/
theorem wpList_mk8 {w0 : World} {bs : List Nat} {L : List Res} (S : St w0 bs w L) {a' : Nat → Act} {ty e : TypeId} {x y : Operand} {kl kc : IntKind} {l c : Int} {ln cn : Nat}
    (k : ∀ n w', w0.heap.size ≤ n → St w0 bs w' (.blk n (.cells (u8s (List.replicate cn 0)).toArray e (0, 0)) :: L) → wpList P ops Q rest (a' n) w')
    (hw : Region.wanted o (yielded ops a.tmps) = true := by rfl) (ho : o.op = .makeSlice ty x y := by rfl) (ht : TSlice P ty e := by infer_instance) (he : TElem P e (.int .u8 0) 1 1 := by infer_instance)
    (hx : slot a x = some (.int kl l) := by rfl) (hy : slot a y = some (.int kc c) := by rfl)
    (hln : l.toNat = ln := by (first | exact Int.toNat_natCast _ | rfl)) (hcn : c.toNat = cn := by (first | exact Int.toNat_natCast _ | rfl))
    (h0 : 0 ≤ l := by omega) (hlc : l ≤ c := by omega) (hb : 1 * c ≤ 281474976710656 := by omega) (h63 : c ≤ 9223372036854775807 := by omega)
    (hput : ∀ n, Put a o.dst (.slice (some ⟨n, 0, none⟩) ln cn) (a' n) := by (intro _; exact put_of (by conv => lhs; simp only [List.set_cons_succ, List.set_cons_zero]))) : wpList P ops Q (o :: rest) a w :=
  wpList_mk S (fun n w' hn S' => k n w' hn (by rw [u8s_zeros]; exact S')) hw ho ht he hx hy rfl hln hcn h0 hlc hb h63 hput

end
end Go.Vil
