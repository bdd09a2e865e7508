/- Parts of slices, over any program. -/
import Derived.Test.YtikjncdomgkcjaaDoorMore
import Derived.Test.YtikjncdomgkcjaaDoorReg
namespace Go.Vil
open Go Go.RowKit
set_option linter.unusedSimpArgs false
set_option linter.unusedVariables false

theorem block_add (a : Addr) (j : Nat) : (a.add j).block = a.block := by unfold Addr.add; split <;> rfl
/-- A source that does not lie in some blocks. -/
def Off (oa : Option Addr) (bs : List Nat) (xs : List Value) : Prop := xs = [] ∨ ∀ ad, oa = some ad → ad.block ∉ bs
theorem Src.over {w w' : World} {size n c : Nat} {oa : Option Addr} {xs : List Value} {bs : List Nat} (h : Src w size (.slice oa n c) n xs) (C : Chg bs w w') (hd : Off oa bs xs) : Src w' size (.slice oa n c) n xs := by
  refine ⟨h.1, h.2.1, ?_⟩
  have hm := h.2.2
  cases oa with
  | none => exact hm
  | some ad =>
    refine ⟨hm.1, fun j u hu => ?_⟩
    rcases hd with rfl | hd
    · simp at hu
    · exact C.cell (hm.2 j u hu) (by rw [block_add]; exact hd ad rfl)
theorem Off.mono {oa : Option Addr} {bs bs' : List Nat} {xs : List Value} (h : Off oa bs xs) (hs : ∀ b ∈ bs', b ∈ bs) : Off oa bs' xs :=
  h.imp id fun h ad e hb => h ad e (hs _ hb)
theorem Off.take {oa : Option Addr} {bs : List Nat} {xs : List UInt8} (h : Off oa bs (u8s xs)) (k : Nat) : Off oa bs (u8s (xs.take k)) :=
  h.imp (fun h => by rw [u8s_take, h]; simp) id
/-- What was there ahead of all does not lie in what was made since. -/
theorem St.off {w0 w : World} {L : List Res} (S : St w0 [] w L) {size n c : Nat} {oa : Option Addr} {xs : List Value} (hs : Src w0 size (.slice oa n c) n xs) {bs : List Nat} {F : List Res} (hp : PullsF bs L F := by repeat (first | exact PullsF.nil | (apply PullsF.cons; (repeat (first | exact PullF.head rfl | apply PullF.tail))))) : Off oa bs xs := by
  cases xs with
  | nil => exact .inl rfl
  | cons u xs =>
    refine .inr fun ad e hb => ?_
    subst e
    have hm := hs.2.2
    have hc := World.block_lt_of_cell? w0 _ (hm.2 0 u (by simp))
    obtain ⟨rs, h1, h2⟩ := hp.perm
    rw [← h1] at hb
    obtain ⟨r, hr, hrb⟩ := List.mem_filterMap.1 hb
    have := S.org r (h2.mem_iff.2 (List.mem_append_left _ hr)) _ hrb
    rw [block_add] at hc
    rcases this with h | h
    · cases h
    · omega
/-- What is apart from some blocks is apart from those that a call made of them. -/
theorem St.offG {w0 w : World} {bs : List Nat} {L : List Res} (S : St w0 bs w L) {size n c : Nat} {oa : Option Addr} {xs : List Value} (hs : Src w0 size (.slice oa n c) n xs) (hd : Off oa bs xs) {bs' : List Nat} {F : List Res} (hp : PullsF bs' L F := by repeat (first | exact PullsF.nil | (apply PullsF.cons; (repeat (first | exact PullF.head rfl | apply PullF.tail))))) : Off oa bs' xs := by
  cases xs with
  | nil => exact .inl rfl
  | cons u xs =>
    rcases hd with hd | hd
    · cases hd
    refine .inr fun ad e hb => ?_
    subst e
    have hm := hs.2.2
    have hc := World.block_lt_of_cell? w0 _ (hm.2 0 u (by simp))
    obtain ⟨rs, h1, h2⟩ := hp.perm
    rw [← h1] at hb
    obtain ⟨r, hr, hrb⟩ := List.mem_filterMap.1 hb
    have := S.org r (h2.mem_iff.2 (List.mem_append_left _ hr)) _ hrb
    rw [block_add] at hc
    rcases this with h | h
    · exact hd ad rfl h
    · omega
/-- What lies in one block does not lie in others. -/
theorem St.offB {w0 w : World} {bs0 : List Nat} {L F F1 : List Res} (S : St w0 bs0 w L) {b i : Nat} {xs : List Value} {bs : List Nat} {r : Res} (hr : Pull r L F) (hb : r.foot = some b) (hp : PullsF bs F F1) : Off (some ⟨b, i, none⟩) bs xs := by
  refine .inr fun ad e hm => ?_
  cases e
  obtain ⟨rs, h1, h2⟩ := hp.perm
  rw [← h1] at hm
  obtain ⟨x, hx, hxb⟩ := List.mem_filterMap.1 hm
  have := (S.mem.perm hr.perm).apart b hb x (h2.mem_iff.2 (List.mem_append_left _ hx))
  exact this hxb
section
variable {P : Program} {ops : Array Oper} {Q : Exit → Act → World → Prop} {rest : List Oper} {o : Oper} {a : Act} {w w' : World}

/-! ### x[l:] -/
theorem run_slcT {ty e : TypeId} {z : Value} {size bytes : Nat} [ht : TSlice P ty e] [he : TElem P e z size bytes] (x lo : Operand) (ho : o.op = .slice ty x (some lo) none none) {ad : Addr} {n c : Nat} (hx : a.eval x = .slice (some ad) n c) {kl : IntKind} {l : Int} (hl : a.eval lo = .int kl l)
    (h0 : 0 ≤ l) (h1 : l ≤ n) : (execOp a.eval o).run P w = .ok (.value (.slice (some (cutAt ad l.toNat c size)) (n - l.toNat) (c - l.toNat))) w := by
  obtain ⟨inf, hi', hz, hsize, hby, hzs⟩ := he.is
  subst hsize
  simp [execOp, ho, hx, hl, Instr.sliceAt, Instr.slice, run_underlying ht.is, sizeOf, typeInfo, hi', Instr.sliceBounds, run_sliceBound, h0, h1, cutAt]
  split <;> simp
theorem wpList_slcT {ty e : TypeId} {z : Value} {size bytes : Nat} {x lo : Operand} {ad : Addr} {n c : Nat} {kl : IntKind} {l : Int} {a' : Act} (lN : Nat)
    (k : wpList P ops Q rest a' w)
    (hw : Region.wanted o (yielded ops a.tmps) = true := by rfl) (ho : o.op = .slice ty x (some lo) none none := by rfl) (ht : TSlice P ty e := by infer_instance) (he : TElem P e z size bytes := by infer_instance)
    (hx : slot a x = some (.slice (some ad) n c) := by rfl) (hl : slot a lo = some (.int kl l) := by rfl)
    (hlN : l.toNat = lN := by omega) (h0 : 0 ≤ l := by omega) (h1 : l ≤ n := by omega)
    (hput : Put a o.dst (.slice (some (cutAt ad lN c size)) (n - lN) (c - lN)) a' := by exact put_of (by conv => lhs; simp only [List.set_cons_succ, List.set_cons_zero])) : wpList P ops Q (o :: rest) a w := by
  have := run_slcT (P := P) (w := w) (o := o) (a := a) x lo ho (eval_slot hx) (eval_slot hl) h0 h1
  rw [hlN] at this
  exact wpList_run hw this (hput.is ▸ k)
theorem quiet_slcT {C : World → Prop} {K : Act → Prop} {ty e : TypeId} {z : Value} {size bytes : Nat} {x lo : Operand} {ad : Addr} {n c : Nat} {kl : IntKind} {l : Int} {a' : Act} (lN : Nat)
    (k : K a')
    (ho : o.op = .slice ty x (some lo) none none := by rfl) (ht : TSlice P ty e := by infer_instance) (he : TElem P e z size bytes := by infer_instance)
    (hx : slot a x = some (.slice (some ad) n c) := by rfl) (hl : slot a lo = some (.int kl l) := by rfl)
    (hlN : l.toNat = lN := by omega) (h0 : 0 ≤ l := by omega) (h1 : l ≤ n := by omega)
    (hput : Put a o.dst (.slice (some (cutAt ad lN c size)) (n - lN) (c - lN)) a' := by exact put_of (by conv => lhs; simp only [List.set_cons_succ, List.set_cons_zero])) : o.quiet P a C K := by
  refine quiet_run (fun w _ => ?_) (hput.is ▸ k)
  have := run_slcT (P := P) (w := w) (o := o) (a := a) x lo ho (eval_slot hx) (eval_slot hl) h0 h1
  rwa [hlN] at this
/-! ### x[:h] -/
theorem run_slcH {ty e : TypeId} {z : Value} {size bytes : Nat} [ht : TSlice P ty e] [he : TElem P e z size bytes] (x hi : Operand) (ho : o.op = .slice ty x none (some hi) none) {oa : Option Addr} {n c : Nat} (hx : a.eval x = .slice oa n c) {kh : IntKind} {h : Int} (hh : a.eval hi = .int kh h)
    (h0 : 0 ≤ h) (h1 : h ≤ c) : (execOp a.eval o).run P w = .ok (.value (.slice oa h.toNat c)) w := by
  obtain ⟨inf, hi', hz, hsize, hby, hzs⟩ := he.is
  subst hsize
  have e0 : (fun x : Addr => x.add 0) = id := by funext x; exact Addr.add_zero' x
  simp [execOp, ho, hx, hh, Instr.sliceAt, Instr.slice, run_underlying ht.is, sizeOf, typeInfo, hi', Instr.sliceBounds, run_sliceBound, h0, h1, e0]
theorem wpList_slcH {ty e : TypeId} {z : Value} {size bytes : Nat} {x hi : Operand} {oa : Option Addr} {n c : Nat} {kh : IntKind} {h : Int} {a' : Act} (hN : Nat)
    (k : wpList P ops Q rest a' w)
    (hw : Region.wanted o (yielded ops a.tmps) = true := by rfl) (ho : o.op = .slice ty x none (some hi) none := by rfl) (ht : TSlice P ty e := by infer_instance) (he : TElem P e z size bytes := by infer_instance)
    (hx : slot a x = some (.slice oa n c) := by rfl) (hh : slot a hi = some (.int kh h) := by rfl)
    (hhN : h.toNat = hN := by omega) (h0 : 0 ≤ h := by omega) (h1 : h ≤ c := by omega)
    (hput : Put a o.dst (.slice oa hN c) a' := by exact put_of (by conv => lhs; simp only [List.set_cons_succ, List.set_cons_zero])) : wpList P ops Q (o :: rest) a w := by
  have := run_slcH (P := P) (w := w) (o := o) (a := a) x hi ho (eval_slot hx) (eval_slot hh) h0 h1
  rw [hhN] at this
  exact wpList_run hw this (hput.is ▸ k)
theorem quiet_slcH {C : World → Prop} {K : Act → Prop} {ty e : TypeId} {z : Value} {size bytes : Nat} {x hi : Operand} {oa : Option Addr} {n c : Nat} {kh : IntKind} {h : Int} {a' : Act} (hN : Nat)
    (k : K a')
    (ho : o.op = .slice ty x none (some hi) none := by rfl) (ht : TSlice P ty e := by infer_instance) (he : TElem P e z size bytes := by infer_instance)
    (hx : slot a x = some (.slice oa n c) := by rfl) (hh : slot a hi = some (.int kh h) := by rfl)
    (hhN : h.toNat = hN := by omega) (h0 : 0 ≤ h := by omega) (h1 : h ≤ c := by omega)
    (hput : Put a o.dst (.slice oa hN c) a' := by exact put_of (by conv => lhs; simp only [List.set_cons_succ, List.set_cons_zero])) : o.quiet P a C K := by
  refine quiet_run (fun w _ => ?_) (hput.is ▸ k)
  have := run_slcH (P := P) (w := w) (o := o) (a := a) x hi ho (eval_slot hx) (eval_slot hh) h0 h1
  rwa [hhN] at this
/-! ### x[l:h] -/
theorem run_slcLH {ty e : TypeId} {z : Value} {size bytes : Nat} [ht : TSlice P ty e] [he : TElem P e z size bytes] (x lo hi : Operand) (ho : o.op = .slice ty x (some lo) (some hi) none) {ad : Addr} {n c : Nat} (hx : a.eval x = .slice (some ad) n c) {kl kh : IntKind} {l h : Int} (hl : a.eval lo = .int kl l) (hh : a.eval hi = .int kh h)
    (h0 : 0 ≤ l) (h1 : l ≤ h) (h2 : h ≤ c) : (execOp a.eval o).run P w = .ok (.value (.slice (some (cutAt ad l.toNat c size)) (h.toNat - l.toNat) (c - l.toNat))) w := by
  obtain ⟨inf, hi', hz, hsize, hby, hzs⟩ := he.is
  subst hsize
  have eh : (h.toNat : Int) = h := Int.toNat_of_nonneg (by omega)
  simp [execOp, ho, hx, hl, hh, Instr.sliceAt, Instr.slice, run_underlying ht.is, sizeOf, typeInfo, hi', Instr.sliceBounds, run_sliceBound, h0, h1, h2, eh, (by omega : 0 ≤ h), cutAt]
  split <;> simp
theorem wpList_slcLH {ty e : TypeId} {z : Value} {size bytes : Nat} {x lo hi : Operand} {ad : Addr} {n c : Nat} {kl kh : IntKind} {l h : Int} {a' : Act} (lN hN : Nat)
    (k : wpList P ops Q rest a' w)
    (hw : Region.wanted o (yielded ops a.tmps) = true := by rfl) (ho : o.op = .slice ty x (some lo) (some hi) none := by rfl) (ht : TSlice P ty e := by infer_instance) (he : TElem P e z size bytes := by infer_instance)
    (hx : slot a x = some (.slice (some ad) n c) := by rfl) (hl : slot a lo = some (.int kl l) := by rfl) (hh : slot a hi = some (.int kh h) := by rfl)
    (hlN : l.toNat = lN := by omega) (hhN : h.toNat = hN := by omega) (h0 : 0 ≤ l := by omega) (h1 : l ≤ h := by omega) (h2 : h ≤ c := by omega)
    (hput : Put a o.dst (.slice (some (cutAt ad lN c size)) (hN - lN) (c - lN)) a' := by exact put_of (by conv => lhs; simp only [List.set_cons_succ, List.set_cons_zero])) : wpList P ops Q (o :: rest) a w := by
  have := run_slcLH (P := P) (w := w) (o := o) (a := a) x lo hi ho (eval_slot hx) (eval_slot hl) (eval_slot hh) h0 h1 h2
  rw [hlN, hhN] at this
  exact wpList_run hw this (hput.is ▸ k)
theorem quiet_slcLH {C : World → Prop} {K : Act → Prop} {ty e : TypeId} {z : Value} {size bytes : Nat} {x lo hi : Operand} {ad : Addr} {n c : Nat} {kl kh : IntKind} {l h : Int} {a' : Act} (lN hN : Nat)
    (k : K a')
    (ho : o.op = .slice ty x (some lo) (some hi) none := by rfl) (ht : TSlice P ty e := by infer_instance) (he : TElem P e z size bytes := by infer_instance)
    (hx : slot a x = some (.slice (some ad) n c) := by rfl) (hl : slot a lo = some (.int kl l) := by rfl) (hh : slot a hi = some (.int kh h) := by rfl)
    (hlN : l.toNat = lN := by omega) (hhN : h.toNat = hN := by omega) (h0 : 0 ≤ l := by omega) (h1 : l ≤ h := by omega) (h2 : h ≤ c := by omega)
    (hput : Put a o.dst (.slice (some (cutAt ad lN c size)) (hN - lN) (c - lN)) a' := by exact put_of (by conv => lhs; simp only [List.set_cons_succ, List.set_cons_zero])) : o.quiet P a C K := by
  refine quiet_run (fun w _ => ?_) (hput.is ▸ k)
  have := run_slcLH (P := P) (w := w) (o := o) (a := a) x lo hi ho (eval_slot hx) (eval_slot hl) (eval_slot hh) h0 h1 h2
  rwa [hlN, hhN] at this
/-! ### x[l:h:m] -/
theorem run_slcLHM {ty e : TypeId} {z : Value} {size bytes : Nat} [ht : TSlice P ty e] [he : TElem P e z size bytes] (x lo hi mx : Operand) (ho : o.op = .slice ty x (some lo) (some hi) (some mx)) {ad : Addr} {n c : Nat} (hx : a.eval x = .slice (some ad) n c) {kl kh km : IntKind} {l h m : Int} (hl : a.eval lo = .int kl l) (hh : a.eval hi = .int kh h) (hm : a.eval mx = .int km m)
    (h0 : 0 ≤ l) (h1 : l ≤ h) (h2 : h ≤ m) (h3 : m ≤ c) : (execOp a.eval o).run P w = .ok (.value (.slice (some (cutAt ad l.toNat m.toNat size)) (h.toNat - l.toNat) (m.toNat - l.toNat))) w := by
  obtain ⟨inf, hi', hz, hsize, hby, hzs⟩ := he.is
  subst hsize
  have eh : (h.toNat : Int) = h := Int.toNat_of_nonneg (by omega)
  have em : (m.toNat : Int) = m := Int.toNat_of_nonneg (by omega)
  simp [execOp, ho, hx, hl, hh, hm, Instr.sliceAt, Instr.slice, run_underlying ht.is, sizeOf, typeInfo, hi', Instr.sliceBounds, run_sliceBound, h0, h1, h2, h3, eh, em, (by omega : 0 ≤ h), (by omega : 0 ≤ m), cutAt]
  split <;> simp
theorem wpList_slcLHM {ty e : TypeId} {z : Value} {size bytes : Nat} {x lo hi mx : Operand} {ad : Addr} {n c : Nat} {kl kh km : IntKind} {l h m : Int} {a' : Act} (lN hN mN : Nat)
    (k : wpList P ops Q rest a' w)
    (hw : Region.wanted o (yielded ops a.tmps) = true := by rfl) (ho : o.op = .slice ty x (some lo) (some hi) (some mx) := by rfl) (ht : TSlice P ty e := by infer_instance) (he : TElem P e z size bytes := by infer_instance)
    (hx : slot a x = some (.slice (some ad) n c) := by rfl) (hl : slot a lo = some (.int kl l) := by rfl) (hh : slot a hi = some (.int kh h) := by rfl) (hm : slot a mx = some (.int km m) := by rfl)
    (hlN : l.toNat = lN := by omega) (hhN : h.toNat = hN := by omega) (hmN : m.toNat = mN := by omega) (h0 : 0 ≤ l := by omega) (h1 : l ≤ h := by omega) (h2 : h ≤ m := by omega) (h3 : m ≤ c := by omega)
    (hput : Put a o.dst (.slice (some (cutAt ad lN mN size)) (hN - lN) (mN - lN)) a' := by exact put_of (by conv => lhs; simp only [List.set_cons_succ, List.set_cons_zero])) : wpList P ops Q (o :: rest) a w := by
  have := run_slcLHM (P := P) (w := w) (o := o) (a := a) x lo hi mx ho (eval_slot hx) (eval_slot hl) (eval_slot hh) (eval_slot hm) h0 h1 h2 h3
  rw [hlN, hhN, hmN] at this
  exact wpList_run hw this (hput.is ▸ k)
theorem quiet_slcLHM {C : World → Prop} {K : Act → Prop} {ty e : TypeId} {z : Value} {size bytes : Nat} {x lo hi mx : Operand} {ad : Addr} {n c : Nat} {kl kh km : IntKind} {l h m : Int} {a' : Act} (lN hN mN : Nat)
    (k : K a')
    (ho : o.op = .slice ty x (some lo) (some hi) (some mx) := by rfl) (ht : TSlice P ty e := by infer_instance) (he : TElem P e z size bytes := by infer_instance)
    (hx : slot a x = some (.slice (some ad) n c) := by rfl) (hl : slot a lo = some (.int kl l) := by rfl) (hh : slot a hi = some (.int kh h) := by rfl) (hm : slot a mx = some (.int km m) := by rfl)
    (hlN : l.toNat = lN := by omega) (hhN : h.toNat = hN := by omega) (hmN : m.toNat = mN := by omega) (h0 : 0 ≤ l := by omega) (h1 : l ≤ h := by omega) (h2 : h ≤ m := by omega) (h3 : m ≤ c := by omega)
    (hput : Put a o.dst (.slice (some (cutAt ad lN mN size)) (hN - lN) (mN - lN)) a' := by exact put_of (by conv => lhs; simp only [List.set_cons_succ, List.set_cons_zero])) : o.quiet P a C K := by
  refine quiet_run (fun w _ => ?_) (hput.is ▸ k)
  have := run_slcLHM (P := P) (w := w) (o := o) (a := a) x lo hi mx ho (eval_slot hx) (eval_slot hl) (eval_slot hh) (eval_slot hm) h0 h1 h2 h3
  rwa [hlN, hhN, hmN] at this

/-- Where a part of a block begins: at the end of its room it stays where it was. -/
def cutN (i o c : Nat) : Nat := if c = o then i else i + o
theorem cutAt_lit (b i o c : Nat) : cutAt ⟨b, i, none⟩ o c 1 = ⟨b, cutN i o c, none⟩ := by
  unfold cutAt cutN; split
  · rfl
  · rw [Nat.mul_one, Addr.add_lit]
/-- x[l:] of a block, its elements of one cell. -/
theorem wpList_slcB {ty e : TypeId} {z : Value} {bytes : Nat} {x lo : Operand} {b i n c : Nat} {kl : IntKind} {l : Int} {a' : Act} (lN : Nat)
    (k : wpList P ops Q rest a' w)
    (hw : Region.wanted o (yielded ops a.tmps) = true := by rfl) (ho : o.op = .slice ty x (some lo) none none := by rfl) (ht : TSlice P ty e := by infer_instance) (he : TElem P e z 1 bytes := by infer_instance)
    (hx : slot a x = some (.slice (some ⟨b, i, none⟩) n c) := by rfl) (hlo : slot a lo = some (.int kl l) := by rfl)
    (hl : l.toNat = lN := by omega) (h0 : 0 ≤ l := by omega) (h1 : l ≤ n := by omega)
    (hput : Put a o.dst (.slice (some ⟨b, cutN i lN c, none⟩) (n - lN) (c - lN)) a' := by exact put_of (by conv => lhs; simp only [List.set_cons_succ, List.set_cons_zero])) : wpList P ops Q (o :: rest) a w :=
  wpList_slcT lN k hw ho ht he hx hlo hl h0 h1 (by rw [cutAt_lit]; exact hput)
theorem quiet_slcB {C : World → Prop} {K : Act → Prop} {ty e : TypeId} {z : Value} {bytes : Nat} {x lo : Operand} {b i n c : Nat} {kl : IntKind} {l : Int} {a' : Act} (lN : Nat)
    (k : K a')
    (ho : o.op = .slice ty x (some lo) none none := by rfl) (ht : TSlice P ty e := by infer_instance) (he : TElem P e z 1 bytes := by infer_instance)
    (hx : slot a x = some (.slice (some ⟨b, i, none⟩) n c) := by rfl) (hlo : slot a lo = some (.int kl l) := by rfl)
    (hl : l.toNat = lN := by omega) (h0 : 0 ≤ l := by omega) (h1 : l ≤ n := by omega)
    (hput : Put a o.dst (.slice (some ⟨b, cutN i lN c, none⟩) (n - lN) (c - lN)) a' := by exact put_of (by conv => lhs; simp only [List.set_cons_succ, List.set_cons_zero])) : o.quiet P a C K :=
  quiet_slcT lN k ho ht he hx hlo hl h0 h1 (by rw [cutAt_lit]; exact hput)
/-- x[l:h] of a block, its elements of one cell. -/
theorem quiet_slcBH {C : World → Prop} {K : Act → Prop} {ty e : TypeId} {z : Value} {bytes : Nat} {x lo hi : Operand} {b i n c : Nat} {kl kh : IntKind} {l h : Int} {a' : Act} (lN hN : Nat)
    (k : K a')
    (ho : o.op = .slice ty x (some lo) (some hi) none := by rfl) (ht : TSlice P ty e := by infer_instance) (he : TElem P e z 1 bytes := by infer_instance)
    (hx : slot a x = some (.slice (some ⟨b, i, none⟩) n c) := by rfl) (hlo : slot a lo = some (.int kl l) := by rfl) (hhi : slot a hi = some (.int kh h) := by rfl)
    (hl : l.toNat = lN := by omega) (hh : h.toNat = hN := by omega) (h0 : 0 ≤ l := by omega) (h1 : l ≤ h := by omega) (h2 : h ≤ c := by omega)
    (hput : Put a o.dst (.slice (some ⟨b, cutN i lN c, none⟩) (hN - lN) (c - lN)) a' := by exact put_of (by conv => lhs; simp only [List.set_cons_succ, List.set_cons_zero])) : o.quiet P a C K :=
  quiet_slcLH lN hN k ho ht he hx hlo hhi hl hh h0 h1 h2 (by rw [cutAt_lit]; exact hput)
theorem wpList_slcBH {ty e : TypeId} {z : Value} {bytes : Nat} {x lo hi : Operand} {b i n c : Nat} {kl kh : IntKind} {l h : Int} {a' : Act} (lN hN : Nat)
    (k : wpList P ops Q rest a' w)
    (hw : Region.wanted o (yielded ops a.tmps) = true := by rfl) (ho : o.op = .slice ty x (some lo) (some hi) none := by rfl) (ht : TSlice P ty e := by infer_instance) (he : TElem P e z 1 bytes := by infer_instance)
    (hx : slot a x = some (.slice (some ⟨b, i, none⟩) n c) := by rfl) (hlo : slot a lo = some (.int kl l) := by rfl) (hhi : slot a hi = some (.int kh h) := by rfl)
    (hl : l.toNat = lN := by omega) (hh : h.toNat = hN := by omega) (h0 : 0 ≤ l := by omega) (h1 : l ≤ h := by omega) (h2 : h ≤ c := by omega)
    (hput : Put a o.dst (.slice (some ⟨b, cutN i lN c, none⟩) (hN - lN) (c - lN)) a' := by exact put_of (by conv => lhs; simp only [List.set_cons_succ, List.set_cons_zero])) : wpList P ops Q (o :: rest) a w :=
  wpList_slcLH lN hN k hw ho ht he hx hlo hhi hl hh h0 h1 h2 (by rw [cutAt_lit]; exact hput)
/-- copy of all bytes of a source into a part of a block that has room for them. -/
theorem wpList_copyT {w0 : World} {bs : List Nat} {L L' : List Res} (S : St w0 bs w L) {sv : Value} {src : List UInt8} {n : Nat} (hs : Src w 1 sv n (u8s src)) {x y : Operand} {t tx e : TypeId} {z : Value} {bytes : Nat} {b i lN c dLen dCap : Nat} {l : List UInt8} {T : TypeId} {a' : Act}
    (k : ∀ w', St w0 bs w' L' → wpList P ops Q rest a' w')
    (hw : Region.wanted o (yielded ops a.tmps) = true := by rfl) (ho : o.op = .call { callee := .builtin .copy, args := #[x, y], argTypes := #[t, tx] } := by rfl)
    (ht : TSlice P t e := by infer_instance) (he : TElem P e z 1 bytes := by infer_instance)
    (hx : slot a x = some (.slice (some ⟨b, cutN i lN c, none⟩) dLen dCap) := by rfl) (hy : slot a y = some sv := by rfl)
    (hA : At (.blk b (.cells (u8s l).toArray T (0, 0))) (.blk b (.cells (u8s (splice l (i + lN) src)).toArray T (0, 0))) L L' := by repeat (first | exact At.head | apply At.tail))
    (hfit : i + lN + dLen ≤ l.length := by (first | omega | (simp; done) | (simp; omega))) (hn : n ≤ dLen := by omega) (hd : dLen ≤ c - lN := by omega)
    (hput : Put a o.dst (goInt n) a' := by exact put_of (by conv => lhs; simp only [List.set_cons_succ, List.set_cons_zero])) : wpList P ops Q (o :: rest) a w := by
  have hln : src.length = n := hs.len8
  have hj : cutN i lN c = i + lN ∨ dLen = 0 := by unfold cutN; split <;> omega
  have hm : Nat.min src.length dLen = n := by show min src.length dLen = n; omega
  refine wpList_copy8 S hs k hw ho ht he hx hy (by rw [splice_end _ _ (i + lN) _ _ hj, take_min _ _ (by omega)]; exact hA) ?_ (by rw [hm]; exact hput)
  rcases hj with h | h
  · omega
  · unfold cutN; split <;> omega
/-- copy of all bytes of a source into a block that has room for them, from a known place on. -/
theorem wpList_copyI {w0 : World} {bs : List Nat} {L L' : List Res} (S : St w0 bs w L) {sv : Value} {src : List UInt8} {n : Nat} (hs : Src w 1 sv n (u8s src)) {x y : Operand} {t tx e : TypeId} {z : Value} {bytes : Nat} {b i dLen dCap : Nat} {l : List UInt8} {T : TypeId} {a' : Act}
    (k : ∀ w', St w0 bs w' L' → wpList P ops Q rest a' w')
    (hw : Region.wanted o (yielded ops a.tmps) = true := by rfl) (ho : o.op = .call { callee := .builtin .copy, args := #[x, y], argTypes := #[t, tx] } := by rfl)
    (ht : TSlice P t e := by infer_instance) (he : TElem P e z 1 bytes := by infer_instance)
    (hx : slot a x = some (.slice (some ⟨b, i, none⟩) dLen dCap) := by rfl) (hy : slot a y = some sv := by rfl)
    (hA : At (.blk b (.cells (u8s l).toArray T (0, 0))) (.blk b (.cells (u8s (splice l i src)).toArray T (0, 0))) L L' := by repeat (first | exact At.head | apply At.tail))
    (hfit : i + dLen ≤ l.length := by (first | omega | (simp; done) | (simp; omega))) (hn : n ≤ dLen := by omega)
    (hput : Put a o.dst (goInt n) a' := by exact put_of (by conv => lhs; simp only [List.set_cons_succ, List.set_cons_zero])) : wpList P ops Q (o :: rest) a w := by
  have hln : src.length = n := hs.len8
  have hm : Nat.min src.length dLen = n := by show min src.length dLen = n; omega
  exact wpList_copy8 S hs k hw ho ht he hx hy (by rw [take_min _ _ (by omega)]; exact hA) hfit (by rw [hm]; exact hput)
end
end Go.Vil
