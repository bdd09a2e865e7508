/- More laws over the calculus of memory: sources that came in, parts of them, rows put behind rows, blocks whose cells are not told. -/
import Derived.Test.YtikjncdomgkcjaaDoorRows2
namespace Go.Vil
open Go Go.RowKit
set_option linter.unusedSimpArgs false
set_option linter.unusedVariables false

theorem Src.on {w w' : World} {size : Nat} {v : Value} {n : Nat} {xs : List Value} (h : Src w size v n xs) (C : Chg [] w w') : Src w' size v n xs := by
  obtain ⟨h1, h2, h3⟩ := h
  refine ⟨h1, h2, ?_⟩
  match v, h3 with
  | .slice (some ad) m _, ⟨e, hx⟩ => exact ⟨e, fun j u hu => C.cell (hx j u hu) (by simp)⟩
  | .slice none m _, h3 => exact h3
  | .string s, h3 => exact h3

theorem Addr.add_add (ad : Addr) (i j : Nat) : (ad.add i).add j = ad.add (i + j) := by
  by_cases hi : i = 0
  · subst hi; simp [Addr.add]
  · by_cases hj : j = 0
    · subst hj; simp [Addr.add]
    · simp [Addr.add, hi, hj, Nat.add_assoc]

/-- A part of a source of bytes. -/
theorem Src.sub {w : World} {ad : Addr} {n c : Nat} {l : List UInt8} (h : Src w 1 (.slice (some ad) n c) n (u8s l)) (o m c' : Nat) (hl : o + m ≤ n) : Src w 1 (.slice (some (ad.add o)) m c') m (u8s ((l.drop o).take m)) := by
  have hn : l.length = n := by simpa using h.1
  refine Src.cells (by simp; omega) (u8s_one _) fun j u hu => ?_
  rw [Addr.add_add]
  refine h.2.2.2 _ _ ?_
  rw [u8s_take, List.getElem?_take] at hu
  split at hu
  · rw [u8s_drop, List.getElem?_drop] at hu; exact hu
  · cases hu
/-- A byte of a source. -/
theorem Src.byte {w : World} {ad : Addr} {n c : Nat} {l : List UInt8} (h : Src w 1 (.slice (some ad) n c) n (u8s l)) (k : Nat) (hk : k < n) : w.cell? (ad.add k) = some (.int .u8 ((l.getD k 0).toNat : Int)) := by
  have hn : l.length = n := by simpa using h.1
  refine h.2.2.2 _ _ ?_
  rw [u8s_get?]
  simp [List.getD, List.getElem?_eq_getElem (show k < l.length by omega)]
theorem Src.len8 {w : World} {v : Value} {n : Nat} {l : List UInt8} (h : Src w 1 v n (u8s l)) : l.length = n := by simpa using h.1

theorem Src.tail {w : World} {ad : Addr} {n c : Nat} {l : List UInt8} (h : Src w 1 (.slice (some ad) n c) n (u8s l)) (o c' : Nat) (hl : o ≤ n) : Src w 1 (.slice (some (ad.add o)) (n - o) c') (n - o) (u8s (l.drop o)) := by
  have hn : l.length = n := h.len8
  have := h.sub o (n - o) c' (by omega)
  rwa [List.take_of_length_le (by simp; omega)] at this

/-- The first elements of a source. -/
theorem Src.firsts {w : World} {oa : Option Addr} {n c : Nat} {l : List UInt8} (h : Src w 1 (.slice oa n c) n (u8s l)) (k c' : Nat) (hk : k ≤ n) : Src w 1 (.slice oa k c') k (u8s (l.take k)) := by
  cases oa with
  | none =>
    have h1 := (h.2.2 : n = n ∧ u8s l = []).2
    have h2 := h.len8
    simp [u8s] at h1; subst h1
    simp at h2
    obtain rfl : k = 0 := by omega
    exact Src.nil w 1 _
  | some ad =>
    have := h.sub 0 k c' (by omega)
    rwa [Addr.add_zero', List.drop_zero] at this

/-- What is copied to a part of a block that begins where the block ends is nothing. -/
theorem splice_end {α : Type} (l xs : List α) (i j d : Nat) (hj : j = i ∨ d = 0) : splice l j (xs.take (Nat.min xs.length d)) = splice l i (xs.take (Nat.min xs.length d)) := by
  rcases hj with rfl | rfl
  · rfl
  · simp [splice_nil]

theorem take_min {α : Type} (xs : List α) (d : Nat) (h : xs.length ≤ d) : xs.take (Nat.min xs.length d) = xs := by
  show xs.take (min xs.length d) = xs
  rw [Nat.min_eq_left h, List.take_length]

/-- Where a part of a slice begins: at the end of its room it stays where it was. -/
def cutAt (ad : Addr) (o c s : Nat) : Addr := if c = o then ad else ad.add (o * s)
theorem Src.cut {w : World} {ad : Addr} {n c : Nat} {l : List UInt8} (h : Src w 1 (.slice (some ad) n c) n (u8s l)) (o m c' : Nat) (hl : o + m ≤ n) (hc : n ≤ c) : Src w 1 (.slice (some (cutAt ad o c 1)) m c') m (u8s ((l.drop o).take m)) := by
  unfold cutAt
  split
  · obtain rfl : m = 0 := by omega
    exact Src.cells (by simp [u8s]) (by simp [u8s]) (by simp [u8s])
  · rw [Nat.mul_one]; exact h.sub o m c' hl

section
variable {P : Program} {ops : Array Oper} {Q : Exit → Act → World → Prop} {rest : List Oper} {o : Oper} {a : Act} {w w' : World}

/-- A load of a cell that was there ahead of all. -/
theorem wpList_ldc {w0 : World} {L : List Res} (S : St w0 [] w L) {a' : Act} {ty : TypeId} {x : Operand} {ad : Addr} {v : Value}
    (k : wpList P ops Q rest a' w)
    (hw : Region.wanted o (yielded ops a.tmps) = true := by rfl) (ho : o.op = .load ty x := by rfl) (hT0 : TOne P ty := by infer_instance) (ha : slot a x = some (.pointer (some ad)) := by rfl)
    (hc : w0.cell? ad = some v := by assumption) (hput : Put a o.dst v a' := by exact put_of (by conv => lhs; simp only [List.set_cons_succ, List.set_cons_zero])) : wpList P ops Q (o :: rest) a w :=
  wpList_run hw (run_ld ty x ho (eval_slot ha) (S.chg.cell hc (by simp))) (hput.is ▸ k)
theorem quiet_ldc {w0 : World} {L : List Res} (S : St w0 [] w L) {K : Act → Prop} {a' : Act} {ty : TypeId} {x : Operand} {ad : Addr} {v : Value}
    (k : K a')
    (ho : o.op = .load ty x := by rfl) (hT0 : TOne P ty := by infer_instance) (ha : slot a x = some (.pointer (some ad)) := by rfl)
    (hc : w0.cell? ad = some v := by assumption) (hput : Put a o.dst v a' := by exact put_of (by conv => lhs; simp only [List.set_cons_succ, List.set_cons_zero])) : o.quiet P a (fun w' => ∃ p : StW w w0 [] L, w' = p.w) K :=
  quiet_run (fun _ hS => have S := S.of hS; run_ld ty x ho (eval_slot ha) (S.chg.cell hc (by simp))) (hput.is ▸ k)

theorem run_slc {ty e : TypeId} {z : Value} {size bytes : Nat} [ht : TSlice P ty e] [he : TElem P e z size bytes] (x lo hi : Operand) (ho : o.op = .slice ty x (some lo) (some hi) none) {ad : Addr} {n c : Nat} (hx : a.eval x = .slice (some ad) n c) {kl kh : IntKind} {l h : Int} (hlo : a.eval lo = .int kl l) (hhi : a.eval hi = .int kh h)
    (h0 : 0 ≤ l) (h1 : l ≤ h) (h2 : h ≤ c) : (execOp a.eval o).run P w = .ok (.value (.slice (some (cutAt ad l.toNat c size)) (h.toNat - l.toNat) (c - l.toNat))) w := by
  obtain ⟨inf, hi, hz, hsize, hby, hzs⟩ := he.is
  subst hsize
  have eh : (h.toNat : Int) = h := Int.toNat_of_nonneg (by omega)
  simp [execOp, ho, hx, hlo, hhi, Instr.sliceAt, Instr.slice, run_underlying ht.is, sizeOf, typeInfo, hi, Instr.sliceBounds, run_sliceBound, h0, h1, h2, eh, (by omega : 0 ≤ h), cutAt]
  split <;> simp
/-- A part of a slice, wherever it ends. -/
theorem wpList_slc {ty e : TypeId} {z : Value} {size bytes : Nat} {x lo hi : Operand} {ad : Addr} {n c : Nat} {kl kh : IntKind} {l h : Int} {a' : Act} (ln m : Nat)
    (k : wpList P ops Q rest a' w)
    (hw : Region.wanted o (yielded ops a.tmps) = true := by rfl) (ho : o.op = .slice ty x (some lo) (some hi) none := by rfl) (ht : TSlice P ty e := by infer_instance) (he : TElem P e z size bytes := by infer_instance)
    (hx : slot a x = some (.slice (some ad) n c) := by rfl) (hlo : slot a lo = some (.int kl l) := by rfl) (hhi : slot a hi = some (.int kh h) := by rfl)
    (hl : l.toNat = ln := by omega) (hm : h.toNat = ln + m := by omega) (h0 : 0 ≤ l := by omega) (h1 : l ≤ h := by omega) (h2 : h ≤ c := by omega)
    (hput : Put a o.dst (.slice (some (cutAt ad ln c size)) m (c - ln)) a' := by exact put_of (by conv => lhs; simp only [List.set_cons_succ, List.set_cons_zero])) : wpList P ops Q (o :: rest) a w := by
  have := run_slc (P := P) (w := w) (o := o) (a := a) x lo hi ho (eval_slot hx) (eval_slot hlo) (eval_slot hhi) h0 h1 h2
  rw [hl, hm, Nat.add_sub_cancel_left] at this
  exact wpList_run hw this (hput.is ▸ k)

theorem run_slcL {ty e : TypeId} {z : Value} {bytes : Nat} [ht : TSlice P ty e] [he : TElem P e z 1 bytes] (x lo : Operand) (ho : o.op = .slice ty x (some lo) none none) {b i n c : Nat} (hx : a.eval x = .slice (some ⟨b, i, none⟩) n c) {kl : IntKind} {l : Int} (hlo : a.eval lo = .int kl l)
    (h0 : 0 ≤ l) (h1 : l ≤ n) : (execOp a.eval o).run P w = .ok (.value (.slice (some ⟨b, if c = l.toNat then i else i + l.toNat, none⟩) (n - l.toNat) (c - l.toNat))) w := by
  obtain ⟨inf, hi, hz, hsize, hby, hzs⟩ := he.is
  simp [execOp, ho, hx, hlo, Instr.sliceAt, Instr.slice, run_underlying ht.is, sizeOf, typeInfo, hi, hsize, Instr.sliceBounds, run_sliceBound, h0, h1]
  split
  · rfl
  · rw [Addr.add_lit]
/-- x[l:] of a block of bytes: at the end of its room it stays where it was. -/
theorem wpList_slcL {ty e : TypeId} {z : Value} {bytes : Nat} {x lo : Operand} {b i n c : Nat} {kl : IntKind} {l : Int} {a' : Nat → Act} (ln : Nat)
    (k : ∀ j, (j = i + ln ∨ (j = i ∧ c = ln)) → wpList P ops Q rest (a' j) w)
    (hw : Region.wanted o (yielded ops a.tmps) = true := by rfl) (ho : o.op = .slice ty x (some lo) none none := by rfl) (ht : TSlice P ty e := by infer_instance) (he : TElem P e z 1 bytes := by infer_instance)
    (hx : slot a x = some (.slice (some ⟨b, i, none⟩) n c) := by rfl) (hlo : slot a lo = some (.int kl l) := by rfl)
    (hl : l.toNat = ln := by omega) (h0 : 0 ≤ l := by omega) (h1 : l ≤ n := by omega)
    (hput : ∀ j, Put a o.dst (.slice (some ⟨b, j, none⟩) (n - ln) (c - ln)) (a' j) := by (intro _; exact put_of (by conv => lhs; simp only [List.set_cons_succ, List.set_cons_zero]))) : wpList P ops Q (o :: rest) a w := by
  have := run_slcL (P := P) (w := w) (o := o) (a := a) x lo ho (eval_slot hx) (eval_slot hlo) h0 h1
  rw [hl] at this
  exact wpList_run hw this ((hput _).is ▸ k _ (by split; exact .inr ⟨rfl, by assumption⟩; exact .inl rfl))

/-- A load out of a block whose cells are not told one by one. -/
theorem wpList_ldG {w0 : World} {bs : List Nat} {L F : List Res} (S : St w0 bs w L) {a' : Act} {ty : TypeId} {x : Operand} {b i : Nat} {c : List Value} {T : TypeId} {fr : Nat × Nat}
    (k : wpList P ops Q rest a' w)
    (hw : Region.wanted o (yielded ops a.tmps) = true := by rfl) (ho : o.op = .load ty x := by rfl) (hT0 : TOne P ty := by infer_instance) (ha : slot a x = some (.pointer (some ⟨b, i, none⟩)) := by rfl)
    (hp : Pull (.blk b (.cells c.toArray T fr)) L F := by repeat (first | exact Pull.head | apply Pull.tail)) (hi : i < c.length := by (first | omega | (simp; omega))) (hput : Put a o.dst (c.getD i undef) a' := by exact put_of (by conv => lhs; simp only [List.set_cons_succ, List.set_cons_zero])) : wpList P ops Q (o :: rest) a w :=
  wpList_run hw (run_ld ty x ho (eval_slot ha) ((cell_at (S.blk hp)).trans (by simp [List.getD, List.getElem?_eq_getElem hi]))) (hput.is ▸ k)
/-- A store into a block whose cells are not told one by one. -/
theorem wpList_stG {w0 : World} {bs : List Nat} {L L' : List Res} (S : St w0 bs w L) {ty : TypeId} {x y : Operand} {b i : Nat} {c : List Value} {T : TypeId} {v : Value}
    (k : ∀ w', St w0 bs w' L' → wpList P ops Q rest a w')
    (hw : Region.wanted o (yielded ops a.tmps) = true := by rfl) (ho : o.op = .store ty x y := by rfl) (hd : o.dst = none := by rfl) (hT0 : TOne P ty := by infer_instance) (ha : slot a x = some (.pointer (some ⟨b, i, none⟩)) := by rfl) (hv : slot a y = some v := by rfl)
    (hA : At (.blk b (.cells c.toArray T (0, 0))) (.blk b (.cells (c.set i v).toArray T (0, 0))) L L' := by repeat (first | exact At.head | apply At.tail))
    (hi : i < c.length := by (first | decide | (simp; done) | omega | (simp; omega)))
    (hv1 : v.oneCell' = true := by rfl) : wpList P ops Q (o :: rest) a w :=
  wpList_st S k hw ho hd hT0 ha hv hA hi rfl hv1

/-- append(x, y...): y a source that was there ahead of all. -/
theorem wpList_appO {w0 : World} {L F : List Res} (S : St w0 [] w L) {sv : Value} {m : Nat} {news : List UInt8} (hs : Src w0 1 sv m (u8s news)) {a' : Value → Act} {x y : Operand} {t tx e : TypeId} {z : Value} {bytes n : Nat} {v : Value} {xs : List UInt8}
    (k : ∀ v' w', (v' = .slice none 0 0 ↔ n + m = 0 ∧ v = .slice none 0 0) → St w0 [] w' (.row e 1 v' (n + m) (u8s (xs ++ news)) :: F) → wpList P ops Q rest (a' v') w')
    (hw : Region.wanted o (yielded ops a.tmps) = true := by rfl) (ho : o.op = .call { callee := .builtin .append, args := #[x, y], argTypes := #[t, tx] } := by rfl)
    (ht : TSlice P t e := by infer_instance) (htx : TRow P tx := by infer_instance) (he : TElem P e z 1 bytes := by infer_instance)
    (hx : slot a x = some v := by rfl) (hy : slot a y = some sv := by rfl)
    (hp : Pull (.row e 1 v n (u8s xs)) L F := by repeat (first | exact Pull.head | apply Pull.tail))
    (h63 : n + m ≤ maxLen := by (unfold maxLen; first | omega | (simp; omega))) (hb : (n + m) * bytes ≤ 140737488355328 := by first | omega | (simp; omega))
    (hput : ∀ v', Put a o.dst v' (a' v') := by (intro _; exact put_of (by conv => lhs; simp only [List.set_cons_succ, List.set_cons_zero]))) : wpList P ops Q (o :: rest) a w :=
  wpList_app S (hs.on S.chg) (fun v' w' h S => k v' w' h (by rw [u8s_append]; exact S)) hw ho ht htx he hx hy hp (by decide) h63 hb hput
/-- append([]byte{}, y...): y a source that was there ahead of all. -/
theorem wpList_appO0 {w0 : World} {L F : List Res} (S : St w0 [] w L) {sv : Value} {m : Nat} {news : List UInt8} (hs : Src w0 1 sv m (u8s news)) {a' : Value → Act} {x y : Operand} {t tx e : TypeId} {z : Value} {bytes : Nat} {v : Value}
    (k : ∀ v' w', (v' = .slice none 0 0 ↔ m = 0 ∧ v = .slice none 0 0) → St w0 [] w' (.row e 1 v' m (u8s news) :: F) → wpList P ops Q rest (a' v') w')
    (hw : Region.wanted o (yielded ops a.tmps) = true := by rfl) (ho : o.op = .call { callee := .builtin .append, args := #[x, y], argTypes := #[t, tx] } := by rfl)
    (ht : TSlice P t e := by infer_instance) (htx : TRow P tx := by infer_instance) (he : TElem P e z 1 bytes := by infer_instance)
    (hx : slot a x = some v := by rfl) (hy : slot a y = some sv := by rfl)
    (hp : Pull (.row e 1 v 0 (u8s [])) L F := by first | exact Pull.head | exact Pull.tail .head | exact Pull.tail (.tail .head) | exact Pull.tail (.tail (.tail .head)) | exact Pull.tail (.tail (.tail (.tail .head))) | exact Pull.tail (.tail (.tail (.tail (.tail .head)))) | exact Pull.tail (.tail (.tail (.tail (.tail (.tail .head))))) | exact Pull.tail (.tail (.tail (.tail (.tail (.tail (.tail .head)))))) | exact Pull.tail (.tail (.tail (.tail (.tail (.tail (.tail (.tail .head))))))) | exact Pull.tail (.tail (.tail (.tail (.tail (.tail (.tail (.tail (.tail .head)))))))))
    (h63 : m ≤ maxLen := by (unfold maxLen; first | omega | (simp; omega))) (hb : m * bytes ≤ 140737488355328 := by first | omega | (simp; omega))
    (hput : ∀ v', Put a o.dst v' (a' v') := by (intro _; exact put_of (by conv => lhs; simp only [List.set_cons_succ, List.set_cons_zero]))) : wpList P ops Q (o :: rest) a w :=
  wpList_appO S hs (fun v' w' h S => k v' w' (by rwa [Nat.zero_add] at h) (by rwa [Nat.zero_add, List.nil_append] at S)) hw ho ht htx he hx hy hp (by rwa [Nat.zero_add]) (by rwa [Nat.zero_add]) hput
/-- append(x, y...): x and y rows of the call's own, the two apart. -/
theorem wpList_appR {w0 : World} {bs : List Nat} {L F F' : List Res} (S : St w0 bs w L) {sv : Value} {m : Nat} {news : List UInt8} {a' : Value → Act} {x y : Operand} {t tx e e' : TypeId} {z : Value} {bytes n : Nat} {v : Value} {xs : List UInt8}
    (k : ∀ v' w', (v' = .slice none 0 0 ↔ n + m = 0 ∧ v = .slice none 0 0) → St w0 bs w' (.row e 1 v' (n + m) (u8s (xs ++ news)) :: F) → wpList P ops Q rest (a' v') w')
    (hw : Region.wanted o (yielded ops a.tmps) = true := by rfl) (ho : o.op = .call { callee := .builtin .append, args := #[x, y], argTypes := #[t, tx] } := by rfl)
    (ht : TSlice P t e := by infer_instance) (htx : TRow P tx := by infer_instance) (he : TElem P e z 1 bytes := by infer_instance)
    (hx : slot a x = some v := by rfl) (hy : slot a y = some sv := by rfl)
    (hp : Pull (.row e 1 v n (u8s xs)) L F := by repeat (first | exact Pull.head | apply Pull.tail)) (hp' : Pull (.row e' 1 sv m (u8s news)) F F' := by repeat (first | exact Pull.head | apply Pull.tail))
    (h63 : n + m ≤ maxLen := by (unfold maxLen; first | omega | (simp; omega))) (hb : (n + m) * bytes ≤ 140737488355328 := by first | omega | (simp; omega))
    (hput : ∀ v', Put a o.dst v' (a' v') := by (intro _; exact put_of (by conv => lhs; simp only [List.set_cons_succ, List.set_cons_zero]))) : wpList P ops Q (o :: rest) a w := by
  have hown : w.ownsRow 0 e' 1 sv m (u8s news) := (S.perm hp.perm).mem.2 _ (List.mem_cons_of_mem _ hp'.mem)
  exact wpList_app S (Src.row hown (u8s_one _)) (fun v' w' h S => k v' w' h (by rw [u8s_append]; exact S)) hw ho ht htx he hx hy hp (by decide) h63 hb hput
/-- append(x, s...): s a string. -/
theorem wpList_appT {w0 : World} {bs : List Nat} {L F : List Res} (S : St w0 bs w L) {s : ByteArray} {a' : Value → Act} {x y : Operand} {t tx e : TypeId} {z : Value} {bytes n : Nat} {v : Value} {xs : List UInt8}
    (k : ∀ v' w', (v' = .slice none 0 0 ↔ n + s.size = 0 ∧ v = .slice none 0 0) → St w0 bs w' (.row e 1 v' (n + s.size) (u8s (xs ++ s.data.toList)) :: F) → wpList P ops Q rest (a' v') w')
    (hw : Region.wanted o (yielded ops a.tmps) = true := by rfl) (ho : o.op = .call { callee := .builtin .append, args := #[x, y], argTypes := #[t, tx] } := by rfl)
    (ht : TSlice P t e := by infer_instance) (htx : TRow P tx := by infer_instance) (he : TElem P e z 1 bytes := by infer_instance)
    (hx : slot a x = some v := by rfl) (hy : slot a y = some (.string s) := by rfl)
    (hp : Pull (.row e 1 v n (u8s xs)) L F := by repeat (first | exact Pull.head | apply Pull.tail))
    (h63 : n + s.size ≤ maxLen := by (unfold maxLen; first | omega | (simp; omega))) (hb : (n + s.size) * bytes ≤ 140737488355328 := by first | omega | (simp; omega))
    (hput : ∀ v', Put a o.dst v' (a' v') := by (intro _; exact put_of (by conv => lhs; simp only [List.set_cons_succ, List.set_cons_zero]))) : wpList P ops Q (o :: rest) a w :=
  wpList_app S (Src.string w s) (fun v' w' h S => k v' w' h (by rw [u8s_append]; exact S)) hw ho ht htx he hx hy hp (by decide) h63 hb hput
/-- []T{}: a row. -/
theorem wpList_bs0 {w0 : World} {bs : List Nat} {L : List Res} (S : St w0 bs w L) {a' : Nat → Act} {ty e : TypeId} {z : Value} {bytes : Nat}
    (k : ∀ n w', w0.heap.size ≤ n → St w0 bs w' (.row e 1 (.slice (some ⟨n, 0, none⟩) 0 0) 0 (u8s []) :: L) → wpList P ops Q rest (a' n) w')
    (hw : Region.wanted o (yielded ops a.tmps) = true := by rfl) (ho : o.op = .buildSlice ty 0 #[] := by rfl) (ht : TSlice P ty e := by infer_instance) (he : TElem P e z 1 bytes := by infer_instance)
    (hput : ∀ n, Put a o.dst (.slice (some ⟨n, 0, none⟩) 0 0) (a' n) := by (intro _; exact put_of (by conv => lhs; simp only [List.set_cons_succ, List.set_cons_zero]))) : wpList P ops Q (o :: rest) a w :=
  wpList_bs (len := 0) (parts := []) (size := 1) S (fun n w' hn S' => k n w' hn (by
    have := St.toRow8 (l := []) (n := 0) S' Pull.head rfl (by simp [maxLen])
    exact this)) hw ho ht he rfl rfl rfl rfl rfl (by decide) hput
/-- A row as a source. -/
theorem St.rowSrc {w0 : World} {bs : List Nat} {L F : List Res} (S : St w0 bs w L) {e : TypeId} {v : Value} {n : Nat} {l : List UInt8} (hp : Pull (.row e 1 v n (u8s l)) L F := by repeat (first | exact Pull.head | apply Pull.tail)) : Src w 1 v n (u8s l) :=
  Src.row (S.mem.2 _ hp.mem) (u8s_one _)
theorem St.rowSlice {w0 : World} {bs : List Nat} {L F : List Res} (S : St w0 bs w L) {e : TypeId} {v : Value} {n : Nat} {xs : List Value} (hp : Pull (.row e 1 v n xs) L F := by repeat (first | exact Pull.head | apply Pull.tail)) : ∃ a c, v = .slice a n c ∧ n ≤ c ∧ n ≤ maxLen := by
  rcases (S.mem.2 _ hp.mem : w.ownsRow 0 e 1 v n xs).2 with ⟨rfl, h⟩ | ⟨g, cap, cur, rfl, _, hg, h1, h2, _⟩
  · have : n = 0 := by have := (S.mem.2 _ hp.mem : w.ownsRow 0 e 1 _ n xs).1; simp [h] at this; omega
    subst this; exact ⟨none, 0, rfl, Nat.le_refl _, by simp [maxLen]⟩
  · exact ⟨_, _, rfl, h1, Nat.le_trans h1 h2⟩
theorem St.rowLe {w0 : World} {bs : List Nat} {L F : List Res} (S : St w0 bs w L) {e : TypeId} {ad : Option Addr} {n c size : Nat} {xs : List Value} (hp : Pull (.row e size (.slice ad n c) n xs) L F := by repeat (first | exact Pull.head | apply Pull.tail)) : n ≤ c := by
  rcases (S.mem.2 _ hp.mem : w.ownsRow 0 e size _ n xs).2 with ⟨h, _⟩ | ⟨g, cap, cur, h, _, hg, h1, h2, _⟩
  · cases h; exact Nat.le_refl _
  · cases h; exact h1
end
end Go.Vil
