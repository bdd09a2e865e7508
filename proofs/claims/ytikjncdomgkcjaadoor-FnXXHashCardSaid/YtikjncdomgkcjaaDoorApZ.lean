/- append to an empty slice of bytes: the bytes, and zeros behind them. -/
import Derived.Test.YtikjncdomgkcjaaDoorMore
import Derived.Test.YtikjncdomgkcjaaDoorGrow
import Derived.Test.YtikjncdomgkcjaaDoorArr
namespace Go.Vil
open Go Go.RowKit
set_option linter.unusedSimpArgs false
set_option linter.unusedVariables false

theorem zeroCells_u8 (n : Nat) : (Builtin.zeroCells (Value.int .u8 0).cells n) = (u8s (List.replicate n 0)).toArray := by
  apply Array.ext'
  simp [Builtin.zeroCells, Value.cells, u8s]
  apply List.ext_getElem
  · simp
  · intro i h1 h2
    simp
    have : i % 1 = 0 := Nat.mod_one i
    rw [this]; rfl
section
variable {P : Program} {ops : Array Oper} {Q : Exit → Act → World → Prop} {rest : List Oper} {o : Oper} {a : Act} {w w' : World}
theorem run_append_zero {t tx ty e : TypeId} {bytes : Nat} [ht : TSlice P t e] [hx : TRow P tx] [he : TElem P e (.int .u8 0) 1 bytes] {w0 : World} {bs : List Nat} {L F : List Res} (S : St w0 bs w L) {b : Nat} (hp : Pull (.blk b (.cells ([] : List Value).toArray e (0, 0))) L F)
    {sv : Value} {m : Nat} {news : List UInt8} (hs : Src w 1 sv m (u8s news)) (h63 : m ≤ maxLen) (hbytes : m * bytes ≤ 140737488355328) :
    ∃ m' kz w', (Builtin.append_ #[t, tx] ty #[.slice (some ⟨b, 0, none⟩) 0 0, sv]).run P w = .ok (.slice (some ⟨m', 0, none⟩) m (m + kz)) w' ∧ St w0 bs w' (.blk m' (.cells (u8s (news ++ List.replicate kz 0)).toArray e (0, 0)) :: F) := by
  obtain ⟨i, hi, hz, hsize, hby, hzs⟩ := he.is
  obtain ⟨d, hd, hdi⟩ := hx.is
  have hsmall : m ≤ 9223372036854775807 := by simp only [maxLen] at h63; omega
  have hnl : (Builtin.lenOf sv).run P w = .ok m w := hs.lenOf (w' := w) rfl
  have hzero : (match d with | .int _ => true | _ => false) = false := by
    cases d <;> first | rfl | exact absurd rfl (hdi _)
  have hnf : ∀ w', (∀ ad x, w.cell? ad = some x → w'.cell? ad = some x) → (Builtin.firstCells 1 m sv).run P w' = .ok (u8s news).toArray w' := fun w' hc => by
    have := hs.first (P := P) hc m (Nat.le_refl _)
    rwa [List.take_of_length_le (by rw [hs.1]; exact Nat.le_refl _)] at this
  have hn1 := hnf w (fun _ _ h => h)
  have hn2 := hnf w.drew (fun _ _ h => h)
  have hl := hs.len8
  rw [← hsize] at hn1 hn2
  rw [← hby] at hbytes
  by_cases h0 : m = 0
  · subst h0
    have hnil : news = [] := List.eq_nil_of_length_eq_zero hl
    subst hnil
    refine ⟨b, 0, w, ?_, S.perm hp.perm⟩
    simp [Builtin.append_, run_underlying ht.is, run_underlying hd, sizeOf, typeInfo, hi, hnl, hn1, hzero, u8s, storeCells]
  · have hnr : ¬ (0 + m ≤ 0) := by omega
    have h63' : ¬ (9223372036854775807 < (m : Int)) := by omega
    have h48' : ¬ (281474976710656 < Builtin.nextslicecap m 0 * i.bytes) := by
      have := growslice_fits (bytes := i.bytes) (show 0 < m by omega) hbytes; omega
    have hge := grownCap_ge w m 0 e
    have hold : (Builtin.firstCells i.size 0 (.slice (some ⟨b, 0, none⟩) 0 0)).run P w.drew = .ok #[] w.drew := by
      have := run_firstCells_some (P := P) w.drew i.size 0 ⟨b, 0, none⟩ 0 0 [] (by simp) (by simp)
      simpa using this
    refine ⟨w.heap.size, grownCap w m 0 e - m, w.drew.alloc (.cells (#[] ++ (u8s news).toArray ++ Builtin.zeroCells (Value.int .u8 0).cells (grownCap w m 0 e - m)) e), ?_, ?_⟩
    · rw [show m + (grownCap w m 0 e - m) = grownCap w m 0 e by omega]
      simp [Builtin.append_, run_underlying ht.is, run_underlying hd, sizeOf, typeInfo, zeroValue, hi, hz, hnl, h0, h63', h48', hzero, Question.forced, hn2, hold, newRow, grownCap]
    · have := (S.perm hp.perm).drew.alloc (.cells (#[] ++ (u8s news).toArray ++ Builtin.zeroCells (Value.int .u8 0).cells (grownCap w m 0 e - m)) e)
      have e1 : (#[] ++ (u8s news).toArray ++ Builtin.zeroCells (Value.int .u8 0).cells (grownCap w m 0 e - m)) = (u8s (news ++ List.replicate (grownCap w m 0 e - m) 0)).toArray := by
        rw [zeroCells_u8, u8s_append]; simp
      rw [e1] at this ⊢
      exact this.sel (.cons .head (.weaken (.refl _)))
/-- append([]byte{}, y...): the bytes, and zeros behind them. -/
theorem wpList_appZ {w0 : World} {bs : List Nat} {L F : List Res} (S : St w0 bs w L) {sv : Value} {m b : Nat} {news : List UInt8} (hs : Src w 1 sv m (u8s news)) {a' : Nat → Nat → Act} {x y : Operand} {t tx e : TypeId} {bytes : Nat}
    (k : ∀ m' kz w', St w0 bs w' (.blk m' (.cells (u8s (news ++ List.replicate kz 0)).toArray e (0, 0)) :: F) → wpList P ops Q rest (a' m' kz) w')
    (hw : Region.wanted o (yielded ops a.tmps) = true := by rfl) (ho : o.op = .call { callee := .builtin .append, args := #[x, y], argTypes := #[t, tx] } := by rfl)
    (ht : TSlice P t e := by infer_instance) (htx : TRow P tx := by infer_instance) (he : TElem P e (.int .u8 0) 1 bytes := by infer_instance)
    (hx : slot a x = some (.slice (some ⟨b, 0, none⟩) 0 0) := by rfl) (hy : slot a y = some sv := by rfl)
    (hp : Pull (.blk b (.cells ([] : List Value).toArray e (0, 0))) L F := by repeat (first | exact Pull.head | apply Pull.tail))
    (h63 : m ≤ maxLen := by (unfold maxLen; first | omega | (simp; omega))) (hb : m * bytes ≤ 140737488355328 := by first | omega | (simp; omega))
    (hput : ∀ m' kz, Put a o.dst (.slice (some ⟨m', 0, none⟩) m (m + kz)) (a' m' kz) := by (intro _ _; exact put_of (by conv => lhs; simp only [List.set_cons_succ, List.set_cons_zero]))) : wpList P ops Q (o :: rest) a w := by
  obtain ⟨m', kz, w', hr, S'⟩ := run_append_zero (P := P) (t := t) (tx := tx) (ty := o.type) S hp hs h63 hb
  refine wpList_run hw (w' := w') (v := .slice (some ⟨m', 0, none⟩) m (m + kz)) ?_ (by rw [(hput _ _).is]; exact k _ _ _ S')
  simp [execOp, ho, resolve, invoke, builtin, eval_slot hx, eval_slot hy, hr]
/-- x[i] of an array that is a value. -/
theorem wpList_ix {a' : Act} {ty e : TypeId} {len : Nat} {x y : Operand} {k : IntKind} {cs : List Value} {i : Int} {v : Value} (ht : P.underlying ty = some (.array len e))
    (kk : wpList P ops Q rest a' w)
    (hw : Region.wanted o (yielded ops a.tmps) = true := by rfl) (ho : o.op = .index ty x y := by rfl) (he : TOne P e := by infer_instance)
    (hx : slot a x = some (.agg cs.toArray) := by rfl) (hy : slot a y = some (.int k i) := by rfl) (h0 : 0 ≤ i := by omega) (h1 : i < len := by omega) (hv : cs[i.toNat]? = some v := by rfl)
    (hput : Put a o.dst v a' := by exact put_of (by conv => lhs; simp only [List.set_cons_succ, List.set_cons_zero])) : wpList P ops Q (o :: rest) a w := by
  refine wpList_run hw (v := v) (w' := w) ?_ (hput.is ▸ kk)
  simp [execOp, ho, eval_slot hx, eval_slot hy, Instr.index, asIntOf, run_underlying ht, h0, h1, he.size, part, he.agg, hv]
end
end Go.Vil
