/- append(x, make([]byte, n)...). -/
import Derived.Test.YtkfkcinkkgdebaaDb
namespace Go.Vil
open Go Go.RowKit
set_option linter.unusedSimpArgs false
set_option linter.unusedVariables false
section
variable {P : Program} {ops : Array Oper} {Q : Exit → Act → World → Prop} {rest : List Oper} {o : Oper} {a : Act} {w w' : World}
theorem append_int_eq {t tI tS ty e : TypeId} {bytes : Nat} [ht : TSlice P t e] (hI : P.underlying tI = some (.int .i64)) (hS : P.underlying tS = some .string) [he : TElem P e (.int .u8 0) 1 bytes] (base : Option Addr) (sl sc n : Nat) (hsc : sl ≤ sc) (h63 : sl + n ≤ maxLen) (hbytes : (sl + n) * bytes ≤ 140737488355328) :
    ∃ zs : ByteArray, Src w 1 (.string zs) n (u8s (List.replicate n 0)) ∧ (Builtin.append_ #[t, tI] ty #[.slice base sl sc, .int .i64 n]).run P w = (Builtin.append_ #[t, tS] ty #[.slice base sl sc, .string zs]).run P w := by
  obtain ⟨i, hi, hz, hsize, hby, hzs⟩ := he.is
  have hsmall : sl + n ≤ 9223372036854775807 := by simp only [maxLen] at h63; omega
  have hw : IntKind.i64.wrap (n : Int) = n := IntWalk.i64_in _ (by omega)
  obtain ⟨zs, hs⟩ : ∃ zs : ByteArray, Src w 1 (.string zs) n (u8s (List.replicate n 0)) := by
    refine ⟨⟨(List.replicate n (0 : UInt8)).toArray⟩, ?_⟩
    have := Src.string w ⟨(List.replicate n (0 : UInt8)).toArray⟩
    rw [show (⟨(List.replicate n (0 : UInt8)).toArray⟩ : ByteArray).size = n from by simp [ByteArray.size]] at this
    exact this
  refine ⟨zs, hs, ?_⟩
  have hnl : (Builtin.lenOf (.string zs)).run P w = .ok n w := hs.lenOf (w' := w) rfl
  have hnf : ∀ w', (∀ ad x, w.cell? ad = some x → w'.cell? ad = some x) → (Builtin.firstCells 1 n (.string zs)).run P w' = .ok (u8s (List.replicate n 0)).toArray w' := fun w' hc => by
    have := hs.first (P := P) hc n (Nat.le_refl _)
    rwa [List.take_of_length_le (by rw [hs.1]; exact Nat.le_refl _)] at this
  have hn1 := hnf w (fun _ _ h => h)
  have hn2 : ∀ w', (∀ ad x, w.drew.cell? ad = some x → w'.cell? ad = some x) → (Builtin.firstCells 1 n (.string zs)).run P w' = .ok (u8s (List.replicate n 0)).toArray w' := fun w' h => hnf w' h
  rw [← hby] at hbytes
  have hzc : Builtin.zeroCells (Value.int .u8 0).cells n = (u8s (List.replicate n 0)).toArray := zeroCells_u8 n
  have h0 : ¬ ((n : Int) < 0) := by omega
  have hb1 : ¬ (281474976710656 < (n : Int) * (i.bytes : Int)) := by
    have h1 : n * i.bytes ≤ (sl + n) * i.bytes := Nat.mul_le_mul_right _ (by omega)
    have h2 : ((n * i.bytes : Nat) : Int) = (n : Int) * (i.bytes : Int) := by simp
    omega
  have h63' : ¬ (9223372036854775807 < ((sl : Int) + (n : Int))) := by omega
  by_cases hroom : sl + n ≤ sc
  · by_cases hn : n = 0
    · subst hn
      have hw0 : IntKind.i64.wrap 0 = 0 := by decide
      simp [Builtin.append_, run_underlying ht.is, run_underlying hI, run_underlying hS, sizeOf, typeInfo, hi, hnl, hn1, hw0, hsize, asInt, asIntOf, u8s]
      have : sl ≤ sc := hroom
      simp [this]
    · simp [Builtin.append_, run_underlying ht.is, run_underlying hI, run_underlying hS, sizeOf, typeInfo, hi, hnl, hn1, hw, hroom, h0, hb1, hsize, hn, asInt, asIntOf, zeroValue, hz, hzc]
  · have h48' : ¬ (281474976710656 < Builtin.nextslicecap (sl + n) sc * i.bytes) := by
      have := growslice_fits (bytes := i.bytes) (show sc < sl + n by omega) hbytes; omega
    have hn : ¬ n = 0 := by omega
    simp [Builtin.append_, run_underlying ht.is, run_underlying hI, run_underlying hS, sizeOf, typeInfo, hi, hnl, hw, hroom, h0, hb1, hsize, hn, h48', h63', asInt, asIntOf, zeroValue, hz, hzc, Question.forced]
    have hall : ∀ w', (Builtin.firstCells 1 n (.string zs)).run P w' = .ok (u8s (List.replicate n 0)).toArray w' := fun w' => by
      have := (show Src w' 1 (.string zs) n (u8s (List.replicate n 0)) from hs).first (P := P) (w' := w') (fun _ _ h => h) n (Nat.le_refl _)
      rwa [List.take_of_length_le (by rw [hs.1]; exact Nat.le_refl _)] at this
    congr 1
    funext a w2
    rw [hall w2]
    simp
/-- append(x, make([]byte, n)...): x a row of bytes. -/
theorem wpList_appI {w0 : World} {bs : List Nat} {L F : List Res} (S : St w0 bs w L) {a' : Value → Act} {x y : Operand} {t tI tS e : TypeId} {bytes n m : Nat} {oa : Option Addr} {c : Nat} {xs : List Value} (hI : P.underlying tI = some (.int .i64)) (hS : P.underlying tS = some .string)
    (k : ∀ v' w', (∃ oa c, v' = .slice oa (n + m) c ∧ n + m ≤ c) → St w0 bs w' (.row e 1 v' (n + m) (xs ++ u8s (List.replicate m 0)) :: F) → wpList P ops Q rest (a' v') w')
    (hw : Region.wanted o (yielded ops a.tmps) = true := by rfl) (ho : o.op = .call { callee := .builtin .append, args := #[x, y], argTypes := #[t, tI] } := by rfl)
    (ht : TSlice P t e := by infer_instance) (htx : TRow P tS := by infer_instance) (he : TElem P e (.int .u8 0) 1 bytes := by infer_instance)
    (hx : slot a x = some (.slice oa n c) := by rfl) (hy : slot a y = some (.int .i64 m) := by rfl)
    (hp : Pull (.row e 1 (.slice oa n c) n xs) L F := by repeat (first | exact Pull.head | apply Pull.tail))
    (hnc : n ≤ c := by omega) (h63 : n + m ≤ maxLen := by (unfold maxLen; first | omega | (simp; omega))) (hb : (n + m) * bytes ≤ 140737488355328 := by first | omega | (simp; omega))
    (hput : ∀ v', Put a o.dst v' (a' v') := by (intro _; exact put_of (by conv => lhs; simp only [List.set_cons_succ, List.set_cons_zero]))) : wpList P ops Q (o :: rest) a w := by
  have hown : w.ownsRow 0 e 1 (.slice oa n c) n xs := S.mem.2 _ hp.mem
  obtain ⟨zs, hs, heq⟩ := append_int_eq (P := P) (w := w) (t := t) (tI := tI) (tS := tS) (ty := o.type) hI hS oa n c m hnc h63 hb
  obtain ⟨v', w', hr, h1, h2, h3, h4⟩ := run_append_row (P := P) (w := w) (t := t) (tx := tS) (ty := o.type) (by decide) hown hs h63 hb
  have S' : St w0 bs w' (.row e 1 v' (n + m) (xs ++ u8s (List.replicate m 0)) :: F) := (S.perm hp.perm).set .head (Chg.grown h2) h1 h3
  have hsh : ∃ oa c, v' = .slice oa (n + m) c ∧ n + m ≤ c := by
    obtain ⟨oa, c, h5, h6, _⟩ := row_shape (by decide) (S'.mem.2 _ List.mem_cons_self)
    exact ⟨oa, c, h5, h6⟩
  refine wpList_run hw (w' := w') (v := v') ?_ (by rw [(hput _).is]; exact k _ _ hsh S')
  simp [execOp, ho, resolve, invoke, builtin, eval_slot hx, eval_slot hy, heq, hr]
end
end Go.Vil
