/- Scripts of queues that came in; what is asked of scripts that are small. -/
import Derived.Test.YtkfkcinkkgdebaaOpen2
import Derived.Test.YtkfkcinkkgdebaaPf
import Derived.Test.YtkfkcinkkgdebaaLv
namespace Go.Proofs.Ytkfkcinkkgdebaa
open Go Go.RowKit Go.ChangeShapes Go.WideShapes Go.ChangeAt Go.Deep Go.Vil
set_option linter.unusedVariables false
set_option linter.unusedSimpArgs false
set_option maxRecDepth 100000

instance : Inhabited QOp := ⟨⟨0, [], 0⟩⟩
/-- A script of operations that came in. -/
theorem open_qops {H : Type} {enc : TypeId × Value → H} {w : World} {base base' : Nat} {spare : Nat → Bool} {held : Bool} {r : Reach} {v : Value} {d : DataW H} {ps : List MemPlace}
    (hval : Value.okWide Try.prog w r base' 22 v) (hd : DataW.Trod enc Try.prog w base spare held 22 v d ps) : ∃ ops : List QOp, Arr OpV 3 w v ops := by
  refine open_arr Try.underlying22 (e := 28) (by kernel_rfl) (by decide) ?_ (fun a cs h => OpV.one h) hval hd
  intro fuel cs x hl hx
  have c3 : Try.prog.cellsOf 3 = 1 := by kernel_rfl
  have c26 : Try.prog.cellsOf 26 = 1 := by kernel_rfl
  match cs, hl with
  | [c0, c1, c2], _ =>
    obtain ⟨y0, y1, y2, n, rfl, _, t0, t1, t2⟩ := trod_struct3 Try.underlying28 hx
    simp only [c3, c26, List.drop, List.take] at t0 t1 t2
    obtain ⟨k, hk, _, _⟩ := DataW.trod_int Try.underlying3 t0
    obtain ⟨i, hi, _, _⟩ := DataW.trod_int Try.underlying3 t2
    obtain ⟨m, l, h1, h2, a, c, h3, h4, h5⟩ := open_bytesC Try.underlying26 Try.underlying5 (by kernel_rfl) t1
    simp only [List.cons.injEq, and_true] at hk hi
    subst hk hi h3
    exact ⟨⟨k, l, i⟩, a, m, c, rfl, h1, h5⟩

theorem okScript_askedA (rest : List QOp) (hrest : ∀ s x, okScript s x rest) : ∀ (ops : List QOp) (s : SL) (x : Qu), okScript s x (asked ops ++ rest)
  | [], s, x => hrest s x
  | op :: ops, s, x => by
    have hc : asked (op :: ops) ++ rest = (if op.kind = 0 then [op, ⟨6, [], 0⟩] else if op.kind = 1 ∨ op.kind = 2 ∨ op.kind = 5 ∨ op.kind = 6 ∨ op.kind = 7 then [op] else []) ++ (asked ops ++ rest) := by simp [asked]
    rw [hc]
    have h6 : ∀ (s : SL) (x : Qu), okScript s x (⟨6, [], 0⟩ :: (asked ops ++ rest)) := by
      intro s x
      unfold okScript
      rw [if_neg (by simp), if_neg (by simp)]
      exact ⟨by simp, by simp, okScript_askedA rest hrest ops _ _⟩
    by_cases h0 : op.kind = 0
    · rw [if_pos h0]
      show okScript s x (op :: ⟨6, [], 0⟩ :: (asked ops ++ rest))
      rw [okScript, if_neg (by rw [h0]; simp), if_pos h0]
      refine ⟨⟨_, _, rfl, rfl⟩, ?_⟩
      split
      · exact h6 _ _
      · exact h6 _ _
    · rw [if_neg h0]
      by_cases h1 : op.kind = 1 ∨ op.kind = 2 ∨ op.kind = 5 ∨ op.kind = 6 ∨ op.kind = 7
      · rw [if_pos h1]
        show okScript s x (op :: (asked ops ++ rest))
        rw [okScript]
        split
        · trivial
        · exact ⟨by omega, fun h => by omega, okScript_askedA rest hrest ops _ _⟩
      · rw [if_neg h1]
        exact okScript_askedA rest hrest ops s x
theorem okScript_asked (ops : List QOp) (s : SL) (x : Qu) : okScript s x (asked ops) := by
  have := okScript_askedA [] (fun _ _ => trivial) ops s x
  rwa [List.append_nil] at this

/-- A list without entries beside a new queue. -/
theorem rel_fresh (cap most : Nat) : Rel ⟨[], cap, most, false, false⟩ (Qu.fresh cap most) := ⟨rfl, rfl, fun _ => ⟨rfl, (fun b hb => by cases hb), (fun b hb => by cases hb)⟩, (fun h => by cases h)⟩
theorem le_total {l : List QOp} {op : QOp} (h : op ∈ l) : op.data.length ≤ total l := by
  induction l with
  | nil => cases h
  | cons a l ih =>
    have e : total (a :: l) = a.data.length + total l := by simp [total]
    cases h with
    | head => omega
    | tail _ h => have := ih h; omega
/-- What is known of a script that is small. -/
structure Asked (cap most : Nat) (q : List QOp) : Prop where
  cap : cap ≤ 4096
  most : most ≤ 8192
  len : q.length ≤ 120
  total : total q ≤ 8192
  plain : ∀ op ∈ q, Plain6 op
  asks : asks q ≤ 8432
theorem asked_of {cap most : Int} {ops : List QOp} (h : smallQ cap most ops) : (0 ≤ cap ∧ 0 ≤ most) ∧ Asked cap.toNat most.toNat (asked ops) := by
  obtain ⟨h1, h2, h3, h4, h5, h6⟩ := h
  have hl := asked_length ops
  have ht := asked_total ops
  have hd : ∀ op ∈ ops, op.data.length < 16382 := by
    intro op hop
    have := le_total hop
    omega
  have hp := asked_plain ops hd
  have ha := asks_le (asked ops) (fun op hop => (hp op hop).2)
  exact ⟨⟨h1, h3⟩, by omega, by omega, by omega, by omega, hp, by omega⟩
theorem Asked.fine {cap most : Nat} {q : List QOp} (h : Asked cap most q) : qFine (Qu.fresh cap most) q ∧ (qEnd (Qu.fresh cap most) q).Good ∧ (qEnd (Qu.fresh cap most) q).Bnd cap (Go.Proofs.Ytkfkcinkkgdebaa.asks q) ∧ (qEnd (Qu.fresh cap most) q).max = most := by
  obtain ⟨h1, h2, h3, h4⟩ := fine_of q (Qu.fresh cap most) cap 0 h.plain (Qu.fresh_good cap most) (Qu.fresh_bnd cap most) (by have := h.cap; omega) (by show most ≤ _; have := h.most; omega) (by have := h.asks; omega)
  exact ⟨h1, h2, by simpa using h3, h4⟩
theorem Asked.kinds {cap most : Nat} {q : List QOp} (h : Asked cap most q) : ∀ op ∈ q, op.kind ≤ 7 := fun op hop => by have := (h.plain op hop).1; omega
end Go.Proofs.Ytkfkcinkkgdebaa
