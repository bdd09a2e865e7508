/- A script of a queue that is small: it stays fine. -/
import Derived.Test.YtkfkcinkkgdebaaRel2
import Derived.Test.YtkfkcinkkgdebaaQm
set_option linter.unusedVariables false
namespace Go.Proofs.Ytkfkcinkkgdebaa
open Go.Vil Go.Vil.Qu

/-- What the pushes of a script need. -/
def asks : List QOp → Nat
  | [] => 0
  | op :: l => (if op.kind = 0 then needs op.data.length else 0) + asks l
theorem asks_append (a b : List QOp) : asks (a ++ b) = asks a + asks b := by
  induction a with
  | nil => simp [asks]
  | cons op a ih => simp only [List.cons_append, asks, ih]; omega
theorem asks_le (l : List QOp) (h : ∀ op ∈ l, op.data.length < 16382) : asks l ≤ total l + 2 * l.length := by
  induction l with
  | nil => simp [asks, total]
  | cons op l ih =>
    have h1 := ih fun o ho => h o (List.mem_cons_of_mem _ ho)
    have h2 := h op List.mem_cons_self
    have h3 : total (op :: l) = op.data.length + total l := by simp [total]
    have h4 : needs op.data.length ≤ op.data.length + 2 := by unfold needs hsz; split <;> (try split) <;> omega
    simp only [asks, List.length_cons]
    split <;> omega
theorem push_max (x : Qu) (d : List UInt8) : (x.push d).1.max = x.max := by
  have hpc := push_case x d
  generalize x.push d = r at hpc ⊢
  cases hpc <;> (first | rfl | (simp only [Qu.put]; split <;> rfl))
theorem pop_max (x : Qu) : x.pop.max = x.max := by
  unfold Qu.pop
  split
  · rfl
  · split <;> rfl
/-- What an operation keeps. -/
theorem step_keeps {x : Qu} {c0 T : Nat} (hg : x.Good) (hb : x.Bnd c0 T) (hs : x.cap < 4294967296) (op : QOp) (hd : op.data.length < 16382) :
    (qStep x op).1.Good ∧ (qStep x op).1.Bnd c0 (T + if op.kind = 0 then needs op.data.length else 0) ∧ (qStep x op).1.max = x.max := by
  unfold qStep
  by_cases h0 : op.kind = 0
  · rw [if_pos h0, if_pos h0]
    have h1 := push_good hg (d := op.data) (by omega) hs
    have h2 := push_bnd hg hb op.data
    have h3 := push_max x op.data
    cases hp : x.push op.data with
    | mk x' o =>
      rw [hp] at h1 h2 h3
      cases o <;> exact ⟨h1, h2, h3⟩
  · rw [if_neg h0, if_neg h0, Nat.add_zero]
    split
    · cases ho : x.old with
      | nil => exact ⟨hg, hb, rfl⟩
      | cons b l => exact ⟨pop_good hg, pop_bnd hg hb, pop_max x⟩
    split
    · cases ho : x.old with
      | nil => exact ⟨hg, hb, rfl⟩
      | cons b l => exact ⟨hg, hb, rfl⟩
    split
    · split <;> exact ⟨hg, hb, rfl⟩
    split
    · split <;> exact ⟨hg, hb, rfl⟩
    split
    · exact ⟨hg, hb, rfl⟩
    split
    · exact ⟨hg, hb, rfl⟩
    split
    · exact ⟨reset_good x, reset_bnd hb, rfl⟩
    split
    · exact ⟨hg, hb, rfl⟩
    · exact ⟨hg, hb, rfl⟩
/-- The operations that are asked. -/
def Plain6 (op : QOp) : Prop := (op.kind = 0 ∨ op.kind = 1 ∨ op.kind = 2 ∨ op.kind = 5 ∨ op.kind = 6 ∨ op.kind = 7) ∧ op.data.length < 16382
theorem newCap_some (x : Qu) (need : Nat) : x.newCap need ≤ 2 * x.cap + 2 * need ∨ x.newCap need = x.max := by
  unfold Qu.newCap
  simp only
  split <;> split <;> omega
theorem Plain6.legal {x : Qu} {op : QOp} (h : Plain6 op) (hc : x.cap ≤ 268435456) (hm : x.max ≤ 1073741824) : qLegal x op := by
  obtain ⟨hk, hd⟩ := h
  have hn : needs op.data.length ≤ op.data.length + 5 := by have := hsz_le op.data.length; unfold needs; omega
  have hnc := newCap_some x (needs op.data.length)
  refine ⟨by omega, by omega, fun _ => ⟨hd, by omega⟩, fun h => ?_, fun h => ?_⟩ <;> omega
theorem fine_of : ∀ (ops : List QOp) (x : Qu) (c0 T : Nat), (∀ op ∈ ops, Plain6 op) → x.Good → x.Bnd c0 T → c0 ≤ 65536 → x.max ≤ 65536 → T + asks ops ≤ 60000 →
    qFine x ops ∧ (qEnd x ops).Good ∧ (qEnd x ops).Bnd c0 (T + asks ops) ∧ (qEnd x ops).max = x.max
  | [], x, c0, T, _, hg, hb, _, _, _ => ⟨trivial, hg, hb, rfl⟩
  | op :: ops, x, c0, T, hp, hg, hb, hc0, hm, hT => by
    have h1 := hp op List.mem_cons_self
    have hcap := hb.cap
    simp only [asks] at hT
    obtain ⟨g1, g2, g3⟩ := step_keeps hg hb (by omega) op h1.2
    obtain ⟨i1, i2, i3, i4⟩ := fine_of ops _ c0 _ (fun o ho => hp o (List.mem_cons_of_mem _ ho)) g1 g2 hc0 (by rw [g3]; exact hm) (by omega)
    refine ⟨⟨h1.legal (by omega) (by omega), by omega, by omega, i1⟩, i2, ?_, i4.trans g3⟩
    have : T + asks (op :: ops) = T + (if op.kind = 0 then needs op.data.length else 0) + asks ops := by simp only [asks]; omega
    rw [this]; exact i3
theorem qRun_append : ∀ (a b : List QOp) (x : Qu), qRun x (a ++ b) = qRun x a ++ qRun (qEnd x a) b
  | [], b, x => rfl
  | op :: a, b, x => by simp only [List.cons_append, qRun, qEnd, qRun_append a b]
theorem qEnd_append : ∀ (a b : List QOp) (x : Qu), qEnd x (a ++ b) = qEnd (qEnd x a) b
  | [], b, x => rfl
  | op :: a, b, x => by simp only [List.cons_append, qEnd, qEnd_append a b]
theorem qFine_append : ∀ (a b : List QOp) (x : Qu), qFine x (a ++ b) ↔ qFine x a ∧ qFine (qEnd x a) b
  | [], b, x => by simp [qFine, qEnd]
  | op :: a, b, x => by simp only [List.cons_append, qFine, qEnd, qFine_append a b, and_assoc]
theorem qRun_length : ∀ (a : List QOp) (x : Qu), (qRun x a).length = a.length
  | [], x => rfl
  | op :: a, x => by simp [qRun, qRun_length a]

/-- A script with the capacity asked for behind each push, and without operations that are none. -/
def asked (ops : List QOp) : List QOp := ops.flatMap fun op => if op.kind = 0 then [op, ⟨6, [], 0⟩] else if op.kind = 1 ∨ op.kind = 2 ∨ op.kind = 5 ∨ op.kind = 6 ∨ op.kind = 7 then [op] else []
theorem asked_append (a b : List QOp) : asked (a ++ b) = asked a ++ asked b := by simp [asked]
theorem asked_length (l : List QOp) : (asked l).length ≤ 2 * l.length := by
  induction l with
  | nil => simp [asked]
  | cons op l ih =>
    have : asked (op :: l) = (if op.kind = 0 then [op, ⟨6, [], 0⟩] else if op.kind = 1 ∨ op.kind = 2 ∨ op.kind = 5 ∨ op.kind = 6 ∨ op.kind = 7 then [op] else []) ++ asked l := by simp [asked]
    rw [this, List.length_append, List.length_cons]
    split
    · simp; omega
    · split <;> simp <;> omega
theorem asked_total (l : List QOp) : total (asked l) ≤ total l := by
  induction l with
  | nil => simp [asked]
  | cons op l ih =>
    have h1 : asked (op :: l) = (if op.kind = 0 then [op, ⟨6, [], 0⟩] else if op.kind = 1 ∨ op.kind = 2 ∨ op.kind = 5 ∨ op.kind = 6 ∨ op.kind = 7 then [op] else []) ++ asked l := by simp [asked]
    have h2 : ∀ a b : List QOp, total (a ++ b) = total a + total b := fun a b => by simp [total]
    have h3 : total (op :: l) = op.data.length + total l := by simp [total]
    rw [h1, h2, h3]
    split
    · simp [total] at ih ⊢; omega
    · split
      · simp [total] at ih ⊢; omega
      · simp [total] at ih ⊢; omega
theorem asked_plain (l : List QOp) (h : ∀ op ∈ l, op.data.length < 16382) : ∀ op ∈ asked l, Plain6 op := by
  intro op ho
  unfold asked at ho
  obtain ⟨q, hq, ho⟩ := List.mem_flatMap.1 ho
  have hd := h q hq
  split at ho
  · rename_i h0
    simp at ho
    rcases ho with rfl | rfl
    · exact ⟨.inl h0, hd⟩
    · exact ⟨by simp, by simp⟩
  · split at ho
    · rename_i h1
      simp at ho
      subst ho
      exact ⟨.inr h1, hd⟩
    · cases ho
end Go.Proofs.Ytkfkcinkkgdebaa
