/- Regions that draw their order, where two operations that make memory may come in either order. -/
import Derived.Test.YtikjncdomgkcjaaDoorReg
namespace Go.Vil
open Go Go.RowKit
set_option linter.unusedVariables false

/-- In which order the operations are walked: those that only read, then one that makes memory, or one of two. -/
inductive Plan where
  | done (last : List Nat)
  | one (h : List Nat) (g : Nat) (p : Plan)
  | two (h : List Nat) (g1 : Nat) (p1 : Plan) (g2 : Nat) (p2 : Plan)
def Plan.len : Plan → Nat
  | .done last => last.length
  | .one h _ p => h.length + 1 + p.len
  | .two h _ p _ _ => h.length + 1 + p.len
section
variable {P : Program} {ops : Array Oper} {md : Region.Mode}
def planB (md : Region.Mode) (ops : Array Oper) (n : Nat) : Plan → Array Bool → Bool
  | .done last, listed => match quietB md ops n last listed with
    | some l => Region.seqB md ops (ops.size - n) n l
    | none => false
  | .one h g p, listed => match quietB md ops n h listed with
    | some l => decide (Region.ready md ops l = [g]) && decide (g < n) && planB md ops n p (l.setIfInBounds g true)
    | none => false
  | .two h g1 p1 g2 p2, listed => match quietB md ops n h listed with
    | some l => decide (Region.ready md ops l = [g1, g2]) && decide (g1 < n) && decide (g2 < n) && decide (p1.len = p2.len) && planB md ops n p1 (l.setIfInBounds g1 true) && planB md ops n p2 (l.setIfInBounds g2 true)
    | none => false
def walkP (P : Program) (ops : Array Oper) (Q : Act → World → Prop) : Plan → (World → Prop) → Act → World → Prop
  | .done last, C, a, w => walkG.qI P ops C last (fun a' => Q a' w) a
  | .one h g p, C, a, w => walkG.qI P ops C h (fun a' => stepG P ops g (fun a'' w'' => ∃ C' : World → Prop, C' w'' ∧ (∀ x, C' x → C x) ∧ walkP P ops Q p C' a'' w'') a' w) a
  | .two h g1 p1 g2 p2, C, a, w => walkG.qI P ops C h (fun a' => stepG P ops g1 (fun a'' w'' => ∃ C' : World → Prop, C' w'' ∧ (∀ x, C' x → C x) ∧ walkP P ops Q p1 C' a'' w'') a' w ∧
      stepG P ops g2 (fun a'' w'' => ∃ C' : World → Prop, C' w'' ∧ (∀ x, C' x → C x) ∧ walkP P ops Q p2 C' a'' w'') a' w) a

theorem anyG_plan {n : Nat} {Qt : Act → World → Prop} (hsel : Region.noSelect ops = true)
    (htw : ∀ listed, HeadInv md ops n listed → ∀ i, i < n → listed.getD i true = false → ∀ t, n ≤ t → t ∉ Region.ready md ops listed) :
    ∀ (p : Plan) (C : World → Prop) (listed : Array Bool) (a : Act) (w : World), HeadInv md ops n listed → planB md ops n p listed = true → C w → walkP P ops Qt p C a w →
      anyG P md ops n (fun listed a w => Region.seqB md ops (ops.size - n) n listed = true ∧ Qt a w) p.len C listed a w := by
  intro p
  induction p with
  | done last =>
    intro C listed a w inv hB hw h
    simp only [planB] at hB
    split at hB
    · rename_i l hl
      have := anyG_quiet (L := fun listed a w => Region.seqB md ops (ops.size - n) n listed = true ∧ Qt a w) hsel htw (fun _ _ _ hL => seqB_ready hL.1) hw 0 last listed l a inv hl h (fun a' _ hk => ⟨hB, hk⟩)
      simpa [Plan.len] using this
    · cases hB
  | one q g p ih =>
    intro C listed a w inv hB hw h
    simp only [planB] at hB
    split at hB
    · rename_i l hl
      simp only [Bool.and_eq_true, decide_eq_true_eq] at hB
      obtain ⟨⟨hr, hg⟩, hB'⟩ := hB
      have := anyG_quiet (L := fun listed a w => Region.seqB md ops (ops.size - n) n listed = true ∧ Qt a w) hsel htw (fun _ _ _ hL => seqB_ready hL.1) hw (1 + p.len) q listed l a inv hl h (fun a' inv' hk => by
        rw [Nat.add_comm]
        refine ⟨by rw [hr]; simp, fun i hi => ?_⟩
        rw [hr] at hi
        obtain rfl : i = g := by simpa using hi
        refine ⟨hg, stepG_mono (fun a'' w'' ⟨C', hC', hsub, hrest⟩ => ⟨hsub _ hC', anyG_mono _ hsub _ _ _ (ih C' _ a'' w'' (inv'.set (by rw [hr]; simp) hg) hB' hC' hrest)⟩) hk⟩)
      rw [Plan.len, Nat.add_assoc]
      exact this
    · cases hB
  | two q g1 p1 g2 p2 ih1 ih2 =>
    intro C listed a w inv hB hw h
    simp only [planB] at hB
    split at hB
    · rename_i l hl
      simp only [Bool.and_eq_true, decide_eq_true_eq] at hB
      obtain ⟨⟨⟨⟨⟨hr, hg1⟩, hg2⟩, hlen⟩, hB1⟩, hB2⟩ := hB
      have := anyG_quiet (L := fun listed a w => Region.seqB md ops (ops.size - n) n listed = true ∧ Qt a w) hsel htw (fun _ _ _ hL => seqB_ready hL.1) hw (1 + p1.len) q listed l a inv hl h (fun a' inv' hk => by
        rw [Nat.add_comm]
        refine ⟨by rw [hr]; simp, fun i hi => ?_⟩
        have hi0 := hi
        rw [hr] at hi
        simp only [List.mem_cons, List.not_mem_nil, or_false] at hi
        rcases hi with rfl | rfl
        · exact ⟨hg1, stepG_mono (fun a'' w'' ⟨C', hC', hsub, hrest⟩ => ⟨hsub _ hC', anyG_mono _ hsub _ _ _ (ih1 C' _ a'' w'' (inv'.set hi0 hg1) hB1 hC' hrest)⟩) hk.1⟩
        · rw [hlen]
          exact ⟨hg2, stepG_mono (fun a'' w'' ⟨C', hC', hsub, hrest⟩ => ⟨hsub _ hC', anyG_mono _ hsub _ _ _ (ih2 C' _ a'' w'' (inv'.set hi0 hg2) hB2 hC' hrest)⟩) hk.2⟩)
      rw [Plan.len, Nat.add_assoc]
      exact this
    · cases hB

theorem wp_regionP {id : Nat} {Q : Exit → Act → World → Prop} {a : Act} {w : World} {l : List Oper} {C : World → Prop} (n : Nat) (p : Plan) (hm : P.follows .mixedOrders = true)
    (hB : (Region.noSelect l.toArray && tailB .any l.toArray n && planB .any l.toArray n p (Array.replicate l.length false) && decide (p.len = n)) = true) (hC : C w.drew)
    (h : walkP P l.toArray (fun a w => wpList P l.toArray Q (l.drop n) a w) p C a w.drew) : (Code.region id l.toArray true).wp P Q a w := by
  simp only [Bool.and_eq_true, decide_eq_true_eq] at hB
  obtain ⟨⟨⟨hsel, ht⟩, ho⟩, hlen⟩ := hB
  have htw : ∀ listed, HeadInv .any l.toArray n listed → ∀ i, i < n → listed.getD i true = false → ∀ t, n ≤ t → t ∉ Region.ready .any l.toArray listed := by
    intro listed inv i hi hun t ht' hr
    simp only [tailB, Bool.or_eq_true, Bool.and_eq_true, decide_eq_true_eq] at ht
    rcases ht with rfl | ⟨⟨hn, hs⟩, hc⟩
    · obtain ⟨_, o, ho, _⟩ := mem_ready.1 hr
      have := (Array.getElem?_eq_some_iff.1 ho).1
      omega
    · exact tail_waits hs hc hn inv _ i rfl hi hun t ht' hr
  have hnl : n ≤ l.length := by
    simp only [tailB, Bool.or_eq_true, Bool.and_eq_true, decide_eq_true_eq] at ht
    rcases ht with h | ⟨⟨h, _⟩, _⟩
    · rw [h]; simp
    · have : n < l.length := by simpa using h
      omega
  have inv0 : HeadInv .any l.toArray n (Array.replicate l.length false) :=
    ⟨by simp, fun j oj _ hl => (by rw [getD_replicate_false] at hl; cases hl), fun t _ ht => getD_in (by simpa using ht) (getD_replicate_false _ _)⟩
  have H := anyG_plan (md := .any) hsel htw p C _ a w.drew inv0 ho hC h
  refine wp_region_any hm ?_
  have hdl : (l.drop n).length = l.toArray.size - n := by simp
  have := wpAny_of_anyG (Q' := Q) (g := l.toArray.size - n) (fun listed a' w' hL => by
    have := wpAny_of_seq (md := .any) (Q' := Q) (l.drop n) n listed a' w' (fun j => by simp [List.getElem?_drop]) (by rw [hdl]; exact hL.1) hL.2
    rwa [hdl] at this) _ _ _ _ _ H
  rw [hlen, show n + (l.toArray.size - n) = l.toArray.size by simp; omega] at this
  simpa using this

/-- The walk over things that are there. -/
def walkPS (P : Program) (l : List Oper) (w0 : World) (bs : List Nat) (Q : Act → World → Prop) : Plan → List Res → Act → World → Prop
  | .done last, L, a, w => wpQuiet P l.toArray (fun w' => ∃ p : StW w w0 bs L, w' = p.w) (fun a' => Q a' w) (pick l last) a
  | .one h g p, L, a, w => wpQuiet P l.toArray (fun w' => ∃ p : StW w w0 bs L, w' = p.w)
      (fun a' => wpList P l.toArray (Qn fun a'' w'' => ∃ L', St w0 bs w'' L' ∧ Sel L L' ∧ walkPS P l w0 bs Q p L' a'' w'') (pick l [g]) a' w) (pick l h) a
  | .two h g1 p1 g2 p2, L, a, w => wpQuiet P l.toArray (fun w' => ∃ p : StW w w0 bs L, w' = p.w)
      (fun a' => wpList P l.toArray (Qn fun a'' w'' => ∃ L', St w0 bs w'' L' ∧ Sel L L' ∧ walkPS P l w0 bs Q p1 L' a'' w'') (pick l [g1]) a' w ∧
        wpList P l.toArray (Qn fun a'' w'' => ∃ L', St w0 bs w'' L' ∧ Sel L L' ∧ walkPS P l w0 bs Q p2 L' a'' w'') (pick l [g2]) a' w) (pick l h) a
def fitsP (l : List Oper) : Plan → Bool
  | .done last => inB l last && quietOps (pick l last)
  | .one h g p => inB l h && quietOps (pick l h) && decide (g < l.length) && fitsP l p
  | .two h g1 p1 g2 p2 => inB l h && quietOps (pick l h) && decide (g1 < l.length) && decide (g2 < l.length) && fitsP l p1 && fitsP l p2
theorem walkP_of_walkPS {l : List Oper} {w0 : World} {bs : List Nat} {Q : Act → World → Prop} : ∀ (p : Plan) (L : List Res) (a : Act) (w : World), fitsP l p = true → St w0 bs w L →
    walkPS P l w0 bs Q p L a w → walkP P l.toArray Q p (fun w' => ∃ p : StW w w0 bs L, w' = p.w) a w := by
  intro p
  induction p with
  | done last =>
    intro L a w hf S h
    simp only [fitsP, Bool.and_eq_true] at hf
    exact qI_of_wpQuiet _ _ hf.1 hf.2 h
  | one q g p ih =>
    intro L a w hf S h
    simp only [fitsP, Bool.and_eq_true, decide_eq_true_eq] at hf
    obtain ⟨⟨⟨h1, h2⟩, h3⟩, h4⟩ := hf
    have hg : l[g]? = some l[g] := List.getElem?_eq_getElem h3
    refine qI_of_wpQuiet _ _ h1 h2 (wpQuiet_mono (fun a' hk => ?_) _ _ h)
    simp only [pick, hg] at hk
    refine stepG_mono (fun a'' w'' ⟨L', S', hs, hrest⟩ => ?_) (stepG_of_wpList (o := l[g]) (by simp [hg]) hk)
    exact ⟨fun w' => ∃ p : StW w'' w0 bs L', w' = p.w, ⟨⟨w'', .inl rfl⟩, rfl⟩, fun x hx => ((S'.of hx).sel hs).inSt w, ih L' a'' w'' h4 S' hrest⟩
  | two q g1 p1 g2 p2 ih1 ih2 =>
    intro L a w hf S h
    simp only [fitsP, Bool.and_eq_true, decide_eq_true_eq] at hf
    obtain ⟨⟨⟨⟨⟨h1, h2⟩, h3⟩, h3'⟩, h4⟩, h5⟩ := hf
    have hg1 : l[g1]? = some l[g1] := List.getElem?_eq_getElem h3
    have hg2 : l[g2]? = some l[g2] := List.getElem?_eq_getElem h3'
    refine qI_of_wpQuiet _ _ h1 h2 (wpQuiet_mono (fun a' hk => ?_) _ _ h)
    simp only [pick, hg1, hg2] at hk
    refine ⟨stepG_mono (fun a'' w'' ⟨L', S', hs, hrest⟩ => ?_) (stepG_of_wpList (o := l[g1]) (by simp [hg1]) hk.1), stepG_mono (fun a'' w'' ⟨L', S', hs, hrest⟩ => ?_) (stepG_of_wpList (o := l[g2]) (by simp [hg2]) hk.2)⟩
    · exact ⟨fun w' => ∃ p : StW w'' w0 bs L', w' = p.w, ⟨⟨w'', .inl rfl⟩, rfl⟩, fun x hx => ((S'.of hx).sel hs).inSt w, ih1 L' a'' w'' h4 S' hrest⟩
    · exact ⟨fun w' => ∃ p : StW w'' w0 bs L', w' = p.w, ⟨⟨w'', .inl rfl⟩, rfl⟩, fun x hx => ((S'.of hx).sel hs).inSt w, ih2 L' a'' w'' h5 S' hrest⟩
/-- A region that draws, by a plan. -/
theorem St.regionP {id : Nat} {Q : Exit → Act → World → Prop} {a : Act} {w w0 : World} {bs : List Nat} {L : List Res} {l : List Oper} (S : St w0 bs w L) (n : Nat) (p : Plan)
    (h : ∀ w', Chg [] w w' → St w0 bs w' L → walkPS P l w0 bs (fun a w => wpList P l.toArray Q (l.drop n) a w) p L a w')
    (hf : fitsP l p = true := by kernel_rfl)
    (hm : P.follows .mixedOrders = true := by kernel_rfl)
    (hB : (Region.noSelect l.toArray && tailB .any l.toArray n && planB .any l.toArray n p (Array.replicate l.length false) && decide (p.len = n)) = true := by kernel_rfl) : (Code.region id l.toArray true).wp P Q a w :=
  wp_regionP (C := fun w' => ∃ p : StW w.drew w0 bs L, w' = p.w) n p hm hB ⟨⟨w.drew, .inl rfl⟩, rfl⟩ (walkP_of_walkPS p L a w.drew hf S.drew (h _ ⟨rfl, rfl, rfl, Nat.le_refl _, fun _ _ _ => rfl⟩ S.drew))
end
end Go.Vil
