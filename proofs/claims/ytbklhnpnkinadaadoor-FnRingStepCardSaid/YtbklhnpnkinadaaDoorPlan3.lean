/- Regions that draw their order, in which what was read is turned later: up to the first operation that turns it, all that reads it is done. -/
import Derived.Test.YtbklhnpnkinadaaDoorPlan2
namespace Go.Vil
open Go Go.RowKit
set_option linter.unusedVariables false
section
variable {P : Program} {ops : Array Oper} {md : Region.Mode}
/-- The first so many operations, in whatever order, each world in the class of what is done. -/
def anyH (P : Program) (md : Region.Mode) (ops : Array Oper) (n : Nat) (C : Array Bool → World → Prop) (L : Array Bool → Act → World → Prop) : Nat → Array Bool → Act → World → Prop
  | 0, listed, a, w => L listed a w
  | f + 1, listed, a, w => Region.ready md ops listed ≠ [] ∧ ∀ i ∈ Region.ready md ops listed, i < n ∧ stepG P ops i (fun a' w' => C (listed.setIfInBounds i true) w' ∧ anyH P md ops n C L f (listed.setIfInBounds i true) a' w') a w
theorem wpAny_of_anyH {n g : Nat} {C : Array Bool → World → Prop} {L : Array Bool → Act → World → Prop} {Q' : Exit → Act → World → Prop} (hL : ∀ listed a w, L listed a w → wpAny P md ops Q' g listed a w) :
    ∀ (f : Nat) (listed : Array Bool) (a : Act) (w : World), anyH P md ops n C L f listed a w → wpAny P md ops Q' (f + g) listed a w
  | 0, listed, a, w, h => by rw [Nat.zero_add]; exact hL _ _ _ h
  | f + 1, listed, a, w, h => by
    rw [show f + 1 + g = (f + g) + 1 by omega]
    exact ⟨fun h0 => absurd h0 h.1, fun i hi => wpOp_of_stepG (stepG_mono (fun a' w' h' => wpAny_of_anyH hL f _ a' w' h'.2) (h.2 i hi).2)⟩
theorem anyH_first {n i : Nat} {oi : Oper} {v : Value} {C : Array Bool → World → Prop} {L : Array Bool → Act → World → Prop} (hi : ops[i]? = some oi) (hsel : ∀ (j : Nat) (o : Oper) cs b, ops[j]? = some o → o.op ≠ .select cs b)
    (htw : ∀ listed, HeadInv md ops n listed → ∀ i, i < n → listed.getD i true = false → ∀ t, n ≤ t → t ∉ Region.ready md ops listed) (hin : i < n)
    (hdone : ∀ listed a w, L listed a w → ∀ j ∈ Region.ready md ops listed, n ≤ j) (hCi : ∀ (listed : Array Bool) (w : World), C (listed.setIfInBounds i true) w ↔ C listed w) :
    ∀ (f : Nat) (listed : Array Bool) (a : Act) (w : World), HeadInv md ops n listed →
      (∀ j oj, ops[j]? = some oj → j ≠ i → listed.getD j true = false → (∀ e ∈ oj.after, Region.binds md e = true → e.on ≠ i) → oi.apart ops oj = true) →
      i ∈ Region.ready md ops listed → C listed w → (∀ l', HeadInv md ops n l' → l'.getD i true = false → Still P ops (C l') oi v a) →
      anyH P md ops n C L f (listed.setIfInBounds i true) (a.put oi.dst v) w → anyH P md ops n C L (f + 1) listed a w := by
  intro f
  induction f with
  | zero =>
    intro listed a w inv _ hr hw hy H
    have hun := (mem_ready.1 hr).1
    refine ⟨fun h => (by rw [h] at hr; cases hr), fun j hj => ?_⟩
    have hjn : j < n := by
      rcases Nat.lt_or_ge j n with h | h
      · exact h
      · exact absurd hj (htw listed inv i hin hun j h)
    refine ⟨hjn, ?_⟩
    by_cases hji : j = i
    · subst hji; exact stepG_of_still hi hw (hy _ inv hun) ⟨(hCi _ _).2 hw, H⟩
    · have := hdone _ _ _ H j (ready_mono hj hji)
      omega
  | succ f ih =>
    intro listed a w inv hfree hr hw hy H
    have hun := (mem_ready.1 hr).1
    refine ⟨fun h => (by rw [h] at hr; cases hr), fun j hj => ?_⟩
    have hjn : j < n := by
      rcases Nat.lt_or_ge j n with h | h
      · exact h
      · exact absurd hj (htw listed inv i hin hun j h)
    refine ⟨hjn, ?_⟩
    by_cases hji : j = i
    · subst hji; exact stepG_of_still hi hw (hy _ inv hun) ⟨(hCi _ _).2 hw, H⟩
    · obtain ⟨hjun, oj, hoj, hall⟩ := mem_ready.1 hj
      have hnot : ∀ e ∈ oj.after, Region.binds md e = true → e.on ≠ i := fun e he hb heq => by
        have h1 := hall e he hb
        rw [heq, getD_both hun] at h1
        cases h1
      have hap := hfree j oj hoj hji hjun hnot
      obtain ⟨_, _, hap3⟩ := Oper.apart_spec hap
      have hfree' : ∀ k ok, ops[k]? = some ok → k ≠ i → (listed.setIfInBounds j true).getD k true = false →
          (∀ e ∈ ok.after, Region.binds md e = true → e.on ≠ i) → oi.apart ops ok = true := fun k ok hk hki hun hno => by
        refine hfree k ok hk hki ?_ hno
        by_cases hjk : j = k
        · subst hjk; exact hjun
        · rw [getD_set_ne true hjk] at hun; exact hun
      refine stepG_mono (fun a' w' h' => ?_) (stepG_put hoj hap (fun cs b => hsel j oj cs b hoj) (H.2 j (ready_mono hj hji)).2)
      obtain ⟨⟨u, D, rfl⟩, hCw', hrest⟩ := h'
      rw [Array.setIfInBounds_comm _ _ (Ne.symm hji)] at hCw'
      have hCw2 := (hCi _ _).1 hCw'
      refine ⟨hCw2, ih (listed.setIfInBounds j true) _ w' (inv.set hj hjn) hfree' (ready_mono hr (Ne.symm hji)) hCw2 (fun l' inv' hun' => (hy l' inv' hun').of_same ?_ ?_) ?_⟩
      · have e1 := execOp_put oi (fun cs b => hsel i oi cs b hi) ({ a with defers := D } : Act) oj.dst u hap3
        have e2 : ({ a with defers := D } : Act).eval = a.eval := by funext x; cases x <;> rfl
        rw [e1, e2]
      · exact wanted_put oi ({ a with defers := D } : Act) oj.dst u hap3
      rw [Array.setIfInBounds_comm _ _ hji]
      exact hrest

/-- Up to the operation that turns things the worlds are in a class. -/
def upTo (gs : Nat) (C1 : World → Prop) (listed : Array Bool) (w : World) : Prop := listed.getD gs false = false → C1 w
theorem upTo_ne {gs i : Nat} {C1 : World → Prop} (h : i ≠ gs) (listed : Array Bool) (w : World) : upTo gs C1 (listed.setIfInBounds i true) w ↔ upTo gs C1 listed w := by
  unfold upTo
  rw [getD_set_ne false h]
def waits (md : Region.Mode) (ops : Array Oper) (gs k : Nat) : Bool := match ops[gs]? with | some o => o.after.any (fun e => Region.binds md e && decide (e.on = k)) | none => false
/-- What only reads: with the mark, it reads what is turned later, and that waits for it. -/
def quietHB (md : Region.Mode) (ops : Array Oper) (n gs : Nat) : List (Nat × Bool) → Array Bool → Option (Array Bool)
  | [], listed => some listed
  | (k, b) :: l, listed => if (Region.ready md ops listed).contains k && Region.free md ops listed k && decide (k < n) && decide (k ≠ gs) && (!b || waits md ops gs k) then quietHB md ops n gs l (listed.setIfInBounds k true) else none
def qH (P : Program) (ops : Array Oper) (C1 : World → Prop) : List (Nat × Bool) → (Act → Prop) → Act → Prop
  | [], K, a => K a
  | (i, b) :: l, K, a => ∃ o v, ops[i]? = some o ∧ Still P ops (if b then C1 else fun _ => True) o v a ∧ qH P ops C1 l K (a.put o.dst v)
theorem Still.weak {C C' : World → Prop} {o : Oper} {v : Value} {a : Act} (h : Still P ops C o v a) (hc : ∀ w, C' w → C w) : Still P ops C' o v a := by
  rcases h with ⟨h1, h2⟩ | h
  · exact .inl ⟨h1, fun w hw => h2 w (hc w hw)⟩
  · exact .inr h
theorem anyH_quiet {n gs : Nat} {C1 : World → Prop} {L : Array Bool → Act → World → Prop} (hsel : Region.noSelect ops = true)
    (htw : ∀ listed, HeadInv md ops n listed → ∀ i, i < n → listed.getD i true = false → ∀ t, n ≤ t → t ∉ Region.ready md ops listed)
    (hdone : ∀ listed a w, L listed a w → ∀ j ∈ Region.ready md ops listed, n ≤ j) {K : Act → Prop} {w : World} (f : Nat) :
    ∀ (h : List (Nat × Bool)) (listed l : Array Bool) (a : Act), HeadInv md ops n listed → upTo gs C1 listed w → quietHB md ops n gs h listed = some l → qH P ops C1 h K a →
      (∀ a', HeadInv md ops n l → upTo gs C1 l w → K a' → anyH P md ops n (upTo gs C1) L f l a' w) → anyH P md ops n (upTo gs C1) L (h.length + f) listed a w
  | [], listed, l, a, inv, hw, hB, hq, hk => by
    simp only [quietHB, Option.some.injEq] at hB
    subst hB
    simpa using hk a inv hw hq
  | (i, b) :: h, listed, l, a, inv, hw, hB, hq, hk => by
    simp only [quietHB] at hB
    split at hB
    · rename_i hc
      simp only [Bool.and_eq_true, decide_eq_true_eq] at hc
      obtain ⟨⟨⟨⟨hr, hf⟩, hin⟩, hne⟩, hdep⟩ := hc
      obtain ⟨o, v, hi, hst, hrest⟩ := hq
      have hr' : i ∈ Region.ready md ops listed := by simpa using hr
      rw [show ((i, b) :: h).length + f = (h.length + f) + 1 by simp; omega]
      refine anyH_first hi (Region.noSelect_spec hsel) htw hin hdone (upTo_ne hne) (h.length + f) listed a w inv (Region.free_spec hi hf) hr' hw (fun l' inv' hun' => ?_)
        (anyH_quiet hsel htw hdone f h _ l _ (inv.set hr' hin) ((upTo_ne hne _ _).2 hw) hB hrest hk)
      cases b with
      | false => exact hst.weak fun _ _ => trivial
      | true =>
        refine hst.weak fun w' hw' => ?_
        show C1 w'
        refine hw' ?_
        simp only [Bool.not_true, Bool.false_or, waits] at hdep
        cases hgs : ops[gs]? with
        | none => rw [hgs] at hdep; cases hdep
        | some og =>
          rw [hgs] at hdep
          simp only [Array.any_eq_true', Bool.and_eq_true, decide_eq_true_eq] at hdep
          obtain ⟨e, he, hb, heq⟩ := hdep
          cases hg : l'.getD gs false with
          | false => rfl
          | true =>
            have h1 := inv'.closed gs og hgs hg e he hb
            rw [heq, getD_both hun'] at h1
            cases h1
    · cases hB
/-- In which order the operations are walked: up to the one that turns things, and behind it. -/
inductive PlanH where
  | one (h : List (Nat × Bool)) (g : Nat) (p : PlanH)
  | two (h : List (Nat × Bool)) (g1 : Nat) (p1 : PlanH) (g2 : Nat) (p2 : PlanH)
  | turn (h : List (Nat × Bool)) (segs : List (List Nat × Nat)) (last : List Nat)
def PlanH.len : PlanH → Nat
  | .one h _ p => h.length + 1 + p.len
  | .two h _ p _ _ => h.length + 1 + p.len
  | .turn h segs last => h.length + 1 + lengthG segs last
def planHB (md : Region.Mode) (ops : Array Oper) (n gs : Nat) : PlanH → Array Bool → Bool
  | .one h g p, listed => match quietHB md ops n gs h listed with
    | some l => decide (Region.ready md ops l = [g]) && decide (g < n) && decide (g ≠ gs) && planHB md ops n gs p (l.setIfInBounds g true)
    | none => false
  | .two h g1 p1 g2 p2, listed => match quietHB md ops n gs h listed with
    | some l => decide (Region.ready md ops l = [g1, g2]) && decide (g1 < n) && decide (g2 < n) && decide (g1 ≠ gs) && decide (g2 ≠ gs) && decide (p1.len = p2.len) && planHB md ops n gs p1 (l.setIfInBounds g1 true) && planHB md ops n gs p2 (l.setIfInBounds g2 true)
    | none => false
  | .turn h segs last, listed => match quietHB md ops n gs h listed with
    | some l => decide (Region.ready md ops l = [gs]) && decide (gs < n) && orderB md ops n segs last (l.setIfInBounds gs true)
    | none => false
def walkH (P : Program) (ops : Array Oper) (C1 : World → Prop) (gs : Nat) (Q : Act → World → Prop) : PlanH → Act → World → Prop
  | .one h g p, a, w => qH P ops C1 h (fun a' => stepG P ops g (fun a'' w'' => C1 w'' ∧ walkH P ops C1 gs Q p a'' w'') a' w) a
  | .two h g1 p1 g2 p2, a, w => qH P ops C1 h (fun a' => stepG P ops g1 (fun a'' w'' => C1 w'' ∧ walkH P ops C1 gs Q p1 a'' w'') a' w ∧ stepG P ops g2 (fun a'' w'' => C1 w'' ∧ walkH P ops C1 gs Q p2 a'' w'') a' w) a
  | .turn h segs last, a, w => qH P ops C1 h (fun a' => stepG P ops gs (fun a'' w'' => walkG P ops Q segs last (fun _ => True) a'' w'') a' w) a
theorem anyH_of_anyG {n gs : Nat} {C1 C : World → Prop} {L : Array Bool → Act → World → Prop} : ∀ (f : Nat) (listed : Array Bool) (a : Act) (w : World), listed.getD gs false = true → anyG P md ops n L f C listed a w → anyH P md ops n (upTo gs C1) L f listed a w
  | 0, _, _, _, _, h => h
  | f + 1, listed, a, w, hg, h => ⟨h.1, fun i hi => ⟨(h.2 i hi).1, stepG_mono (fun a' w' h' => by
      have h2 : (listed.setIfInBounds i true).getD gs false = true := by
        by_cases hig : i = gs
        · subst hig
          rcases Nat.lt_or_ge i listed.size with hl | hl
          · simp [hl]
          · simp [hl] at hg
        · rw [getD_set_ne false hig]; exact hg
      exact ⟨fun hc => (by rw [h2] at hc; cases hc), anyH_of_anyG f _ _ _ h2 h'.2⟩) (h.2 i hi).2⟩⟩
theorem anyH_plan {n gs : Nat} {C1 : World → Prop} {Qt : Act → World → Prop} (hsel : Region.noSelect ops = true)
    (htw : ∀ listed, HeadInv md ops n listed → ∀ i, i < n → listed.getD i true = false → ∀ t, n ≤ t → t ∉ Region.ready md ops listed) :
    ∀ (p : PlanH) (listed : Array Bool) (a : Act) (w : World), HeadInv md ops n listed → planHB md ops n gs p listed = true → upTo gs C1 listed w → walkH P ops C1 gs Qt p a w →
      anyH P md ops n (upTo gs C1) (fun listed a w => Region.seqB md ops (ops.size - n) n listed = true ∧ Qt a w) p.len listed a w := by
  intro p
  induction p with
  | one q g p ih =>
    intro listed a w inv hB hw h
    simp only [planHB] at hB
    split at hB
    · rename_i l hl
      simp only [Bool.and_eq_true, decide_eq_true_eq] at hB
      obtain ⟨⟨⟨hr, hg⟩, hne⟩, hB'⟩ := hB
      have := anyH_quiet (L := fun listed a w => Region.seqB md ops (ops.size - n) n listed = true ∧ Qt a w) hsel htw (fun _ _ _ hL => seqB_ready hL.1) (1 + p.len) q listed l a inv hw hl h (fun a' inv' hw' hk => by
        rw [Nat.add_comm]
        refine ⟨by rw [hr]; simp, fun i hi => ?_⟩
        rw [hr] at hi
        obtain rfl : i = g := by simpa using hi
        exact ⟨hg, stepG_mono (fun a'' w'' ⟨hC', hrest⟩ => ⟨fun _ => hC', ih _ a'' w'' (inv'.set (by rw [hr]; simp) hg) hB' (fun _ => hC') hrest⟩) hk⟩)
      rw [PlanH.len, Nat.add_assoc]
      exact this
    · cases hB
  | two q g1 p1 g2 p2 ih1 ih2 =>
    intro listed a w inv hB hw h
    simp only [planHB] at hB
    split at hB
    · rename_i l hl
      simp only [Bool.and_eq_true, decide_eq_true_eq] at hB
      obtain ⟨⟨⟨⟨⟨⟨⟨hr, hg1⟩, hg2⟩, hn1⟩, hn2⟩, hlen⟩, hB1⟩, hB2⟩ := hB
      have := anyH_quiet (L := fun listed a w => Region.seqB md ops (ops.size - n) n listed = true ∧ Qt a w) hsel htw (fun _ _ _ hL => seqB_ready hL.1) (1 + p1.len) q listed l a inv hw hl h (fun a' inv' hw' hk => by
        rw [Nat.add_comm]
        refine ⟨by rw [hr]; simp, fun i hi => ?_⟩
        rw [hr] at hi
        have hi2 : i = g1 ∨ i = g2 := by simpa using hi
        rcases hi2 with rfl | rfl
        · exact ⟨hg1, stepG_mono (fun a'' w'' ⟨hC', hrest⟩ => ⟨fun _ => hC', ih1 _ a'' w'' (inv'.set (by rw [hr]; simp) hg1) hB1 (fun _ => hC') hrest⟩) hk.1⟩
        · rw [hlen]
          exact ⟨hg2, stepG_mono (fun a'' w'' ⟨hC', hrest⟩ => ⟨fun _ => hC', ih2 _ a'' w'' (inv'.set (by rw [hr]; simp) hg2) hB2 (fun _ => hC') hrest⟩) hk.2⟩)
      rw [PlanH.len, Nat.add_assoc]
      exact this
    · cases hB
  | turn q segs last =>
    intro listed a w inv hB hw h
    simp only [planHB] at hB
    split at hB
    · rename_i l hl
      simp only [Bool.and_eq_true, decide_eq_true_eq] at hB
      obtain ⟨⟨hr, hg⟩, hB'⟩ := hB
      have := anyH_quiet (L := fun listed a w => Region.seqB md ops (ops.size - n) n listed = true ∧ Qt a w) hsel htw (fun _ _ _ hL => seqB_ready hL.1) (1 + lengthG segs last) q listed l a inv hw hl h (fun a' inv' hw' hk => by
        rw [Nat.add_comm]
        refine ⟨by rw [hr]; simp, fun i hi => ?_⟩
        rw [hr] at hi
        obtain rfl : i = gs := by simpa using hi
        have hset : (l.setIfInBounds i true).getD i false = true := by
          obtain ⟨_, o, ho, _⟩ := mem_ready.1 (show i ∈ Region.ready md ops l by rw [hr]; simp)
          have hl : i < l.size := by rw [inv'.size]; exact (Array.getElem?_eq_some_iff.1 ho).1
          simp [hl]
        refine ⟨hg, stepG_mono (fun a'' w'' hrest => ⟨fun hc => (by rw [hset] at hc; cases hc), ?_⟩) hk⟩
        exact anyH_of_anyG _ _ _ _ hset (anyG_order (md := md) hsel htw segs last _ _ a'' w'' (inv'.set (by rw [hr]; simp) hg) hB' trivial hrest))
      rw [PlanH.len, Nat.add_assoc]
      exact this
    · cases hB
theorem wp_regionH {id : Nat} {Q : Exit → Act → World → Prop} {a : Act} {w : World} {l : List Oper} {C1 : World → Prop} (n gs : Nat) (p : PlanH) (hm : P.follows .mixedOrders = true)
    (hB : (Region.noSelect l.toArray && tailB .any l.toArray n && planHB .any l.toArray n gs p (Array.replicate l.length false) && decide (p.len = n)) = true) (hC : C1 w.drew)
    (h : walkH P l.toArray C1 gs (fun a w => wpList P l.toArray Q (l.drop n) a w) p a w.drew) : (Code.region id l.toArray true).wp P Q a w := by
  simp only [Bool.and_eq_true, decide_eq_true_eq] at hB
  obtain ⟨⟨⟨hsel, ht⟩, ho⟩, hlen⟩ := hB
  have htw : ∀ listed, HeadInv .any l.toArray n listed → ∀ i, i < n → listed.getD i true = false → ∀ t, n ≤ t → t ∉ Region.ready .any l.toArray listed := by
    intro listed inv i hi hun t ht' hr
    simp only [tailB, Bool.or_eq_true, Bool.and_eq_true, decide_eq_true_eq] at ht
    rcases ht with rfl | ⟨⟨hn, hs⟩, hc⟩
    · obtain ⟨_, o, ho, _⟩ := mem_ready.1 hr
      have := (Array.getElem?_eq_some_iff.1 ho).1
      omega
    · exact tail_waits hs hc hn inv _ i rfl hi hun t ht' hr
  have hnl : n ≤ l.length := by
    simp only [tailB, Bool.or_eq_true, Bool.and_eq_true, decide_eq_true_eq] at ht
    rcases ht with h | ⟨⟨h, _⟩, _⟩
    · rw [h]; simp
    · have : n < l.length := by simpa using h
      omega
  have inv0 : HeadInv .any l.toArray n (Array.replicate l.length false) :=
    ⟨by simp, fun j oj _ hl => (by rw [getD_replicate_false] at hl; cases hl), fun t _ ht => getD_in (by simpa using ht) (getD_replicate_false _ _)⟩
  have H := anyH_plan (md := .any) hsel htw p _ a w.drew inv0 ho (fun _ => hC) h
  refine wp_region_any hm ?_
  have hdl : (l.drop n).length = l.toArray.size - n := by simp
  have := wpAny_of_anyH (Q' := Q) (g := l.toArray.size - n) (fun listed a' w' hL => by
    have := wpAny_of_seq (md := .any) (Q' := Q) (l.drop n) n listed a' w' (fun j => by simp [List.getElem?_drop]) (by rw [hdl]; exact hL.1) hL.2
    rwa [hdl] at this) _ _ _ _ H
  rw [hlen, show n + (l.toArray.size - n) = l.toArray.size by simp; omega] at this
  simpa using this
def wpQH (P : Program) (l : List Oper) (C1 : World → Prop) : List (Nat × Bool) → (Act → Prop) → Act → Prop
  | [], K, a => K a
  | (i, true) :: r, K, a => wpQuiet P l.toArray C1 (fun a' => wpQH P l C1 r K a') (pick l [i]) a
  | (i, false) :: r, K, a => wpQuiet P l.toArray (fun _ => True) (fun a' => wpQH P l C1 r K a') (pick l [i]) a
def fitsQ (l : List Oper) : List (Nat × Bool) → Bool
  | [] => true
  | (i, _) :: r => inB l [i] && quietOps (pick l [i]) && fitsQ l r
theorem qH_of_wpQH {l : List Oper} {C1 : World → Prop} {K : Act → Prop} : ∀ (h : List (Nat × Bool)) (a : Act), fitsQ l h = true → wpQH P l C1 h K a → qH P l.toArray C1 h K a
  | [], a, _, hq => hq
  | (i, true) :: r, a, hf, hq => by
    simp only [fitsQ, Bool.and_eq_true] at hf
    obtain ⟨⟨h1, h2⟩, h3⟩ := hf
    obtain ⟨o, v, e1, e2, e3⟩ := qI_of_wpQuiet [i] a h1 h2 hq
    exact ⟨o, v, e1, by simpa using e2, qH_of_wpQH r _ h3 e3⟩
  | (i, false) :: r, a, hf, hq => by
    simp only [fitsQ, Bool.and_eq_true] at hf
    obtain ⟨⟨h1, h2⟩, h3⟩ := hf
    obtain ⟨o, v, e1, e2, e3⟩ := qI_of_wpQuiet [i] a h1 h2 hq
    exact ⟨o, v, e1, by simpa using e2, qH_of_wpQH r _ h3 e3⟩
theorem wpQH_mono {l : List Oper} {C1 : World → Prop} {K K' : Act → Prop} (hk : ∀ a, K a → K' a) : ∀ (h : List (Nat × Bool)) (a : Act), wpQH P l C1 h K a → wpQH P l C1 h K' a
  | [], a, hq => hk a hq
  | (i, true) :: r, a, hq => wpQuiet_mono (fun a' h' => wpQH_mono hk r a' h') _ _ hq
  | (i, false) :: r, a, hq => wpQuiet_mono (fun a' h' => wpQH_mono hk r a' h') _ _ hq
def walkHS (P : Program) (l : List Oper) (C1 : World → Prop) (gs : Nat) (Q : Act → World → Prop) : PlanH → Act → World → Prop
  | .one h g p, a, w => wpQH P l C1 h (fun a' => wpList P l.toArray (Qn fun a'' w'' => C1 w'' ∧ walkHS P l C1 gs Q p a'' w'') (pick l [g]) a' w) a
  | .two h g1 p1 g2 p2, a, w => wpQH P l C1 h (fun a' => wpList P l.toArray (Qn fun a'' w'' => C1 w'' ∧ walkHS P l C1 gs Q p1 a'' w'') (pick l [g1]) a' w ∧
      wpList P l.toArray (Qn fun a'' w'' => C1 w'' ∧ walkHS P l C1 gs Q p2 a'' w'') (pick l [g2]) a' w) a
  | .turn h segs last, a, w => wpQH P l C1 h (fun a' => wpList P l.toArray (Qn fun a'' w'' => walkC P l (fun _ => True) Q segs last a'' w'') (pick l [gs]) a' w) a
def fitsH (l : List Oper) (gs : Nat) : PlanH → Bool
  | .one h g p => fitsQ l h && decide (g < l.length) && fitsH l gs p
  | .two h g1 p1 g2 p2 => fitsQ l h && decide (g1 < l.length) && decide (g2 < l.length) && fitsH l gs p1 && fitsH l gs p2
  | .turn h segs last => fitsQ l h && decide (gs < l.length) && fitsSt l segs last
theorem walkH_of_walkHS {l : List Oper} {C1 : World → Prop} {gs : Nat} {Q : Act → World → Prop} : ∀ (p : PlanH) (a : Act) (w : World), fitsH l gs p = true → walkHS P l C1 gs Q p a w → walkH P l.toArray C1 gs Q p a w := by
  intro p
  induction p with
  | one q g p ih =>
    intro a w hf h
    simp only [fitsH, Bool.and_eq_true, decide_eq_true_eq] at hf
    obtain ⟨⟨h1, h2⟩, h3⟩ := hf
    have hg : l[g]? = some l[g] := List.getElem?_eq_getElem h2
    refine qH_of_wpQH _ _ h1 (wpQH_mono (fun a' hk => ?_) _ _ h)
    simp only [pick, hg] at hk
    exact stepG_mono (fun a'' w'' ⟨hC, hrest⟩ => ⟨hC, ih a'' w'' h3 hrest⟩) (stepG_of_wpList (o := l[g]) (by simp [hg]) hk)
  | two q g1 p1 g2 p2 ih1 ih2 =>
    intro a w hf h
    simp only [fitsH, Bool.and_eq_true, decide_eq_true_eq] at hf
    obtain ⟨⟨⟨⟨h1, h2⟩, h2'⟩, h3⟩, h4⟩ := hf
    have hg1 : l[g1]? = some l[g1] := List.getElem?_eq_getElem h2
    have hg2 : l[g2]? = some l[g2] := List.getElem?_eq_getElem h2'
    refine qH_of_wpQH _ _ h1 (wpQH_mono (fun a' hk => ?_) _ _ h)
    simp only [pick, hg1, hg2] at hk
    exact ⟨stepG_mono (fun a'' w'' ⟨hC, hrest⟩ => ⟨hC, ih1 a'' w'' h3 hrest⟩) (stepG_of_wpList (o := l[g1]) (by simp [hg1]) hk.1), stepG_mono (fun a'' w'' ⟨hC, hrest⟩ => ⟨hC, ih2 a'' w'' h4 hrest⟩) (stepG_of_wpList (o := l[g2]) (by simp [hg2]) hk.2)⟩
  | turn q segs last =>
    intro a w hf h
    simp only [fitsH, Bool.and_eq_true, decide_eq_true_eq] at hf
    obtain ⟨⟨h1, h2⟩, h3⟩ := hf
    have hg : l[gs]? = some l[gs] := List.getElem?_eq_getElem h2
    refine qH_of_wpQH _ _ h1 (wpQH_mono (fun a' hk => ?_) _ _ h)
    simp only [pick, hg] at hk
    exact stepG_mono (fun a'' w'' hrest => walkG_of_walkC segs last a'' w'' h3 hrest) (stepG_of_wpList (o := l[gs]) (by simp [hg]) hk)
/-- A region that draws, by such a plan; up to the operation gs what only reads does so in the things of Lc. -/
theorem St.regionH {id : Nat} {Q : Exit → Act → World → Prop} {a : Act} {w w0 : World} {bs : List Nat} {L : List Res} {l : List Oper} (S : St w0 bs w L) (Lc : List Res) (n gs : Nat) (p : PlanH)
    (h : ∀ w', Chg [] w w' → St w0 bs w' L → St w0 bs w' Lc → walkHS P l (fun w'' => ∃ p : StW w' w0 bs Lc, w'' = p.w) gs (fun a w => wpList P l.toArray Q (l.drop n) a w) p a w')
    (hs : Sel Lc L := by repeat (first | exact Sel.nil | (apply Sel.cons; (repeat (first | exact Pull.head | apply Pull.tail)))))
    (hf : fitsH l gs p = true := by kernel_rfl)
    (hm : P.follows .mixedOrders = true := by kernel_rfl)
    (hB : (Region.noSelect l.toArray && tailB .any l.toArray n && planHB .any l.toArray n gs p (Array.replicate l.length false) && decide (p.len = n)) = true := by kernel_rfl) : (Code.region id l.toArray true).wp P Q a w :=
  wp_regionH (C1 := fun w' => ∃ p : StW w.drew w0 bs Lc, w' = p.w) n gs p hm hB ⟨⟨w.drew, .inl rfl⟩, rfl⟩ (walkH_of_walkHS p a w.drew hf (h _ ⟨rfl, rfl, rfl, Nat.le_refl _, fun _ _ _ => rfl⟩ S.drew (S.drew.sel hs)))
end
end Go.Vil
