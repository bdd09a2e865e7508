/- Regions that draw their order, some of whose operations make memory: what only reads comes first, whatever the order; each operation that makes memory comes up alone. -/
import Derived.Test.YtikjncdomgkcjaaDoorRows2
namespace Go.Vil
open Go Go.RowKit
set_option linter.unusedVariables false

section
variable {P : Program} {ops : Array Oper} {md : Region.Mode}

/-- An operation that neither panics nor leaves. -/
def grow (P : Program) (o : Oper) (a : Act) (w : World) (K : Act → World → Prop) : Prop :=
  match (execOp a.eval o).run P w with
  | .ok (.value v) w' => K (a.put o.dst v) w'
  | .ok .skip w' => K (a.put o.dst undef) w'
  | .ok (.defer d) w' => K ({ a with defers := d :: a.defers }.put o.dst undef) w'
  | .ok (.row row args) w' => Rows P row args w' fun v w'' => K (a.put o.dst v) w''
  | .ok (.enter f args) w' => Calls P f args w' fun e w'' => ∃ v, e = .returned v ∧ K (a.put o.dst v) w''
  | _ => False

theorem grow_mono {o : Oper} {a : Act} {w : World} {K K' : Act → World → Prop} (h : ∀ a w, K a w → K' a w) (hh : grow P o a w K) : grow P o a w K' := by
  unfold grow at *
  generalize (execOp a.eval o).run P w = r at *
  cases r with
  | ok x w' =>
    cases x <;> first
      | exact h _ _ hh
      | exact hh.mono fun e w'' ⟨v, he, hk⟩ => ⟨v, he, h _ _ hk⟩
      | exact hh.mono fun v w'' hk => h _ _ hk
      | exact hh
  | halt x w' => exact hh

theorem wp_of_grow {o : Oper} {a : Act} {w : World} {K : Act → World → Prop} {Q : Exit → Act → World → Prop} (hh : grow P o a w K) : o.wp P a w K Q := by
  unfold grow at hh
  unfold Oper.wp
  generalize (execOp a.eval o).run P w = r at *
  cases r with
  | ok x w' =>
    cases x <;> first
      | exact hh.elim
      | exact hh
      | (simp only [Oper.upon]; exact hh.mono fun e w'' ⟨v, he, hk⟩ => by subst he; exact hk)
  | halt x w' => exact hh.elim

def stepG (P : Program) (ops : Array Oper) (i : Nat) (K : Act → World → Prop) (a : Act) (w : World) : Prop :=
  match ops[i]? with
  | none => K a w
  | some o => if Region.wanted o (yielded ops a.tmps) then grow P o a w K else K (a.put o.dst undef) w

theorem stepG_mono {i : Nat} {a : Act} {w : World} {K K' : Act → World → Prop} (h : ∀ a w, K a w → K' a w) (hh : stepG P ops i K a w) : stepG P ops i K' a w := by
  unfold stepG at *
  split
  · exact h _ _ (by simpa [*] using hh)
  · rename_i o ho
    simp only [ho] at hh
    split
    · rename_i hw; simp only [hw, if_true] at hh; exact grow_mono h hh
    · rename_i hw; simp only [hw] at hh; exact h _ _ hh

theorem wpOp_of_stepG {i : Nat} {a : Act} {w : World} {K : Act → World → Prop} {Q : Exit → Act → World → Prop} (hh : stepG P ops i K a w) : wpOp P ops Q i K a w := by
  unfold stepG at hh
  unfold wpOp
  split
  · simpa [*] using hh
  · rename_i o ho
    simp only [ho] at hh
    split
    · rename_i hw; simp only [hw, if_true] at hh; exact .inl (wp_of_grow hh)
    · rename_i hw; simp only [hw] at hh; exact hh

/-- In state 'a', in every world of the class, operation 'o' leaves 'v' in its temporary, and the very world that it got. -/
def Still (P : Program) (ops : Array Oper) (C : World → Prop) (o : Oper) (v : Value) (a : Act) : Prop :=
  (Region.wanted o (yielded ops a.tmps) = true ∧ ∀ w, C w → (execOp a.eval o).run P w = .ok (.value v) w) ∨
  (Region.wanted o (yielded ops a.tmps) = false ∧ v = undef)
theorem Still.of_same {C : World → Prop} {o : Oper} {v : Value} {a a' : Act} (hy : Still P ops C o v a) (he : execOp a'.eval o = execOp a.eval o)
    (hw : Region.wanted o (yielded ops a'.tmps) = Region.wanted o (yielded ops a.tmps)) : Still P ops C o v a' := by
  unfold Still at *
  rw [he, hw]
  exact hy

theorem stepG_of_still {C : World → Prop} {i : Nat} {o : Oper} {v : Value} {a : Act} {w : World} {K : Act → World → Prop} (hi : ops[i]? = some o) (hw : C w) (hy : Still P ops C o v a) (h : K (a.put o.dst v) w) : stepG P ops i K a w := by
  unfold stepG
  simp only [hi]
  rcases hy with ⟨hwt, hv⟩ | ⟨hwt, rfl⟩
  · simp only [hwt, if_true]
    unfold grow
    rw [hv w hw]
    exact h
  · simp only [hwt, Bool.false_eq_true, if_false]; exact h

/-- Builtins that only reckon. -/
def quietBuiltin : Builtin → Bool
  | .len | .cap | .min | .max => true
  | _ => false
/-- An operation that is no call (but of a builtin that only reckons). -/
def noCall (o : Oper) : Bool := match o.op with
  | .call c => (match c.callee with | .builtin b => quietBuiltin b | _ => false)
  | .go _ | .defer _ | .send .. | .recv .. | .select .. | .store .. | .ready _ | .mapUpdate .. | .insert .. | .entryStore .. => false | _ => true
theorem run_val {s : Sem Value} {w w' : World} {x : Next} (h : ((do pure (Next.value (← s))) : Sem Next).run P w = .ok x w') : ∃ v, x = .value v := by
  simp only [Sem.run_bind] at h
  cases hs : s.run P w with
  | ok u w2 => rw [hs] at h; simp only [Result.andThen_ok, Sem.run_pure, Result.ok.injEq] at h; exact ⟨_, h.1.symm⟩
  | halt x w2 => rw [hs] at h; cases h
theorem noCall_val {o : Oper} {ρ : Operand → Value} {w w' : World} {x : Next} (ho : noCall o = true) (h : (execOp ρ o).run P w = .ok x w') : ∃ v, x = .value v := by
  obtain ⟨dst, op, ty, pos, after, guard⟩ := o
  by_cases hc : ∃ c, op = .call c
  · obtain ⟨⟨callee, args, ats⟩, rfl⟩ := hc
    cases callee with
    | builtin b =>
      have ho' : quietBuiltin b = true := ho
      rw [BigFrame.execOp_builtin] at h
      cases b <;> first | (cases ho'; done) | exact run_val h
    | _ => cases ho
  generalize hoo : ({ dst := dst, op := op, type := ty, pos := pos, after := after, guard := guard } : Oper) = o at *
  have hop' : o.op = op := by rw [← hoo]
  have hc' : ∀ c, o.op ≠ .call c := fun c h => hc ⟨c, hop' ▸ h⟩
  clear hoo hop' hc
  unfold noCall at ho
  unfold execOp at h
  cases hop : o.op <;> rw [hop] at ho h <;> first
    | (cases ho; done)
    | (exact absurd hop (hc' _))
    | (exact run_val h)
    | (simp only [Sem.run_pure, Result.ok.injEq] at h; exact ⟨_, h.1.symm⟩)
    | skip
  case pick c a b =>
    simp only [Sem.run_bind] at h
    cases hs : (asBool (ρ c)).run P w with
    | ok u w2 => rw [hs] at h; simp only [Result.andThen_ok, Sem.run_pure, Result.ok.injEq] at h; exact ⟨_, h.1.symm⟩
    | halt x w2 => rw [hs] at h; cases h
  case nilCheck x =>
    simp only at h
    split at h
    · simp [runtimePanic] at h
    · simp [runtimePanic] at h
    · simp [runtimePanic] at h
    · split at h
      · simp [runtimePanic] at h
      · simp only [Sem.run_bind, run_program, Result.andThen_ok] at h
        cases hs : (nilAhead (P.types.size + Made.depth) _ _ _).run P w with
        | ok u w2 =>
          rw [hs] at h
          simp only [Result.andThen_ok, Sem.run_ite] at h
          split at h
          · simp at h
          · simp only [Sem.run_pure, Result.ok.injEq] at h; exact ⟨_, h.1.symm⟩
        | halt x w2 => rw [hs] at h; cases h
      · simp only [Sem.run_pure, Result.ok.injEq] at h; exact ⟨_, h.1.symm⟩
    · simp only [Sem.run_pure, Result.ok.injEq] at h; exact ⟨_, h.1.symm⟩
theorem still_of_yields {C : World → Prop} {o : Oper} {v : Value} {a : Act} (hn : noCall o = true) (hy : YieldsIn P ops C o v a) : Still P ops C o v a := by
  rcases hy with ⟨hwt, hv⟩ | h
  · refine .inl ⟨hwt, fun w hw => ?_⟩
    have h3 := hv w hw
    unfold Oper.quietAt at h3
    cases hr : (execOp a.eval o).run P w with
    | ok x w' =>
      rw [hr] at h3
      obtain ⟨u, rfl⟩ := noCall_val hn hr
      simp only [Oper.quietUpon] at h3
      obtain ⟨e1, e2⟩ := h3; rw [e1, e2]
    | halt x w' => rw [hr] at h3; simp only [Oper.quietUpon] at h3
  · exact .inr h

theorem put_defers (a : Act) {x y : Option Tmp} (v u : Value) (D : List Deferred) (h : ∀ d, x = some d → y ≠ some d) :
    ({ (a.put x v) with defers := D } : Act).put y u = (({ a with defers := D } : Act).put y u).put x v := by
  have := Act.put_comm ({ a with defers := D } : Act) v u h
  rw [← this]
  cases x <;> rfl
/-- An operation that is apart from another one does the same whether that one's value is there or not. -/
theorem stepG_put {j : Nat} {oi oj : Oper} {v : Value} (hj : ops[j]? = some oj) (hap : oi.apart ops oj = true) (hsj : ∀ cs b, oj.op ≠ .select cs b) {K : Act → World → Prop} {a : Act} {w : World}
    (h : stepG P ops j K (a.put oi.dst v) w) : stepG P ops j (fun a' w' => (∃ u D, a' = ({ a with defers := D } : Act).put oj.dst u) ∧ K (a'.put oi.dst v) w') a w := by
  obtain ⟨h1, h2, h3⟩ := Oper.apart_spec hap
  have hdef : (a.put oi.dst v).defers = a.defers := by cases oi.dst <;> rfl
  unfold stepG at *
  simp only [hj] at *
  rw [wanted_put oj a oi.dst v h1] at h
  split
  · rename_i hw
    simp only [hw, if_true] at h
    unfold grow at *
    rw [execOp_put oj hsj a oi.dst v h1] at h
    generalize (execOp a.eval oj).run P w = r at *
    cases r with
    | ok x w' =>
      cases x <;> first
        | exact h.elim
        | exact ⟨⟨_, a.defers, rfl⟩, by rw [← Act.put_comm a v _ h2]; exact h⟩
        | exact ⟨⟨_, _, rfl⟩, by simp only [hdef] at h; rw [← put_defers a v _ _ h2]; exact h⟩
        | exact h.mono fun e w'' ⟨u, he, hk⟩ => ⟨u, he, ⟨_, a.defers, rfl⟩, by rw [← Act.put_comm a v _ h2]; exact hk⟩
        | exact h.mono fun u w'' hk => ⟨⟨_, a.defers, rfl⟩, by rw [← Act.put_comm a v _ h2]; exact hk⟩
    | halt x w' => exact h
  · rename_i hw
    simp only [hw] at h
    exact ⟨⟨_, a.defers, rfl⟩, by rw [← Act.put_comm a v _ h2]; exact h⟩

/-- The first so many operations, in whatever order, the worlds in a class all the while; then L. -/
def anyG (P : Program) (md : Region.Mode) (ops : Array Oper) (n : Nat) (L : Array Bool → Act → World → Prop) : Nat → (World → Prop) → Array Bool → Act → World → Prop
  | 0, _, listed, a, w => L listed a w
  | f + 1, C, listed, a, w => Region.ready md ops listed ≠ [] ∧ ∀ i ∈ Region.ready md ops listed, i < n ∧ stepG P ops i (fun a' w' => C w' ∧ anyG P md ops n L f C (listed.setIfInBounds i true) a' w') a w

theorem anyG_mono {n : Nat} {L : Array Bool → Act → World → Prop} : ∀ (f : Nat) {C C' : World → Prop} (_ : ∀ w, C' w → C w) (listed : Array Bool) (a : Act) (w : World), anyG P md ops n L f C' listed a w → anyG P md ops n L f C listed a w
  | 0, _, _, _, _, _, _, h => h
  | f + 1, _, _, hc, listed, a, w, h => ⟨h.1, fun i hi => ⟨(h.2 i hi).1, stepG_mono (fun a' w' h' => ⟨hc _ h'.1, anyG_mono f hc _ _ _ h'.2⟩) (h.2 i hi).2⟩⟩

theorem wpAny_of_anyG {n g : Nat} {L : Array Bool → Act → World → Prop} {Q' : Exit → Act → World → Prop} (hL : ∀ listed a w, L listed a w → wpAny P md ops Q' g listed a w) :
    ∀ (f : Nat) (C : World → Prop) (listed : Array Bool) (a : Act) (w : World), anyG P md ops n L f C listed a w → wpAny P md ops Q' (f + g) listed a w
  | 0, C, listed, a, w, h => by rw [Nat.zero_add]; exact hL _ _ _ h
  | f + 1, C, listed, a, w, h => by
    rw [show f + 1 + g = (f + g) + 1 by omega]
    exact ⟨fun h0 => absurd h0 h.1, fun i hi => wpOp_of_stepG (stepG_mono (fun a' w' h' => wpAny_of_anyG hL f C _ a' w' h'.2) (h.2 i hi).2)⟩

theorem anyG_first {n i : Nat} {oi : Oper} {v : Value} {C : World → Prop} {L : Array Bool → Act → World → Prop} (hi : ops[i]? = some oi) (hsel : ∀ (j : Nat) (o : Oper) cs b, ops[j]? = some o → o.op ≠ .select cs b)
    (htw : ∀ listed, HeadInv md ops n listed → ∀ i, i < n → listed.getD i true = false → ∀ t, n ≤ t → t ∉ Region.ready md ops listed) (hin : i < n)
    (hdone : ∀ listed a w, L listed a w → ∀ j ∈ Region.ready md ops listed, n ≤ j) :
    ∀ (f : Nat) (listed : Array Bool) (a : Act) (w : World), HeadInv md ops n listed →
      (∀ j oj, ops[j]? = some oj → j ≠ i → listed.getD j true = false → (∀ e ∈ oj.after, Region.binds md e = true → e.on ≠ i) → oi.apart ops oj = true) →
      i ∈ Region.ready md ops listed → C w → Still P ops C oi v a →
      anyG P md ops n L f C (listed.setIfInBounds i true) (a.put oi.dst v) w → anyG P md ops n L (f + 1) C listed a w := by
  intro f
  induction f with
  | zero =>
    intro listed a w inv _ hr hw hy H
    have hun := (mem_ready.1 hr).1
    refine ⟨fun h => (by rw [h] at hr; cases hr), fun j hj => ?_⟩
    have hjn : j < n := by
      rcases Nat.lt_or_ge j n with h | h
      · exact h
      · exact absurd hj (htw listed inv i hin hun j h)
    refine ⟨hjn, ?_⟩
    by_cases hji : j = i
    · subst hji; exact stepG_of_still hi hw hy ⟨hw, H⟩
    · have := hdone _ _ _ H j (ready_mono hj hji)
      omega
  | succ f ih =>
    intro listed a w inv hfree hr hw hy H
    have hun := (mem_ready.1 hr).1
    refine ⟨fun h => (by rw [h] at hr; cases hr), fun j hj => ?_⟩
    have hjn : j < n := by
      rcases Nat.lt_or_ge j n with h | h
      · exact h
      · exact absurd hj (htw listed inv i hin hun j h)
    refine ⟨hjn, ?_⟩
    by_cases hji : j = i
    · subst hji; exact stepG_of_still hi hw hy ⟨hw, H⟩
    · obtain ⟨hjun, oj, hoj, hall⟩ := mem_ready.1 hj
      have hnot : ∀ e ∈ oj.after, Region.binds md e = true → e.on ≠ i := fun e he hb heq => by
        have h1 := hall e he hb
        rw [heq, getD_both hun] at h1
        cases h1
      have hap := hfree j oj hoj hji hjun hnot
      obtain ⟨_, _, hap3⟩ := Oper.apart_spec hap
      have hfree' : ∀ k ok, ops[k]? = some ok → k ≠ i → (listed.setIfInBounds j true).getD k true = false →
          (∀ e ∈ ok.after, Region.binds md e = true → e.on ≠ i) → oi.apart ops ok = true := fun k ok hk hki hun hno => by
        refine hfree k ok hk hki ?_ hno
        by_cases hjk : j = k
        · subst hjk; exact hjun
        · rw [getD_set_ne true hjk] at hun; exact hun
      refine stepG_mono (fun a' w' h' => ?_) (stepG_put hoj hap (fun cs b => hsel j oj cs b hoj) (H.2 j (ready_mono hj hji)).2)
      obtain ⟨⟨u, D, rfl⟩, hCw', hrest⟩ := h'
      refine ⟨hCw', ih (listed.setIfInBounds j true) _ w' (inv.set hj hjn) hfree' (ready_mono hr (Ne.symm hji)) hCw' (hy.of_same ?_ ?_) ?_⟩
      · have e1 := execOp_put oi (fun cs b => hsel i oi cs b hi) ({ a with defers := D } : Act) oj.dst u hap3
        have e2 : ({ a with defers := D } : Act).eval = a.eval := by funext x; cases x <;> rfl
        rw [e1, e2]
      · exact wanted_put oi ({ a with defers := D } : Act) oj.dst u hap3
      rw [Array.setIfInBounds_comm _ _ hji]
      exact hrest

/-- The walk in an order of mine: what only reads, then one that makes memory, and so on. -/
def walkG (P : Program) (ops : Array Oper) (Q : Act → World → Prop) : List (List Nat × Nat) → List Nat → (World → Prop) → Act → World → Prop
  | [], last, C, a, w => qI P ops C last (fun a' => Q a' w) a
  | (h, g) :: segs, last, C, a, w => qI P ops C h (fun a' => stepG P ops g (fun a'' w'' => ∃ C' : World → Prop, C' w'' ∧ (∀ x, C' x → C x) ∧ walkG P ops Q segs last C' a'' w'') a' w) a
where
  qI (P : Program) (ops : Array Oper) (C : World → Prop) : List Nat → (Act → Prop) → Act → Prop
    | [], K, a => K a
    | i :: l, K, a => ∃ o v, ops[i]? = some o ∧ Still P ops C o v a ∧ qI P ops C l K (a.put o.dst v)

/-- The order fits: each that only reads is ready and free; each that makes memory is the only one that is ready. -/
def quietB (md : Region.Mode) (ops : Array Oper) (n : Nat) : List Nat → Array Bool → Option (Array Bool)
  | [], listed => some listed
  | k :: l, listed => if (Region.ready md ops listed).contains k && Region.free md ops listed k && decide (k < n) then quietB md ops n l (listed.setIfInBounds k true) else none
def orderB (md : Region.Mode) (ops : Array Oper) (n : Nat) : List (List Nat × Nat) → List Nat → Array Bool → Bool
  | [], last, listed => match quietB md ops n last listed with
    | some l => Region.seqB md ops (ops.size - n) n l
    | none => false
  | (h, g) :: segs, last, listed => match quietB md ops n h listed with
    | some l => decide (Region.ready md ops l = [g]) && decide (g < n) && orderB md ops n segs last (l.setIfInBounds g true)
    | none => false
def lengthG : List (List Nat × Nat) → List Nat → Nat
  | [], last => last.length
  | (h, _) :: segs, last => h.length + 1 + lengthG segs last


theorem anyG_quiet {n : Nat} {C : World → Prop} {L : Array Bool → Act → World → Prop} (hsel : Region.noSelect ops = true)
    (htw : ∀ listed, HeadInv md ops n listed → ∀ i, i < n → listed.getD i true = false → ∀ t, n ≤ t → t ∉ Region.ready md ops listed)
    (hdone : ∀ listed a w, L listed a w → ∀ j ∈ Region.ready md ops listed, n ≤ j) {K : Act → Prop} {w : World} (hw : C w) (f : Nat) :
    ∀ (h : List Nat) (listed l : Array Bool) (a : Act), HeadInv md ops n listed → quietB md ops n h listed = some l → walkG.qI P ops C h K a →
      (∀ a', HeadInv md ops n l → K a' → anyG P md ops n L f C l a' w) → anyG P md ops n L (h.length + f) C listed a w
  | [], listed, l, a, inv, hB, hq, hk => by
    simp only [quietB, Option.some.injEq] at hB
    subst hB
    simpa using hk a inv hq
  | i :: h, listed, l, a, inv, hB, hq, hk => by
    simp only [quietB] at hB
    split at hB
    · rename_i hc
      simp only [Bool.and_eq_true, decide_eq_true_eq] at hc
      obtain ⟨⟨hr, hf⟩, hin⟩ := hc
      obtain ⟨o, v, hi, hst, hrest⟩ := hq
      have hr' : i ∈ Region.ready md ops listed := by simpa using hr
      rw [show (i :: h).length + f = (h.length + f) + 1 by simp; omega]
      exact anyG_first hi (Region.noSelect_spec hsel) htw hin hdone (h.length + f) listed a w inv (Region.free_spec hi hf) hr' hw hst
        (anyG_quiet hsel htw hdone hw f h _ l _ (inv.set hr' hin) hB hrest hk)
    · cases hB

theorem anyG_order {n : Nat} {Qt : Act → World → Prop} (hsel : Region.noSelect ops = true)
    (htw : ∀ listed, HeadInv md ops n listed → ∀ i, i < n → listed.getD i true = false → ∀ t, n ≤ t → t ∉ Region.ready md ops listed) :
    ∀ (segs : List (List Nat × Nat)) (last : List Nat) (C : World → Prop) (listed : Array Bool) (a : Act) (w : World), HeadInv md ops n listed → orderB md ops n segs last listed = true → C w → walkG P ops Qt segs last C a w →
      anyG P md ops n (fun listed a w => Region.seqB md ops (ops.size - n) n listed = true ∧ Qt a w) (lengthG segs last) C listed a w
  | [], last, C, listed, a, w, inv, hB, hw, h => by
    simp only [orderB] at hB
    split at hB
    · rename_i l hl
      have := anyG_quiet (L := fun listed a w => Region.seqB md ops (ops.size - n) n listed = true ∧ Qt a w) hsel htw (fun _ _ _ hL => seqB_ready hL.1) hw 0 last listed l a inv hl h (fun a' _ hk => ⟨hB, hk⟩)
      simpa [lengthG] using this
    · cases hB
  | (q, g) :: segs, last, C, listed, a, w, inv, hB, hw, h => by
    simp only [orderB] at hB
    split at hB
    · rename_i l hl
      simp only [Bool.and_eq_true, decide_eq_true_eq] at hB
      obtain ⟨⟨hr, hg⟩, hB'⟩ := hB
      have := anyG_quiet (L := fun listed a w => Region.seqB md ops (ops.size - n) n listed = true ∧ Qt a w) hsel htw (fun _ _ _ hL => seqB_ready hL.1) hw (1 + lengthG segs last) q listed l a inv hl h (fun a' inv' hk => by
        rw [Nat.add_comm]
        refine ⟨by rw [hr]; simp, fun i hi => ?_⟩
        rw [hr] at hi
        obtain rfl : i = g := by simpa using hi
        refine ⟨hg, stepG_mono (fun a'' w'' ⟨C', hC', hsub, hrest⟩ => ⟨hsub _ hC', anyG_mono _ hsub _ _ _ (anyG_order hsel htw segs last C' _ a'' w'' (inv'.set (by rw [hr]; simp) hg) hB' hC' hrest)⟩) hk⟩)
      rw [lengthG, Nat.add_assoc]
      exact this
    · cases hB

def tailB (md : Region.Mode) (ops : Array Oper) (n : Nat) : Bool := decide (n = ops.size) || (decide (n < ops.size) && Region.sinkB md ops n && Region.chainB md ops n)

theorem wp_regionG {id : Nat} {Q : Exit → Act → World → Prop} {a : Act} {w : World} {l : List Oper} {C : World → Prop} (n : Nat) (segs : List (List Nat × Nat)) (last : List Nat) (hm : P.follows .mixedOrders = true)
    (hB : (Region.noSelect l.toArray && tailB .any l.toArray n && orderB .any l.toArray n segs last (Array.replicate l.length false) && decide (lengthG segs last = n)) = true) (hC : C w.drew)
    (h : walkG P l.toArray (fun a w => wpList P l.toArray Q (l.drop n) a w) segs last C a w.drew) : (Code.region id l.toArray true).wp P Q a w := by
  simp only [Bool.and_eq_true, decide_eq_true_eq] at hB
  obtain ⟨⟨⟨hsel, ht⟩, ho⟩, hlen⟩ := hB
  have htw : ∀ listed, HeadInv .any l.toArray n listed → ∀ i, i < n → listed.getD i true = false → ∀ t, n ≤ t → t ∉ Region.ready .any l.toArray listed := by
    intro listed inv i hi hun t ht' hr
    simp only [tailB, Bool.or_eq_true, Bool.and_eq_true, decide_eq_true_eq] at ht
    rcases ht with rfl | ⟨⟨hn, hs⟩, hc⟩
    · obtain ⟨_, o, ho, _⟩ := mem_ready.1 hr
      have := (Array.getElem?_eq_some_iff.1 ho).1
      omega
    · exact tail_waits hs hc hn inv _ i rfl hi hun t ht' hr
  have hnl : n ≤ l.length := by
    simp only [tailB, Bool.or_eq_true, Bool.and_eq_true, decide_eq_true_eq] at ht
    rcases ht with h | ⟨⟨h, _⟩, _⟩
    · rw [h]; simp
    · have : n < l.length := by simpa using h
      omega
  have inv0 : HeadInv .any l.toArray n (Array.replicate l.length false) :=
    ⟨by simp, fun j oj _ hl => (by rw [getD_replicate_false] at hl; cases hl), fun t _ ht => getD_in (by simpa using ht) (getD_replicate_false _ _)⟩
  have H := anyG_order (md := .any) hsel htw segs last C _ a w.drew inv0 ho hC h
  refine wp_region_any hm ?_
  have hdl : (l.drop n).length = l.toArray.size - n := by simp
  have := wpAny_of_anyG (Q' := Q) (g := l.toArray.size - n) (fun listed a' w' hL => by
    have := wpAny_of_seq (md := .any) (Q' := Q) (l.drop n) n listed a' w' (fun j => by simp [List.getElem?_drop]) (by rw [hdl]; exact hL.1) hL.2
    rwa [hdl] at this) _ _ _ _ _ H
  rw [hlen, show n + (l.toArray.size - n) = l.toArray.size by simp; omega] at this
  simpa using this


/-- Only the normal end. -/
def Qn (K : Act → World → Prop) : Exit → Act → World → Prop
  | .normal, a, w => K a w
  | _, _, _ => False
theorem grow_of_wp {o : Oper} {a : Act} {w : World} {K : Act → World → Prop} {Q : Exit → Act → World → Prop} (hQ : ∀ e a w, e ≠ .normal → ¬ Q e a w) (h : o.wp P a w K Q) : grow P o a w K := by
  unfold Oper.wp at h
  unfold grow
  generalize (execOp a.eval o).run P w = r at *
  cases r with
  | ok x w' =>
    cases x <;> simp only [Oper.upon] at h <;> first
      | exact h
      | exact h.elim
      | (refine h.mono fun e w'' he => ?_
         cases e with
         | returned v => exact ⟨v, rfl, he⟩
         | panicked c => exact absurd he (hQ _ _ _ (by intro h; cases h))
         | outgrown => obtain ⟨a', w', h'⟩ := he; exact absurd h' (hQ _ _ _ (by intro h; cases h)))
  | halt x w' => cases x <;> simp only [Oper.upon] at h <;> first | exact h.elim | exact absurd h (hQ _ _ _ (by intro h; cases h))
theorem stepG_of_wpList {i : Nat} {o : Oper} {a : Act} {w : World} {K : Act → World → Prop} (hi : ops[i]? = some o) (h : wpList P ops (Qn K) [o] a w) : stepG P ops i K a w := by
  have hQ : ∀ e a w, e ≠ Exit.normal → ¬ Qn K e a w := fun e a w he h => by cases e <;> first | exact he rfl | exact h
  unfold wpList at h
  unfold stepG
  simp only [hi]
  split
  · rename_i hw
    rw [if_pos hw] at h
    rcases h with h | ⟨_, a', w', h'⟩
    · exact grow_of_wp hQ h
    · exact absurd h' (hQ _ _ _ (by intro h; cases h))
  · rename_i hw
    rw [if_neg hw] at h
    exact h

/-- The operations of these numbers. -/
def pick (l : List Oper) : List Nat → List Oper
  | [] => []
  | i :: r => match l[i]? with
    | some o => o :: pick l r
    | none => pick l r
def quietOps : List Oper → Bool
  | [] => true
  | o :: l => noCall o && quietOps l
def inB (l : List Oper) : List Nat → Bool
  | [] => true
  | i :: r => decide (i < l.length) && inB l r

theorem qI_of_wpQuiet {l : List Oper} {C : World → Prop} {K : Act → Prop} : ∀ (h : List Nat) (a : Act), inB l h = true → quietOps (pick l h) = true → wpQuiet P l.toArray C K (pick l h) a → walkG.qI P l.toArray C h K a
  | [], a, _, _, hq => hq
  | i :: r, a, hb, hn, hq => by
    simp only [inB, Bool.and_eq_true, decide_eq_true_eq] at hb
    have hi : l[i]? = some l[i] := List.getElem?_eq_getElem hb.1
    simp only [pick, hi] at hn hq
    simp only [quietOps, Bool.and_eq_true] at hn
    have hqo : qOp P l.toArray C i (wpQuiet P l.toArray C K (pick l r)) a := by
      unfold qOp
      simp only [List.getElem?_toArray, hi]
      exact hq
    obtain ⟨v, hy, hK⟩ := yieldsIn_of_qOp (o := l[i]) (by simp [hi]) hqo
    exact ⟨l[i], v, by simp [hi], still_of_yields hn.1 hy, qI_of_wpQuiet r _ hb.2 hn.2 hK⟩

/-- The walk over things that are there: what is made comes to the list. -/
def walkSt (P : Program) (l : List Oper) (w0 : World) (bs : List Nat) (Q : Act → World → Prop) : List (List Nat × Nat) → List Nat → List Res → Act → World → Prop
  | [], last, L, a, w => wpQuiet P l.toArray (fun w' => ∃ p : StW w w0 bs L, w' = p.w) (fun a' => Q a' w) (pick l last) a
  | (h, g) :: segs, last, L, a, w => wpQuiet P l.toArray (fun w' => ∃ p : StW w w0 bs L, w' = p.w)
      (fun a' => wpList P l.toArray (Qn fun a'' w'' => ∃ L', St w0 bs w'' L' ∧ Sel L L' ∧ walkSt P l w0 bs Q segs last L' a'' w'') (pick l [g]) a' w) (pick l h) a

def fitsSt (l : List Oper) : List (List Nat × Nat) → List Nat → Bool
  | [], last => inB l last && quietOps (pick l last)
  | (h, g) :: segs, last => inB l h && quietOps (pick l h) && decide (g < l.length) && fitsSt l segs last

theorem walkG_of_walkSt {l : List Oper} {w0 : World} {bs : List Nat} {Q : Act → World → Prop} : ∀ (segs : List (List Nat × Nat)) (last : List Nat) (L : List Res) (a : Act) (w : World), fitsSt l segs last = true → St w0 bs w L →
    walkSt P l w0 bs Q segs last L a w → walkG P l.toArray Q segs last (fun w' => ∃ p : StW w w0 bs L, w' = p.w) a w
  | [], last, L, a, w, hf, S, h => by
    simp only [fitsSt, Bool.and_eq_true] at hf
    exact qI_of_wpQuiet _ _ hf.1 hf.2 h
  | (q, g) :: segs, last, L, a, w, hf, S, h => by
    simp only [fitsSt, Bool.and_eq_true, decide_eq_true_eq] at hf
    obtain ⟨⟨⟨h1, h2⟩, h3⟩, h4⟩ := hf
    have hg : l[g]? = some l[g] := List.getElem?_eq_getElem h3
    refine qI_of_wpQuiet _ _ h1 h2 (wpQuiet_mono (fun a' hk => ?_) _ _ h)
    simp only [pick, hg] at hk
    refine stepG_mono (fun a'' w'' ⟨L', S', hs, hrest⟩ => ?_) (stepG_of_wpList (o := l[g]) (by simp [hg]) hk)
    refine ⟨fun w' => ∃ p : StW w'' w0 bs L', w' = p.w, ⟨⟨w'', .inl rfl⟩, rfl⟩, fun x hx => ?_, walkG_of_walkSt segs last L' a'' w'' h4 S' hrest⟩
    exact ((S'.of hx).sel hs).inSt w

/-- A region that draws: which operations only read, which make memory, in which order they are walked; the tail. -/
theorem St.regionG {id : Nat} {Q : Exit → Act → World → Prop} {a : Act} {w w0 : World} {bs : List Nat} {L : List Res} {l : List Oper} (S : St w0 bs w L) (n : Nat) (segs : List (List Nat × Nat)) (last : List Nat)
    (h : ∀ w', St w0 bs w' L → walkSt P l w0 bs (fun a w => wpList P l.toArray Q (l.drop n) a w) segs last L a w')
    (hf : fitsSt l segs last = true := by kernel_rfl)
    (hm : P.follows .mixedOrders = true := by kernel_rfl)
    (hB : (Region.noSelect l.toArray && tailB .any l.toArray n && orderB .any l.toArray n segs last (Array.replicate l.length false) && decide (lengthG segs last = n)) = true := by kernel_rfl) : (Code.region id l.toArray true).wp P Q a w :=
  wp_regionG (C := fun w' => ∃ p : StW w.drew w0 bs L, w' = p.w) n segs last hm hB ⟨⟨w.drew, .inl rfl⟩, rfl⟩ (walkG_of_walkSt segs last L a w.drew hf S.drew (h _ S.drew))

end
end Go.Vil
