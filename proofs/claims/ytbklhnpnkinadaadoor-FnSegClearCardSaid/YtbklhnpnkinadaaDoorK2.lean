/- Regions that draw their order, where two operations that make memory may come in either order. · Regions that draw their order by a plan, some of whose operations turn what is there. · More laws over the calculus of memory: sources that came in, parts of them, rows put behind rows, blocks whose cells are not told. · Parts of slices, over any program. · The parts of the hash XXH64. · Numbers out of bytes, the lowest one first. · The header of an entry: written to its bytes, read from them. · The pointers of a slot: where a hash belongs. · A pointer of a slot is looked for by its offset. · A ring of bytes in plain Lean: what is in it, and what its operations do. · A ring of bytes in plain Lean: what its operations do, as the code does them. · Functions that defer a closure that recovers, where nothing panics; results that live in variables. · Results that lie in memory: structs and arrays. · The ring buffer of the library: where a byte lies, reads. · A segment in memory: its cells behind those of its ring; where a slot lies. · The slots of a segment: 256 lists of pointers in one block. · Entries as they lie in a window of bytes. · Slices of structs: element by element. -/
import Derived.Test.YtbklhnpnkinadaaDoorK1
import Derived.Deep.LoopGhost
import Derived.Laws.BitsAllLaws
import Derived.Deep.DeepCutAuto
import Derived.Defers
import Derived.Recover
section
namespace Go.Vil
open Go Go.RowKit
set_option linter.unusedVariables false

/-- In which order the operations are walked: those that only read, then one that makes memory, or one of two. -/
inductive Plan where
  | done (last : List Nat)
  | one (h : List Nat) (g : Nat) (p : Plan)
  | two (h : List Nat) (g1 : Nat) (p1 : Plan) (g2 : Nat) (p2 : Plan)
def Plan.len : Plan → Nat
  | .done last => last.length
  | .one h _ p => h.length + 1 + p.len
  | .two h _ p _ _ => h.length + 1 + p.len
section
variable {P : Program} {ops : Array Oper} {md : Region.Mode}
def planB (md : Region.Mode) (ops : Array Oper) (n : Nat) : Plan → Array Bool → Bool
  | .done last, listed => match quietB md ops n last listed with
    | some l => Region.seqB md ops (ops.size - n) n l
    | none => false
  | .one h g p, listed => match quietB md ops n h listed with
    | some l => decide (Region.ready md ops l = [g]) && decide (g < n) && planB md ops n p (l.setIfInBounds g true)
    | none => false
  | .two h g1 p1 g2 p2, listed => match quietB md ops n h listed with
    | some l => decide (Region.ready md ops l = [g1, g2]) && decide (g1 < n) && decide (g2 < n) && decide (p1.len = p2.len) && planB md ops n p1 (l.setIfInBounds g1 true) && planB md ops n p2 (l.setIfInBounds g2 true)
    | none => false
def walkP (P : Program) (ops : Array Oper) (Q : Act → World → Prop) : Plan → (World → Prop) → Act → World → Prop
  | .done last, C, a, w => walkG.qI P ops C last (fun a' => Q a' w) a
  | .one h g p, C, a, w => walkG.qI P ops C h (fun a' => stepG P ops g (fun a'' w'' => ∃ C' : World → Prop, C' w'' ∧ (∀ x, C' x → C x) ∧ walkP P ops Q p C' a'' w'') a' w) a
  | .two h g1 p1 g2 p2, C, a, w => walkG.qI P ops C h (fun a' => stepG P ops g1 (fun a'' w'' => ∃ C' : World → Prop, C' w'' ∧ (∀ x, C' x → C x) ∧ walkP P ops Q p1 C' a'' w'') a' w ∧
      stepG P ops g2 (fun a'' w'' => ∃ C' : World → Prop, C' w'' ∧ (∀ x, C' x → C x) ∧ walkP P ops Q p2 C' a'' w'') a' w) a

theorem anyG_plan {n : Nat} {Qt : Act → World → Prop} (hsel : Region.noSelect ops = true)
    (htw : ∀ listed, HeadInv md ops n listed → ∀ i, i < n → listed.getD i true = false → ∀ t, n ≤ t → t ∉ Region.ready md ops listed) :
    ∀ (p : Plan) (C : World → Prop) (listed : Array Bool) (a : Act) (w : World), HeadInv md ops n listed → planB md ops n p listed = true → C w → walkP P ops Qt p C a w →
      anyG P md ops n (fun listed a w => Region.seqB md ops (ops.size - n) n listed = true ∧ Qt a w) p.len C listed a w := by
  intro p
  induction p with
  | done last =>
    intro C listed a w inv hB hw h
    simp only [planB] at hB
    split at hB
    · rename_i l hl
      have := anyG_quiet (L := fun listed a w => Region.seqB md ops (ops.size - n) n listed = true ∧ Qt a w) hsel htw (fun _ _ _ hL => seqB_ready hL.1) hw 0 last listed l a inv hl h (fun a' _ hk => ⟨hB, hk⟩)
      simpa [Plan.len] using this
    · cases hB
  | one q g p ih =>
    intro C listed a w inv hB hw h
    simp only [planB] at hB
    split at hB
    · rename_i l hl
      simp only [Bool.and_eq_true, decide_eq_true_eq] at hB
      obtain ⟨⟨hr, hg⟩, hB'⟩ := hB
      have := anyG_quiet (L := fun listed a w => Region.seqB md ops (ops.size - n) n listed = true ∧ Qt a w) hsel htw (fun _ _ _ hL => seqB_ready hL.1) hw (1 + p.len) q listed l a inv hl h (fun a' inv' hk => by
        rw [Nat.add_comm]
        refine ⟨by rw [hr]; simp, fun i hi => ?_⟩
        rw [hr] at hi
        obtain rfl : i = g := by simpa using hi
        refine ⟨hg, stepG_mono (fun a'' w'' ⟨C', hC', hsub, hrest⟩ => ⟨hsub _ hC', anyG_mono _ hsub _ _ _ (ih C' _ a'' w'' (inv'.set (by rw [hr]; simp) hg) hB' hC' hrest)⟩) hk⟩)
      rw [Plan.len, Nat.add_assoc]
      exact this
    · cases hB
  | two q g1 p1 g2 p2 ih1 ih2 =>
    intro C listed a w inv hB hw h
    simp only [planB] at hB
    split at hB
    · rename_i l hl
      simp only [Bool.and_eq_true, decide_eq_true_eq] at hB
      obtain ⟨⟨⟨⟨⟨hr, hg1⟩, hg2⟩, hlen⟩, hB1⟩, hB2⟩ := hB
      have := anyG_quiet (L := fun listed a w => Region.seqB md ops (ops.size - n) n listed = true ∧ Qt a w) hsel htw (fun _ _ _ hL => seqB_ready hL.1) hw (1 + p1.len) q listed l a inv hl h (fun a' inv' hk => by
        rw [Nat.add_comm]
        refine ⟨by rw [hr]; simp, fun i hi => ?_⟩
        have hi0 := hi
        rw [hr] at hi
        simp only [List.mem_cons, List.not_mem_nil, or_false] at hi
        rcases hi with rfl | rfl
        · exact ⟨hg1, stepG_mono (fun a'' w'' ⟨C', hC', hsub, hrest⟩ => ⟨hsub _ hC', anyG_mono _ hsub _ _ _ (ih1 C' _ a'' w'' (inv'.set hi0 hg1) hB1 hC' hrest)⟩) hk.1⟩
        · rw [hlen]
          exact ⟨hg2, stepG_mono (fun a'' w'' ⟨C', hC', hsub, hrest⟩ => ⟨hsub _ hC', anyG_mono _ hsub _ _ _ (ih2 C' _ a'' w'' (inv'.set hi0 hg2) hB2 hC' hrest)⟩) hk.2⟩)
      rw [Plan.len, Nat.add_assoc]
      exact this
    · cases hB

theorem wp_regionP {id : Nat} {Q : Exit → Act → World → Prop} {a : Act} {w : World} {l : List Oper} {C : World → Prop} (n : Nat) (p : Plan) (hm : P.follows .mixedOrders = true)
    (hB : (Region.noSelect l.toArray && tailB .any l.toArray n && planB .any l.toArray n p (Array.replicate l.length false) && decide (p.len = n)) = true) (hC : C w.drew)
    (h : walkP P l.toArray (fun a w => wpList P l.toArray Q (l.drop n) a w) p C a w.drew) : (Code.region id l.toArray true).wp P Q a w := by
  simp only [Bool.and_eq_true, decide_eq_true_eq] at hB
  obtain ⟨⟨⟨hsel, ht⟩, ho⟩, hlen⟩ := hB
  have htw : ∀ listed, HeadInv .any l.toArray n listed → ∀ i, i < n → listed.getD i true = false → ∀ t, n ≤ t → t ∉ Region.ready .any l.toArray listed := by
    intro listed inv i hi hun t ht' hr
    simp only [tailB, Bool.or_eq_true, Bool.and_eq_true, decide_eq_true_eq] at ht
    rcases ht with rfl | ⟨⟨hn, hs⟩, hc⟩
    · obtain ⟨_, o, ho, _⟩ := mem_ready.1 hr
      have := (Array.getElem?_eq_some_iff.1 ho).1
      omega
    · exact tail_waits hs hc hn inv _ i rfl hi hun t ht' hr
  have hnl : n ≤ l.length := by
    simp only [tailB, Bool.or_eq_true, Bool.and_eq_true, decide_eq_true_eq] at ht
    rcases ht with h | ⟨⟨h, _⟩, _⟩
    · rw [h]; simp
    · have : n < l.length := by simpa using h
      omega
  have inv0 : HeadInv .any l.toArray n (Array.replicate l.length false) :=
    ⟨by simp, fun j oj _ hl => (by rw [getD_replicate_false] at hl; cases hl), fun t _ ht => getD_in (by simpa using ht) (getD_replicate_false _ _)⟩
  have H := anyG_plan (md := .any) hsel htw p C _ a w.drew inv0 ho hC h
  refine wp_region_any hm ?_
  have hdl : (l.drop n).length = l.toArray.size - n := by simp
  have := wpAny_of_anyG (Q' := Q) (g := l.toArray.size - n) (fun listed a' w' hL => by
    have := wpAny_of_seq (md := .any) (Q' := Q) (l.drop n) n listed a' w' (fun j => by simp [List.getElem?_drop]) (by rw [hdl]; exact hL.1) hL.2
    rwa [hdl] at this) _ _ _ _ _ H
  rw [hlen, show n + (l.toArray.size - n) = l.toArray.size by simp; omega] at this
  simpa using this

/-- The walk over things that are there. -/
def walkPS (P : Program) (l : List Oper) (w0 : World) (bs : List Nat) (Q : Act → World → Prop) : Plan → List Res → Act → World → Prop
  | .done last, L, a, w => wpQuiet P l.toArray (fun w' => ∃ p : StW w w0 bs L, w' = p.w) (fun a' => Q a' w) (pick l last) a
  | .one h g p, L, a, w => wpQuiet P l.toArray (fun w' => ∃ p : StW w w0 bs L, w' = p.w)
      (fun a' => wpList P l.toArray (Qn fun a'' w'' => ∃ L', St w0 bs w'' L' ∧ Sel L L' ∧ walkPS P l w0 bs Q p L' a'' w'') (pick l [g]) a' w) (pick l h) a
  | .two h g1 p1 g2 p2, L, a, w => wpQuiet P l.toArray (fun w' => ∃ p : StW w w0 bs L, w' = p.w)
      (fun a' => wpList P l.toArray (Qn fun a'' w'' => ∃ L', St w0 bs w'' L' ∧ Sel L L' ∧ walkPS P l w0 bs Q p1 L' a'' w'') (pick l [g1]) a' w ∧
        wpList P l.toArray (Qn fun a'' w'' => ∃ L', St w0 bs w'' L' ∧ Sel L L' ∧ walkPS P l w0 bs Q p2 L' a'' w'') (pick l [g2]) a' w) (pick l h) a
def fitsP (l : List Oper) : Plan → Bool
  | .done last => inB l last && quietOps (pick l last)
  | .one h g p => inB l h && quietOps (pick l h) && decide (g < l.length) && fitsP l p
  | .two h g1 p1 g2 p2 => inB l h && quietOps (pick l h) && decide (g1 < l.length) && decide (g2 < l.length) && fitsP l p1 && fitsP l p2
theorem walkP_of_walkPS {l : List Oper} {w0 : World} {bs : List Nat} {Q : Act → World → Prop} : ∀ (p : Plan) (L : List Res) (a : Act) (w : World), fitsP l p = true → St w0 bs w L →
    walkPS P l w0 bs Q p L a w → walkP P l.toArray Q p (fun w' => ∃ p : StW w w0 bs L, w' = p.w) a w := by
  intro p
  induction p with
  | done last =>
    intro L a w hf S h
    simp only [fitsP, Bool.and_eq_true] at hf
    exact qI_of_wpQuiet _ _ hf.1 hf.2 h
  | one q g p ih =>
    intro L a w hf S h
    simp only [fitsP, Bool.and_eq_true, decide_eq_true_eq] at hf
    obtain ⟨⟨⟨h1, h2⟩, h3⟩, h4⟩ := hf
    have hg : l[g]? = some l[g] := List.getElem?_eq_getElem h3
    refine qI_of_wpQuiet _ _ h1 h2 (wpQuiet_mono (fun a' hk => ?_) _ _ h)
    simp only [pick, hg] at hk
    refine stepG_mono (fun a'' w'' ⟨L', S', hs, hrest⟩ => ?_) (stepG_of_wpList (o := l[g]) (by simp [hg]) hk)
    exact ⟨fun w' => ∃ p : StW w'' w0 bs L', w' = p.w, ⟨⟨w'', .inl rfl⟩, rfl⟩, fun x hx => ((S'.of hx).sel hs).inSt w, ih L' a'' w'' h4 S' hrest⟩
  | two q g1 p1 g2 p2 ih1 ih2 =>
    intro L a w hf S h
    simp only [fitsP, Bool.and_eq_true, decide_eq_true_eq] at hf
    obtain ⟨⟨⟨⟨⟨h1, h2⟩, h3⟩, h3'⟩, h4⟩, h5⟩ := hf
    have hg1 : l[g1]? = some l[g1] := List.getElem?_eq_getElem h3
    have hg2 : l[g2]? = some l[g2] := List.getElem?_eq_getElem h3'
    refine qI_of_wpQuiet _ _ h1 h2 (wpQuiet_mono (fun a' hk => ?_) _ _ h)
    simp only [pick, hg1, hg2] at hk
    refine ⟨stepG_mono (fun a'' w'' ⟨L', S', hs, hrest⟩ => ?_) (stepG_of_wpList (o := l[g1]) (by simp [hg1]) hk.1), stepG_mono (fun a'' w'' ⟨L', S', hs, hrest⟩ => ?_) (stepG_of_wpList (o := l[g2]) (by simp [hg2]) hk.2)⟩
    · exact ⟨fun w' => ∃ p : StW w'' w0 bs L', w' = p.w, ⟨⟨w'', .inl rfl⟩, rfl⟩, fun x hx => ((S'.of hx).sel hs).inSt w, ih1 L' a'' w'' h4 S' hrest⟩
    · exact ⟨fun w' => ∃ p : StW w'' w0 bs L', w' = p.w, ⟨⟨w'', .inl rfl⟩, rfl⟩, fun x hx => ((S'.of hx).sel hs).inSt w, ih2 L' a'' w'' h5 S' hrest⟩
/-- A region that draws, by a plan. -/
theorem St.regionP {id : Nat} {Q : Exit → Act → World → Prop} {a : Act} {w w0 : World} {bs : List Nat} {L : List Res} {l : List Oper} (S : St w0 bs w L) (n : Nat) (p : Plan)
    (h : ∀ w', Chg [] w w' → St w0 bs w' L → walkPS P l w0 bs (fun a w => wpList P l.toArray Q (l.drop n) a w) p L a w')
    (hf : fitsP l p = true := by kernel_rfl)
    (hm : P.follows .mixedOrders = true := by kernel_rfl)
    (hB : (Region.noSelect l.toArray && tailB .any l.toArray n && planB .any l.toArray n p (Array.replicate l.length false) && decide (p.len = n)) = true := by kernel_rfl) : (Code.region id l.toArray true).wp P Q a w :=
  wp_regionP (C := fun w' => ∃ p : StW w.drew w0 bs L, w' = p.w) n p hm hB ⟨⟨w.drew, .inl rfl⟩, rfl⟩ (walkP_of_walkPS p L a w.drew hf S.drew (h _ ⟨rfl, rfl, rfl, Nat.le_refl _, fun _ _ _ => rfl⟩ S.drew))
end
end Go.Vil
end
section
namespace Go.Vil
open Go Go.RowKit
set_option linter.unusedVariables false
section
variable {P : Program}
/-- The walk over a class of worlds that stays, by a plan. -/
def walkPC (P : Program) (l : List Oper) (C : World → Prop) (Q : Act → World → Prop) : Plan → Act → World → Prop
  | .done last, a, w => wpQuiet P l.toArray C (fun a' => Q a' w) (pick l last) a
  | .one h g p, a, w => wpQuiet P l.toArray C
      (fun a' => wpList P l.toArray (Qn fun a'' w'' => C w'' ∧ walkPC P l C Q p a'' w'') (pick l [g]) a' w) (pick l h) a
  | .two h g1 p1 g2 p2, a, w => wpQuiet P l.toArray C
      (fun a' => wpList P l.toArray (Qn fun a'' w'' => C w'' ∧ walkPC P l C Q p1 a'' w'') (pick l [g1]) a' w ∧
        wpList P l.toArray (Qn fun a'' w'' => C w'' ∧ walkPC P l C Q p2 a'' w'') (pick l [g2]) a' w) (pick l h) a
theorem walkP_of_walkPC {l : List Oper} {C : World → Prop} {Q : Act → World → Prop} : ∀ (p : Plan) (a : Act) (w : World), fitsP l p = true → walkPC P l C Q p a w → walkP P l.toArray Q p C a w := by
  intro p
  induction p with
  | done last =>
    intro a w hf h
    simp only [fitsP, Bool.and_eq_true] at hf
    exact qI_of_wpQuiet _ _ hf.1 hf.2 h
  | one q g p ih =>
    intro a w hf h
    simp only [fitsP, Bool.and_eq_true, decide_eq_true_eq] at hf
    obtain ⟨⟨⟨h1, h2⟩, h3⟩, h4⟩ := hf
    have hg : l[g]? = some l[g] := List.getElem?_eq_getElem h3
    refine qI_of_wpQuiet _ _ h1 h2 (wpQuiet_mono (fun a' hk => ?_) _ _ h)
    simp only [pick, hg] at hk
    refine stepG_mono (fun a'' w'' ⟨hC, hrest⟩ => ?_) (stepG_of_wpList (o := l[g]) (by simp [hg]) hk)
    exact ⟨C, hC, fun _ h => h, ih a'' w'' h4 hrest⟩
  | two q g1 p1 g2 p2 ih1 ih2 =>
    intro a w hf h
    simp only [fitsP, Bool.and_eq_true, decide_eq_true_eq] at hf
    obtain ⟨⟨⟨⟨⟨h1, h2⟩, h3⟩, h3'⟩, h4⟩, h5⟩ := hf
    have hg1 : l[g1]? = some l[g1] := List.getElem?_eq_getElem h3
    have hg2 : l[g2]? = some l[g2] := List.getElem?_eq_getElem h3'
    refine qI_of_wpQuiet _ _ h1 h2 (wpQuiet_mono (fun a' hk => ?_) _ _ h)
    simp only [pick, hg1, hg2] at hk
    refine ⟨stepG_mono (fun a'' w'' ⟨hC, hrest⟩ => ?_) (stepG_of_wpList (o := l[g1]) (by simp [hg1]) hk.1), stepG_mono (fun a'' w'' ⟨hC, hrest⟩ => ?_) (stepG_of_wpList (o := l[g2]) (by simp [hg2]) hk.2)⟩
    · exact ⟨C, hC, fun _ h => h, ih1 a'' w'' h4 hrest⟩
    · exact ⟨C, hC, fun _ h => h, ih2 a'' w'' h5 hrest⟩
/-- A region that draws, by a plan; what only reads does so in the things of Lc. -/
theorem St.regionPC {id : Nat} {Q : Exit → Act → World → Prop} {a : Act} {w w0 : World} {bs : List Nat} {L : List Res} {l : List Oper} (S : St w0 bs w L) (Lc : List Res) (n : Nat) (p : Plan)
    (h : ∀ w', Chg [] w w' → St w0 bs w' L → St w0 bs w' Lc → walkPC P l (fun w'' => ∃ p : StW w' w0 bs Lc, w'' = p.w) (fun a w => wpList P l.toArray Q (l.drop n) a w) p a w')
    (hs : Sel Lc L := by repeat (first | exact Sel.nil | (apply Sel.cons; (repeat (first | exact Pull.head | apply Pull.tail)))))
    (hf : fitsP l p = true := by kernel_rfl)
    (hm : P.follows .mixedOrders = true := by kernel_rfl)
    (hB : (Region.noSelect l.toArray && tailB .any l.toArray n && planB .any l.toArray n p (Array.replicate l.length false) && decide (p.len = n)) = true := by kernel_rfl) : (Code.region id l.toArray true).wp P Q a w :=
  wp_regionP (C := fun w' => ∃ p : StW w.drew w0 bs Lc, w' = p.w) n p hm hB ⟨⟨w.drew, .inl rfl⟩, rfl⟩ (walkP_of_walkPC p a w.drew hf (h _ ⟨rfl, rfl, rfl, Nat.le_refl _, fun _ _ _ => rfl⟩ S.drew (S.drew.sel hs)))
end
end Go.Vil
end
section
namespace Go.Vil
open Go Go.RowKit
set_option linter.unusedSimpArgs false
set_option linter.unusedVariables false

theorem Src.on {w w' : World} {size : Nat} {v : Value} {n : Nat} {xs : List Value} (h : Src w size v n xs) (C : Chg [] w w') : Src w' size v n xs := by
  obtain ⟨h1, h2, h3⟩ := h
  refine ⟨h1, h2, ?_⟩
  match v, h3 with
  | .slice (some ad) m _, ⟨e, hx⟩ => exact ⟨e, fun j u hu => C.cell (hx j u hu) (by simp)⟩
  | .slice none m _, h3 => exact h3
  | .string s, h3 => exact h3

theorem Addr.add_add (ad : Addr) (i j : Nat) : (ad.add i).add j = ad.add (i + j) := by
  by_cases hi : i = 0
  · subst hi; simp [Addr.add]
  · by_cases hj : j = 0
    · subst hj; simp [Addr.add]
    · simp [Addr.add, hi, hj, Nat.add_assoc]

/-- A part of a source of bytes. -/
theorem Src.sub {w : World} {ad : Addr} {n c : Nat} {l : List UInt8} (h : Src w 1 (.slice (some ad) n c) n (u8s l)) (o m c' : Nat) (hl : o + m ≤ n) : Src w 1 (.slice (some (ad.add o)) m c') m (u8s ((l.drop o).take m)) := by
  have hn : l.length = n := by simpa using h.1
  refine Src.cells (by simp; omega) (u8s_one _) fun j u hu => ?_
  rw [Addr.add_add]
  refine h.2.2.2 _ _ ?_
  rw [u8s_take, List.getElem?_take] at hu
  split at hu
  · rw [u8s_drop, List.getElem?_drop] at hu; exact hu
  · cases hu
/-- A byte of a source. -/
theorem Src.byte {w : World} {ad : Addr} {n c : Nat} {l : List UInt8} (h : Src w 1 (.slice (some ad) n c) n (u8s l)) (k : Nat) (hk : k < n) : w.cell? (ad.add k) = some (.int .u8 ((l.getD k 0).toNat : Int)) := by
  have hn : l.length = n := by simpa using h.1
  refine h.2.2.2 _ _ ?_
  rw [u8s_get?]
  simp [List.getD, List.getElem?_eq_getElem (show k < l.length by omega)]
theorem Src.len8 {w : World} {v : Value} {n : Nat} {l : List UInt8} (h : Src w 1 v n (u8s l)) : l.length = n := by simpa using h.1

theorem Src.tail {w : World} {ad : Addr} {n c : Nat} {l : List UInt8} (h : Src w 1 (.slice (some ad) n c) n (u8s l)) (o c' : Nat) (hl : o ≤ n) : Src w 1 (.slice (some (ad.add o)) (n - o) c') (n - o) (u8s (l.drop o)) := by
  have hn : l.length = n := h.len8
  have := h.sub o (n - o) c' (by omega)
  rwa [List.take_of_length_le (by simp; omega)] at this

/-- The first elements of a source. -/
theorem Src.firsts {w : World} {oa : Option Addr} {n c : Nat} {l : List UInt8} (h : Src w 1 (.slice oa n c) n (u8s l)) (k c' : Nat) (hk : k ≤ n) : Src w 1 (.slice oa k c') k (u8s (l.take k)) := by
  cases oa with
  | none =>
    have h1 := (h.2.2 : n = n ∧ u8s l = []).2
    have h2 := h.len8
    simp [u8s] at h1; subst h1
    simp at h2
    obtain rfl : k = 0 := by omega
    exact Src.nil w 1 _
  | some ad =>
    have := h.sub 0 k c' (by omega)
    rwa [Addr.add_zero', List.drop_zero] at this

/-- What is copied to a part of a block that begins where the block ends is nothing. -/
theorem splice_end {α : Type} (l xs : List α) (i j d : Nat) (hj : j = i ∨ d = 0) : splice l j (xs.take (Nat.min xs.length d)) = splice l i (xs.take (Nat.min xs.length d)) := by
  rcases hj with rfl | rfl
  · rfl
  · simp [splice_nil]

theorem take_min {α : Type} (xs : List α) (d : Nat) (h : xs.length ≤ d) : xs.take (Nat.min xs.length d) = xs := by
  show xs.take (min xs.length d) = xs
  rw [Nat.min_eq_left h, List.take_length]

/-- Where a part of a slice begins: at the end of its room it stays where it was. -/
def cutAt (ad : Addr) (o c s : Nat) : Addr := if c = o then ad else ad.add (o * s)
theorem Src.cut {w : World} {ad : Addr} {n c : Nat} {l : List UInt8} (h : Src w 1 (.slice (some ad) n c) n (u8s l)) (o m c' : Nat) (hl : o + m ≤ n) (hc : n ≤ c) : Src w 1 (.slice (some (cutAt ad o c 1)) m c') m (u8s ((l.drop o).take m)) := by
  unfold cutAt
  split
  · obtain rfl : m = 0 := by omega
    exact Src.cells (by simp [u8s]) (by simp [u8s]) (by simp [u8s])
  · rw [Nat.mul_one]; exact h.sub o m c' hl

section
variable {P : Program} {ops : Array Oper} {Q : Exit → Act → World → Prop} {rest : List Oper} {o : Oper} {a : Act} {w w' : World}

/-- A load of a cell that was there ahead of all. -/
theorem wpList_ldc {w0 : World} {L : List Res} (S : St w0 [] w L) {a' : Act} {ty : TypeId} {x : Operand} {ad : Addr} {v : Value}
    (k : wpList P ops Q rest a' w)
    (hw : Region.wanted o (yielded ops a.tmps) = true := by rfl) (ho : o.op = .load ty x := by rfl) (hT0 : TOne P ty := by infer_instance) (ha : slot a x = some (.pointer (some ad)) := by rfl)
    (hc : w0.cell? ad = some v := by assumption) (hput : Put a o.dst v a' := by exact put_of (by conv => lhs; simp only [List.set_cons_succ, List.set_cons_zero])) : wpList P ops Q (o :: rest) a w :=
  wpList_run hw (run_ld ty x ho (eval_slot ha) (S.chg.cell hc (by simp))) (hput.is ▸ k)
theorem quiet_ldc {w0 : World} {L : List Res} (S : St w0 [] w L) {K : Act → Prop} {a' : Act} {ty : TypeId} {x : Operand} {ad : Addr} {v : Value}
    (k : K a')
    (ho : o.op = .load ty x := by rfl) (hT0 : TOne P ty := by infer_instance) (ha : slot a x = some (.pointer (some ad)) := by rfl)
    (hc : w0.cell? ad = some v := by assumption) (hput : Put a o.dst v a' := by exact put_of (by conv => lhs; simp only [List.set_cons_succ, List.set_cons_zero])) : o.quiet P a (fun w' => ∃ p : StW w w0 [] L, w' = p.w) K :=
  quiet_run (fun _ hS => have S := S.of hS; run_ld ty x ho (eval_slot ha) (S.chg.cell hc (by simp))) (hput.is ▸ k)

theorem run_slc {ty e : TypeId} {z : Value} {size bytes : Nat} [ht : TSlice P ty e] [he : TElem P e z size bytes] (x lo hi : Operand) (ho : o.op = .slice ty x (some lo) (some hi) none) {ad : Addr} {n c : Nat} (hx : a.eval x = .slice (some ad) n c) {kl kh : IntKind} {l h : Int} (hlo : a.eval lo = .int kl l) (hhi : a.eval hi = .int kh h)
    (h0 : 0 ≤ l) (h1 : l ≤ h) (h2 : h ≤ c) : (execOp a.eval o).run P w = .ok (.value (.slice (some (cutAt ad l.toNat c size)) (h.toNat - l.toNat) (c - l.toNat))) w := by
  obtain ⟨inf, hi, hz, hsize, hby, hzs⟩ := he.is
  subst hsize
  have eh : (h.toNat : Int) = h := Int.toNat_of_nonneg (by omega)
  simp [execOp, ho, hx, hlo, hhi, Instr.sliceAt, Instr.slice, run_underlying ht.is, sizeOf, typeInfo, hi, Instr.sliceBounds, run_sliceBound, h0, h1, h2, eh, (by omega : 0 ≤ h), cutAt]
  split <;> simp
/-- A part of a slice, wherever it ends. -/
theorem wpList_slc {ty e : TypeId} {z : Value} {size bytes : Nat} {x lo hi : Operand} {ad : Addr} {n c : Nat} {kl kh : IntKind} {l h : Int} {a' : Act} (ln m : Nat)
    (k : wpList P ops Q rest a' w)
    (hw : Region.wanted o (yielded ops a.tmps) = true := by rfl) (ho : o.op = .slice ty x (some lo) (some hi) none := by rfl) (ht : TSlice P ty e := by infer_instance) (he : TElem P e z size bytes := by infer_instance)
    (hx : slot a x = some (.slice (some ad) n c) := by rfl) (hlo : slot a lo = some (.int kl l) := by rfl) (hhi : slot a hi = some (.int kh h) := by rfl)
    (hl : l.toNat = ln := by omega) (hm : h.toNat = ln + m := by omega) (h0 : 0 ≤ l := by omega) (h1 : l ≤ h := by omega) (h2 : h ≤ c := by omega)
    (hput : Put a o.dst (.slice (some (cutAt ad ln c size)) m (c - ln)) a' := by exact put_of (by conv => lhs; simp only [List.set_cons_succ, List.set_cons_zero])) : wpList P ops Q (o :: rest) a w := by
  have := run_slc (P := P) (w := w) (o := o) (a := a) x lo hi ho (eval_slot hx) (eval_slot hlo) (eval_slot hhi) h0 h1 h2
  rw [hl, hm, Nat.add_sub_cancel_left] at this
  exact wpList_run hw this (hput.is ▸ k)

theorem run_slcL {ty e : TypeId} {z : Value} {bytes : Nat} [ht : TSlice P ty e] [he : TElem P e z 1 bytes] (x lo : Operand) (ho : o.op = .slice ty x (some lo) none none) {b i n c : Nat} (hx : a.eval x = .slice (some ⟨b, i, none⟩) n c) {kl : IntKind} {l : Int} (hlo : a.eval lo = .int kl l)
    (h0 : 0 ≤ l) (h1 : l ≤ n) : (execOp a.eval o).run P w = .ok (.value (.slice (some ⟨b, if c = l.toNat then i else i + l.toNat, none⟩) (n - l.toNat) (c - l.toNat))) w := by
  obtain ⟨inf, hi, hz, hsize, hby, hzs⟩ := he.is
  simp [execOp, ho, hx, hlo, Instr.sliceAt, Instr.slice, run_underlying ht.is, sizeOf, typeInfo, hi, hsize, Instr.sliceBounds, run_sliceBound, h0, h1]
  split
  · rfl
  · rw [Addr.add_lit]
/-- x[l:] of a block of bytes: at the end of its room it stays where it was. -/
theorem wpList_slcL {ty e : TypeId} {z : Value} {bytes : Nat} {x lo : Operand} {b i n c : Nat} {kl : IntKind} {l : Int} {a' : Nat → Act} (ln : Nat)
    (k : ∀ j, (j = i + ln ∨ (j = i ∧ c = ln)) → wpList P ops Q rest (a' j) w)
    (hw : Region.wanted o (yielded ops a.tmps) = true := by rfl) (ho : o.op = .slice ty x (some lo) none none := by rfl) (ht : TSlice P ty e := by infer_instance) (he : TElem P e z 1 bytes := by infer_instance)
    (hx : slot a x = some (.slice (some ⟨b, i, none⟩) n c) := by rfl) (hlo : slot a lo = some (.int kl l) := by rfl)
    (hl : l.toNat = ln := by omega) (h0 : 0 ≤ l := by omega) (h1 : l ≤ n := by omega)
    (hput : ∀ j, Put a o.dst (.slice (some ⟨b, j, none⟩) (n - ln) (c - ln)) (a' j) := by (intro _; exact put_of (by conv => lhs; simp only [List.set_cons_succ, List.set_cons_zero]))) : wpList P ops Q (o :: rest) a w := by
  have := run_slcL (P := P) (w := w) (o := o) (a := a) x lo ho (eval_slot hx) (eval_slot hlo) h0 h1
  rw [hl] at this
  exact wpList_run hw this ((hput _).is ▸ k _ (by split; exact .inr ⟨rfl, by assumption⟩; exact .inl rfl))

/-- A load out of a block whose cells are not told one by one. -/
theorem wpList_ldG {w0 : World} {bs : List Nat} {L F : List Res} (S : St w0 bs w L) {a' : Act} {ty : TypeId} {x : Operand} {b i : Nat} {c : List Value} {T : TypeId} {fr : Nat × Nat}
    (k : wpList P ops Q rest a' w)
    (hw : Region.wanted o (yielded ops a.tmps) = true := by rfl) (ho : o.op = .load ty x := by rfl) (hT0 : TOne P ty := by infer_instance) (ha : slot a x = some (.pointer (some ⟨b, i, none⟩)) := by rfl)
    (hp : Pull (.blk b (.cells c.toArray T fr)) L F := by repeat (first | exact Pull.head | apply Pull.tail)) (hi : i < c.length := by (first | omega | (simp; omega))) (hput : Put a o.dst (c.getD i undef) a' := by exact put_of (by conv => lhs; simp only [List.set_cons_succ, List.set_cons_zero])) : wpList P ops Q (o :: rest) a w :=
  wpList_run hw (run_ld ty x ho (eval_slot ha) ((cell_at (S.blk hp)).trans (by simp [List.getD, List.getElem?_eq_getElem hi]))) (hput.is ▸ k)
/-- A store into a block whose cells are not told one by one. -/
theorem wpList_stG {w0 : World} {bs : List Nat} {L L' : List Res} (S : St w0 bs w L) {ty : TypeId} {x y : Operand} {b i : Nat} {c : List Value} {T : TypeId} {v : Value}
    (k : ∀ w', St w0 bs w' L' → wpList P ops Q rest a w')
    (hw : Region.wanted o (yielded ops a.tmps) = true := by rfl) (ho : o.op = .store ty x y := by rfl) (hd : o.dst = none := by rfl) (hT0 : TOne P ty := by infer_instance) (ha : slot a x = some (.pointer (some ⟨b, i, none⟩)) := by rfl) (hv : slot a y = some v := by rfl)
    (hA : At (.blk b (.cells c.toArray T (0, 0))) (.blk b (.cells (c.set i v).toArray T (0, 0))) L L' := by repeat (first | exact At.head | apply At.tail))
    (hi : i < c.length := by (first | decide | (simp; done) | omega | (simp; omega)))
    (hv1 : v.oneCell' = true := by rfl) : wpList P ops Q (o :: rest) a w :=
  wpList_st S k hw ho hd hT0 ha hv hA hi rfl hv1

/-- append(x, y...): y a source that was there ahead of all. -/
theorem wpList_appO {w0 : World} {L F : List Res} (S : St w0 [] w L) {sv : Value} {m : Nat} {news : List UInt8} (hs : Src w0 1 sv m (u8s news)) {a' : Value → Act} {x y : Operand} {t tx e : TypeId} {z : Value} {bytes n : Nat} {v : Value} {xs : List UInt8}
    (k : ∀ v' w', (v' = .slice none 0 0 ↔ n + m = 0 ∧ v = .slice none 0 0) → St w0 [] w' (.row e 1 v' (n + m) (u8s (xs ++ news)) :: F) → wpList P ops Q rest (a' v') w')
    (hw : Region.wanted o (yielded ops a.tmps) = true := by rfl) (ho : o.op = .call { callee := .builtin .append, args := #[x, y], argTypes := #[t, tx] } := by rfl)
    (ht : TSlice P t e := by infer_instance) (htx : TRow P tx := by infer_instance) (he : TElem P e z 1 bytes := by infer_instance)
    (hx : slot a x = some v := by rfl) (hy : slot a y = some sv := by rfl)
    (hp : Pull (.row e 1 v n (u8s xs)) L F := by repeat (first | exact Pull.head | apply Pull.tail))
    (h63 : n + m ≤ maxLen := by (unfold maxLen; first | omega | (simp; omega))) (hb : (n + m) * bytes ≤ 140737488355328 := by first | omega | (simp; omega))
    (hput : ∀ v', Put a o.dst v' (a' v') := by (intro _; exact put_of (by conv => lhs; simp only [List.set_cons_succ, List.set_cons_zero]))) : wpList P ops Q (o :: rest) a w :=
  wpList_app S (hs.on S.chg) (fun v' w' h S => k v' w' h (by rw [u8s_append]; exact S)) hw ho ht htx he hx hy hp (by decide) h63 hb hput
/-- append([]byte{}, y...): y a source that was there ahead of all. -/
theorem wpList_appO0 {w0 : World} {L F : List Res} (S : St w0 [] w L) {sv : Value} {m : Nat} {news : List UInt8} (hs : Src w0 1 sv m (u8s news)) {a' : Value → Act} {x y : Operand} {t tx e : TypeId} {z : Value} {bytes : Nat} {v : Value}
    (k : ∀ v' w', (v' = .slice none 0 0 ↔ m = 0 ∧ v = .slice none 0 0) → St w0 [] w' (.row e 1 v' m (u8s news) :: F) → wpList P ops Q rest (a' v') w')
    (hw : Region.wanted o (yielded ops a.tmps) = true := by rfl) (ho : o.op = .call { callee := .builtin .append, args := #[x, y], argTypes := #[t, tx] } := by rfl)
    (ht : TSlice P t e := by infer_instance) (htx : TRow P tx := by infer_instance) (he : TElem P e z 1 bytes := by infer_instance)
    (hx : slot a x = some v := by rfl) (hy : slot a y = some sv := by rfl)
    (hp : Pull (.row e 1 v 0 (u8s [])) L F := by first | exact Pull.head | exact Pull.tail .head | exact Pull.tail (.tail .head) | exact Pull.tail (.tail (.tail .head)) | exact Pull.tail (.tail (.tail (.tail .head))) | exact Pull.tail (.tail (.tail (.tail (.tail .head)))) | exact Pull.tail (.tail (.tail (.tail (.tail (.tail .head))))) | exact Pull.tail (.tail (.tail (.tail (.tail (.tail (.tail .head)))))) | exact Pull.tail (.tail (.tail (.tail (.tail (.tail (.tail (.tail .head))))))) | exact Pull.tail (.tail (.tail (.tail (.tail (.tail (.tail (.tail (.tail .head)))))))))
    (h63 : m ≤ maxLen := by (unfold maxLen; first | omega | (simp; omega))) (hb : m * bytes ≤ 140737488355328 := by first | omega | (simp; omega))
    (hput : ∀ v', Put a o.dst v' (a' v') := by (intro _; exact put_of (by conv => lhs; simp only [List.set_cons_succ, List.set_cons_zero]))) : wpList P ops Q (o :: rest) a w :=
  wpList_appO S hs (fun v' w' h S => k v' w' (by rwa [Nat.zero_add] at h) (by rwa [Nat.zero_add, List.nil_append] at S)) hw ho ht htx he hx hy hp (by rwa [Nat.zero_add]) (by rwa [Nat.zero_add]) hput
/-- append(x, y...): x and y rows of the call's own, the two apart. -/
theorem wpList_appR {w0 : World} {bs : List Nat} {L F F' : List Res} (S : St w0 bs w L) {sv : Value} {m : Nat} {news : List UInt8} {a' : Value → Act} {x y : Operand} {t tx e e' : TypeId} {z : Value} {bytes n : Nat} {v : Value} {xs : List UInt8}
    (k : ∀ v' w', (v' = .slice none 0 0 ↔ n + m = 0 ∧ v = .slice none 0 0) → St w0 bs w' (.row e 1 v' (n + m) (u8s (xs ++ news)) :: F) → wpList P ops Q rest (a' v') w')
    (hw : Region.wanted o (yielded ops a.tmps) = true := by rfl) (ho : o.op = .call { callee := .builtin .append, args := #[x, y], argTypes := #[t, tx] } := by rfl)
    (ht : TSlice P t e := by infer_instance) (htx : TRow P tx := by infer_instance) (he : TElem P e z 1 bytes := by infer_instance)
    (hx : slot a x = some v := by rfl) (hy : slot a y = some sv := by rfl)
    (hp : Pull (.row e 1 v n (u8s xs)) L F := by repeat (first | exact Pull.head | apply Pull.tail)) (hp' : Pull (.row e' 1 sv m (u8s news)) F F' := by repeat (first | exact Pull.head | apply Pull.tail))
    (h63 : n + m ≤ maxLen := by (unfold maxLen; first | omega | (simp; omega))) (hb : (n + m) * bytes ≤ 140737488355328 := by first | omega | (simp; omega))
    (hput : ∀ v', Put a o.dst v' (a' v') := by (intro _; exact put_of (by conv => lhs; simp only [List.set_cons_succ, List.set_cons_zero]))) : wpList P ops Q (o :: rest) a w := by
  have hown : w.ownsRow 0 e' 1 sv m (u8s news) := (S.perm hp.perm).mem.2 _ (List.mem_cons_of_mem _ hp'.mem)
  exact wpList_app S (Src.row hown (u8s_one _)) (fun v' w' h S => k v' w' h (by rw [u8s_append]; exact S)) hw ho ht htx he hx hy hp (by decide) h63 hb hput
/-- append(x, s...): s a string. -/
theorem wpList_appT {w0 : World} {bs : List Nat} {L F : List Res} (S : St w0 bs w L) {s : ByteArray} {a' : Value → Act} {x y : Operand} {t tx e : TypeId} {z : Value} {bytes n : Nat} {v : Value} {xs : List UInt8}
    (k : ∀ v' w', (v' = .slice none 0 0 ↔ n + s.size = 0 ∧ v = .slice none 0 0) → St w0 bs w' (.row e 1 v' (n + s.size) (u8s (xs ++ s.data.toList)) :: F) → wpList P ops Q rest (a' v') w')
    (hw : Region.wanted o (yielded ops a.tmps) = true := by rfl) (ho : o.op = .call { callee := .builtin .append, args := #[x, y], argTypes := #[t, tx] } := by rfl)
    (ht : TSlice P t e := by infer_instance) (htx : TRow P tx := by infer_instance) (he : TElem P e z 1 bytes := by infer_instance)
    (hx : slot a x = some v := by rfl) (hy : slot a y = some (.string s) := by rfl)
    (hp : Pull (.row e 1 v n (u8s xs)) L F := by repeat (first | exact Pull.head | apply Pull.tail))
    (h63 : n + s.size ≤ maxLen := by (unfold maxLen; first | omega | (simp; omega))) (hb : (n + s.size) * bytes ≤ 140737488355328 := by first | omega | (simp; omega))
    (hput : ∀ v', Put a o.dst v' (a' v') := by (intro _; exact put_of (by conv => lhs; simp only [List.set_cons_succ, List.set_cons_zero]))) : wpList P ops Q (o :: rest) a w :=
  wpList_app S (Src.string w s) (fun v' w' h S => k v' w' h (by rw [u8s_append]; exact S)) hw ho ht htx he hx hy hp (by decide) h63 hb hput
/-- []T{}: a row. -/
theorem wpList_bs0 {w0 : World} {bs : List Nat} {L : List Res} (S : St w0 bs w L) {a' : Nat → Act} {ty e : TypeId} {z : Value} {bytes : Nat}
    (k : ∀ n w', w0.heap.size ≤ n → St w0 bs w' (.row e 1 (.slice (some ⟨n, 0, none⟩) 0 0) 0 (u8s []) :: L) → wpList P ops Q rest (a' n) w')
    (hw : Region.wanted o (yielded ops a.tmps) = true := by rfl) (ho : o.op = .buildSlice ty 0 #[] := by rfl) (ht : TSlice P ty e := by infer_instance) (he : TElem P e z 1 bytes := by infer_instance)
    (hput : ∀ n, Put a o.dst (.slice (some ⟨n, 0, none⟩) 0 0) (a' n) := by (intro _; exact put_of (by conv => lhs; simp only [List.set_cons_succ, List.set_cons_zero]))) : wpList P ops Q (o :: rest) a w :=
  wpList_bs (len := 0) (parts := []) (size := 1) S (fun n w' hn S' => k n w' hn (by
    have := St.toRow8 (l := []) (n := 0) S' Pull.head rfl (by simp [maxLen])
    exact this)) hw ho ht he rfl rfl rfl rfl rfl (by decide) hput
/-- A row as a source. -/
theorem St.rowSrc {w0 : World} {bs : List Nat} {L F : List Res} (S : St w0 bs w L) {e : TypeId} {v : Value} {n : Nat} {l : List UInt8} (hp : Pull (.row e 1 v n (u8s l)) L F := by repeat (first | exact Pull.head | apply Pull.tail)) : Src w 1 v n (u8s l) :=
  Src.row (S.mem.2 _ hp.mem) (u8s_one _)
theorem St.rowSlice {w0 : World} {bs : List Nat} {L F : List Res} (S : St w0 bs w L) {e : TypeId} {v : Value} {n : Nat} {xs : List Value} (hp : Pull (.row e 1 v n xs) L F := by repeat (first | exact Pull.head | apply Pull.tail)) : ∃ a c, v = .slice a n c ∧ n ≤ c ∧ n ≤ maxLen := by
  rcases (S.mem.2 _ hp.mem : w.ownsRow 0 e 1 v n xs).2 with ⟨rfl, h⟩ | ⟨g, cap, cur, rfl, _, hg, h1, h2, _⟩
  · have : n = 0 := by have := (S.mem.2 _ hp.mem : w.ownsRow 0 e 1 _ n xs).1; simp [h] at this; omega
    subst this; exact ⟨none, 0, rfl, Nat.le_refl _, by simp [maxLen]⟩
  · exact ⟨_, _, rfl, h1, Nat.le_trans h1 h2⟩
theorem St.rowLe {w0 : World} {bs : List Nat} {L F : List Res} (S : St w0 bs w L) {e : TypeId} {ad : Option Addr} {n c size : Nat} {xs : List Value} (hp : Pull (.row e size (.slice ad n c) n xs) L F := by repeat (first | exact Pull.head | apply Pull.tail)) : n ≤ c := by
  rcases (S.mem.2 _ hp.mem : w.ownsRow 0 e size _ n xs).2 with ⟨h, _⟩ | ⟨g, cap, cur, h, _, hg, h1, h2, _⟩
  · cases h; exact Nat.le_refl _
  · cases h; exact h1
end
end Go.Vil
end
section
namespace Go.Vil
open Go Go.RowKit
set_option linter.unusedSimpArgs false
set_option linter.unusedVariables false

theorem block_add (a : Addr) (j : Nat) : (a.add j).block = a.block := by unfold Addr.add; split <;> rfl
/-- A source that does not lie in some blocks. -/
def Off (oa : Option Addr) (bs : List Nat) (xs : List Value) : Prop := xs = [] ∨ ∀ ad, oa = some ad → ad.block ∉ bs
theorem Src.over {w w' : World} {size n c : Nat} {oa : Option Addr} {xs : List Value} {bs : List Nat} (h : Src w size (.slice oa n c) n xs) (C : Chg bs w w') (hd : Off oa bs xs) : Src w' size (.slice oa n c) n xs := by
  refine ⟨h.1, h.2.1, ?_⟩
  have hm := h.2.2
  cases oa with
  | none => exact hm
  | some ad =>
    refine ⟨hm.1, fun j u hu => ?_⟩
    rcases hd with rfl | hd
    · simp at hu
    · exact C.cell (hm.2 j u hu) (by rw [block_add]; exact hd ad rfl)
theorem Off.mono {oa : Option Addr} {bs bs' : List Nat} {xs : List Value} (h : Off oa bs xs) (hs : ∀ b ∈ bs', b ∈ bs) : Off oa bs' xs :=
  h.imp id fun h ad e hb => h ad e (hs _ hb)
theorem Off.take {oa : Option Addr} {bs : List Nat} {xs : List UInt8} (h : Off oa bs (u8s xs)) (k : Nat) : Off oa bs (u8s (xs.take k)) :=
  h.imp (fun h => by rw [u8s_take, h]; simp) id
/-- What was there ahead of all does not lie in what was made since. -/
theorem St.off {w0 w : World} {L : List Res} (S : St w0 [] w L) {size n c : Nat} {oa : Option Addr} {xs : List Value} (hs : Src w0 size (.slice oa n c) n xs) {bs : List Nat} {F : List Res} (hp : PullsF bs L F := by repeat (first | exact PullsF.nil | (apply PullsF.cons; (repeat (first | exact PullF.head rfl | apply PullF.tail))))) : Off oa bs xs := by
  cases xs with
  | nil => exact .inl rfl
  | cons u xs =>
    refine .inr fun ad e hb => ?_
    subst e
    have hm := hs.2.2
    have hc := World.block_lt_of_cell? w0 _ (hm.2 0 u (by simp))
    obtain ⟨rs, h1, h2⟩ := hp.perm
    rw [← h1] at hb
    obtain ⟨r, hr, hrb⟩ := List.mem_filterMap.1 hb
    have := S.org r (h2.mem_iff.2 (List.mem_append_left _ hr)) _ hrb
    rw [block_add] at hc
    rcases this with h | h
    · cases h
    · omega
/-- What is apart from some blocks is apart from those that a call made of them. -/
theorem St.offG {w0 w : World} {bs : List Nat} {L : List Res} (S : St w0 bs w L) {size n c : Nat} {oa : Option Addr} {xs : List Value} (hs : Src w0 size (.slice oa n c) n xs) (hd : Off oa bs xs) {bs' : List Nat} {F : List Res} (hp : PullsF bs' L F := by repeat (first | exact PullsF.nil | (apply PullsF.cons; (repeat (first | exact PullF.head rfl | apply PullF.tail))))) : Off oa bs' xs := by
  cases xs with
  | nil => exact .inl rfl
  | cons u xs =>
    rcases hd with hd | hd
    · cases hd
    refine .inr fun ad e hb => ?_
    subst e
    have hm := hs.2.2
    have hc := World.block_lt_of_cell? w0 _ (hm.2 0 u (by simp))
    obtain ⟨rs, h1, h2⟩ := hp.perm
    rw [← h1] at hb
    obtain ⟨r, hr, hrb⟩ := List.mem_filterMap.1 hb
    have := S.org r (h2.mem_iff.2 (List.mem_append_left _ hr)) _ hrb
    rw [block_add] at hc
    rcases this with h | h
    · exact hd ad rfl h
    · omega
/-- What lies in one block does not lie in others. -/
theorem St.offB {w0 w : World} {bs0 : List Nat} {L F F1 : List Res} (S : St w0 bs0 w L) {b i : Nat} {xs : List Value} {bs : List Nat} {r : Res} (hr : Pull r L F) (hb : r.foot = some b) (hp : PullsF bs F F1) : Off (some ⟨b, i, none⟩) bs xs := by
  refine .inr fun ad e hm => ?_
  cases e
  obtain ⟨rs, h1, h2⟩ := hp.perm
  rw [← h1] at hm
  obtain ⟨x, hx, hxb⟩ := List.mem_filterMap.1 hm
  have := (S.mem.perm hr.perm).apart b hb x (h2.mem_iff.2 (List.mem_append_left _ hx))
  exact this hxb
section
variable {P : Program} {ops : Array Oper} {Q : Exit → Act → World → Prop} {rest : List Oper} {o : Oper} {a : Act} {w w' : World}

/-! ### x[l:] -/
theorem run_slcT {ty e : TypeId} {z : Value} {size bytes : Nat} [ht : TSlice P ty e] [he : TElem P e z size bytes] (x lo : Operand) (ho : o.op = .slice ty x (some lo) none none) {ad : Addr} {n c : Nat} (hx : a.eval x = .slice (some ad) n c) {kl : IntKind} {l : Int} (hl : a.eval lo = .int kl l)
    (h0 : 0 ≤ l) (h1 : l ≤ n) : (execOp a.eval o).run P w = .ok (.value (.slice (some (cutAt ad l.toNat c size)) (n - l.toNat) (c - l.toNat))) w := by
  obtain ⟨inf, hi', hz, hsize, hby, hzs⟩ := he.is
  subst hsize
  simp [execOp, ho, hx, hl, Instr.sliceAt, Instr.slice, run_underlying ht.is, sizeOf, typeInfo, hi', Instr.sliceBounds, run_sliceBound, h0, h1, cutAt]
  split <;> simp
theorem wpList_slcT {ty e : TypeId} {z : Value} {size bytes : Nat} {x lo : Operand} {ad : Addr} {n c : Nat} {kl : IntKind} {l : Int} {a' : Act} (lN : Nat)
    (k : wpList P ops Q rest a' w)
    (hw : Region.wanted o (yielded ops a.tmps) = true := by rfl) (ho : o.op = .slice ty x (some lo) none none := by rfl) (ht : TSlice P ty e := by infer_instance) (he : TElem P e z size bytes := by infer_instance)
    (hx : slot a x = some (.slice (some ad) n c) := by rfl) (hl : slot a lo = some (.int kl l) := by rfl)
    (hlN : l.toNat = lN := by omega) (h0 : 0 ≤ l := by omega) (h1 : l ≤ n := by omega)
    (hput : Put a o.dst (.slice (some (cutAt ad lN c size)) (n - lN) (c - lN)) a' := by exact put_of (by conv => lhs; simp only [List.set_cons_succ, List.set_cons_zero])) : wpList P ops Q (o :: rest) a w := by
  have := run_slcT (P := P) (w := w) (o := o) (a := a) x lo ho (eval_slot hx) (eval_slot hl) h0 h1
  rw [hlN] at this
  exact wpList_run hw this (hput.is ▸ k)
theorem quiet_slcT {C : World → Prop} {K : Act → Prop} {ty e : TypeId} {z : Value} {size bytes : Nat} {x lo : Operand} {ad : Addr} {n c : Nat} {kl : IntKind} {l : Int} {a' : Act} (lN : Nat)
    (k : K a')
    (ho : o.op = .slice ty x (some lo) none none := by rfl) (ht : TSlice P ty e := by infer_instance) (he : TElem P e z size bytes := by infer_instance)
    (hx : slot a x = some (.slice (some ad) n c) := by rfl) (hl : slot a lo = some (.int kl l) := by rfl)
    (hlN : l.toNat = lN := by omega) (h0 : 0 ≤ l := by omega) (h1 : l ≤ n := by omega)
    (hput : Put a o.dst (.slice (some (cutAt ad lN c size)) (n - lN) (c - lN)) a' := by exact put_of (by conv => lhs; simp only [List.set_cons_succ, List.set_cons_zero])) : o.quiet P a C K := by
  refine quiet_run (fun w _ => ?_) (hput.is ▸ k)
  have := run_slcT (P := P) (w := w) (o := o) (a := a) x lo ho (eval_slot hx) (eval_slot hl) h0 h1
  rwa [hlN] at this
/-! ### x[:h] -/
theorem run_slcH {ty e : TypeId} {z : Value} {size bytes : Nat} [ht : TSlice P ty e] [he : TElem P e z size bytes] (x hi : Operand) (ho : o.op = .slice ty x none (some hi) none) {oa : Option Addr} {n c : Nat} (hx : a.eval x = .slice oa n c) {kh : IntKind} {h : Int} (hh : a.eval hi = .int kh h)
    (h0 : 0 ≤ h) (h1 : h ≤ c) : (execOp a.eval o).run P w = .ok (.value (.slice oa h.toNat c)) w := by
  obtain ⟨inf, hi', hz, hsize, hby, hzs⟩ := he.is
  subst hsize
  have e0 : (fun x : Addr => x.add 0) = id := by funext x; exact Addr.add_zero' x
  simp [execOp, ho, hx, hh, Instr.sliceAt, Instr.slice, run_underlying ht.is, sizeOf, typeInfo, hi', Instr.sliceBounds, run_sliceBound, h0, h1, e0]
theorem wpList_slcH {ty e : TypeId} {z : Value} {size bytes : Nat} {x hi : Operand} {oa : Option Addr} {n c : Nat} {kh : IntKind} {h : Int} {a' : Act} (hN : Nat)
    (k : wpList P ops Q rest a' w)
    (hw : Region.wanted o (yielded ops a.tmps) = true := by rfl) (ho : o.op = .slice ty x none (some hi) none := by rfl) (ht : TSlice P ty e := by infer_instance) (he : TElem P e z size bytes := by infer_instance)
    (hx : slot a x = some (.slice oa n c) := by rfl) (hh : slot a hi = some (.int kh h) := by rfl)
    (hhN : h.toNat = hN := by omega) (h0 : 0 ≤ h := by omega) (h1 : h ≤ c := by omega)
    (hput : Put a o.dst (.slice oa hN c) a' := by exact put_of (by conv => lhs; simp only [List.set_cons_succ, List.set_cons_zero])) : wpList P ops Q (o :: rest) a w := by
  have := run_slcH (P := P) (w := w) (o := o) (a := a) x hi ho (eval_slot hx) (eval_slot hh) h0 h1
  rw [hhN] at this
  exact wpList_run hw this (hput.is ▸ k)
theorem quiet_slcH {C : World → Prop} {K : Act → Prop} {ty e : TypeId} {z : Value} {size bytes : Nat} {x hi : Operand} {oa : Option Addr} {n c : Nat} {kh : IntKind} {h : Int} {a' : Act} (hN : Nat)
    (k : K a')
    (ho : o.op = .slice ty x none (some hi) none := by rfl) (ht : TSlice P ty e := by infer_instance) (he : TElem P e z size bytes := by infer_instance)
    (hx : slot a x = some (.slice oa n c) := by rfl) (hh : slot a hi = some (.int kh h) := by rfl)
    (hhN : h.toNat = hN := by omega) (h0 : 0 ≤ h := by omega) (h1 : h ≤ c := by omega)
    (hput : Put a o.dst (.slice oa hN c) a' := by exact put_of (by conv => lhs; simp only [List.set_cons_succ, List.set_cons_zero])) : o.quiet P a C K := by
  refine quiet_run (fun w _ => ?_) (hput.is ▸ k)
  have := run_slcH (P := P) (w := w) (o := o) (a := a) x hi ho (eval_slot hx) (eval_slot hh) h0 h1
  rwa [hhN] at this
/-! ### x[l:h] -/
theorem run_slcLH {ty e : TypeId} {z : Value} {size bytes : Nat} [ht : TSlice P ty e] [he : TElem P e z size bytes] (x lo hi : Operand) (ho : o.op = .slice ty x (some lo) (some hi) none) {ad : Addr} {n c : Nat} (hx : a.eval x = .slice (some ad) n c) {kl kh : IntKind} {l h : Int} (hl : a.eval lo = .int kl l) (hh : a.eval hi = .int kh h)
    (h0 : 0 ≤ l) (h1 : l ≤ h) (h2 : h ≤ c) : (execOp a.eval o).run P w = .ok (.value (.slice (some (cutAt ad l.toNat c size)) (h.toNat - l.toNat) (c - l.toNat))) w := by
  obtain ⟨inf, hi', hz, hsize, hby, hzs⟩ := he.is
  subst hsize
  have eh : (h.toNat : Int) = h := Int.toNat_of_nonneg (by omega)
  simp [execOp, ho, hx, hl, hh, Instr.sliceAt, Instr.slice, run_underlying ht.is, sizeOf, typeInfo, hi', Instr.sliceBounds, run_sliceBound, h0, h1, h2, eh, (by omega : 0 ≤ h), cutAt]
  split <;> simp
theorem wpList_slcLH {ty e : TypeId} {z : Value} {size bytes : Nat} {x lo hi : Operand} {ad : Addr} {n c : Nat} {kl kh : IntKind} {l h : Int} {a' : Act} (lN hN : Nat)
    (k : wpList P ops Q rest a' w)
    (hw : Region.wanted o (yielded ops a.tmps) = true := by rfl) (ho : o.op = .slice ty x (some lo) (some hi) none := by rfl) (ht : TSlice P ty e := by infer_instance) (he : TElem P e z size bytes := by infer_instance)
    (hx : slot a x = some (.slice (some ad) n c) := by rfl) (hl : slot a lo = some (.int kl l) := by rfl) (hh : slot a hi = some (.int kh h) := by rfl)
    (hlN : l.toNat = lN := by omega) (hhN : h.toNat = hN := by omega) (h0 : 0 ≤ l := by omega) (h1 : l ≤ h := by omega) (h2 : h ≤ c := by omega)
    (hput : Put a o.dst (.slice (some (cutAt ad lN c size)) (hN - lN) (c - lN)) a' := by exact put_of (by conv => lhs; simp only [List.set_cons_succ, List.set_cons_zero])) : wpList P ops Q (o :: rest) a w := by
  have := run_slcLH (P := P) (w := w) (o := o) (a := a) x lo hi ho (eval_slot hx) (eval_slot hl) (eval_slot hh) h0 h1 h2
  rw [hlN, hhN] at this
  exact wpList_run hw this (hput.is ▸ k)
theorem quiet_slcLH {C : World → Prop} {K : Act → Prop} {ty e : TypeId} {z : Value} {size bytes : Nat} {x lo hi : Operand} {ad : Addr} {n c : Nat} {kl kh : IntKind} {l h : Int} {a' : Act} (lN hN : Nat)
    (k : K a')
    (ho : o.op = .slice ty x (some lo) (some hi) none := by rfl) (ht : TSlice P ty e := by infer_instance) (he : TElem P e z size bytes := by infer_instance)
    (hx : slot a x = some (.slice (some ad) n c) := by rfl) (hl : slot a lo = some (.int kl l) := by rfl) (hh : slot a hi = some (.int kh h) := by rfl)
    (hlN : l.toNat = lN := by omega) (hhN : h.toNat = hN := by omega) (h0 : 0 ≤ l := by omega) (h1 : l ≤ h := by omega) (h2 : h ≤ c := by omega)
    (hput : Put a o.dst (.slice (some (cutAt ad lN c size)) (hN - lN) (c - lN)) a' := by exact put_of (by conv => lhs; simp only [List.set_cons_succ, List.set_cons_zero])) : o.quiet P a C K := by
  refine quiet_run (fun w _ => ?_) (hput.is ▸ k)
  have := run_slcLH (P := P) (w := w) (o := o) (a := a) x lo hi ho (eval_slot hx) (eval_slot hl) (eval_slot hh) h0 h1 h2
  rwa [hlN, hhN] at this
/-! ### x[l:h:m] -/
theorem run_slcLHM {ty e : TypeId} {z : Value} {size bytes : Nat} [ht : TSlice P ty e] [he : TElem P e z size bytes] (x lo hi mx : Operand) (ho : o.op = .slice ty x (some lo) (some hi) (some mx)) {ad : Addr} {n c : Nat} (hx : a.eval x = .slice (some ad) n c) {kl kh km : IntKind} {l h m : Int} (hl : a.eval lo = .int kl l) (hh : a.eval hi = .int kh h) (hm : a.eval mx = .int km m)
    (h0 : 0 ≤ l) (h1 : l ≤ h) (h2 : h ≤ m) (h3 : m ≤ c) : (execOp a.eval o).run P w = .ok (.value (.slice (some (cutAt ad l.toNat m.toNat size)) (h.toNat - l.toNat) (m.toNat - l.toNat))) w := by
  obtain ⟨inf, hi', hz, hsize, hby, hzs⟩ := he.is
  subst hsize
  have eh : (h.toNat : Int) = h := Int.toNat_of_nonneg (by omega)
  have em : (m.toNat : Int) = m := Int.toNat_of_nonneg (by omega)
  simp [execOp, ho, hx, hl, hh, hm, Instr.sliceAt, Instr.slice, run_underlying ht.is, sizeOf, typeInfo, hi', Instr.sliceBounds, run_sliceBound, h0, h1, h2, h3, eh, em, (by omega : 0 ≤ h), (by omega : 0 ≤ m), cutAt]
  split <;> simp
theorem wpList_slcLHM {ty e : TypeId} {z : Value} {size bytes : Nat} {x lo hi mx : Operand} {ad : Addr} {n c : Nat} {kl kh km : IntKind} {l h m : Int} {a' : Act} (lN hN mN : Nat)
    (k : wpList P ops Q rest a' w)
    (hw : Region.wanted o (yielded ops a.tmps) = true := by rfl) (ho : o.op = .slice ty x (some lo) (some hi) (some mx) := by rfl) (ht : TSlice P ty e := by infer_instance) (he : TElem P e z size bytes := by infer_instance)
    (hx : slot a x = some (.slice (some ad) n c) := by rfl) (hl : slot a lo = some (.int kl l) := by rfl) (hh : slot a hi = some (.int kh h) := by rfl) (hm : slot a mx = some (.int km m) := by rfl)
    (hlN : l.toNat = lN := by omega) (hhN : h.toNat = hN := by omega) (hmN : m.toNat = mN := by omega) (h0 : 0 ≤ l := by omega) (h1 : l ≤ h := by omega) (h2 : h ≤ m := by omega) (h3 : m ≤ c := by omega)
    (hput : Put a o.dst (.slice (some (cutAt ad lN mN size)) (hN - lN) (mN - lN)) a' := by exact put_of (by conv => lhs; simp only [List.set_cons_succ, List.set_cons_zero])) : wpList P ops Q (o :: rest) a w := by
  have := run_slcLHM (P := P) (w := w) (o := o) (a := a) x lo hi mx ho (eval_slot hx) (eval_slot hl) (eval_slot hh) (eval_slot hm) h0 h1 h2 h3
  rw [hlN, hhN, hmN] at this
  exact wpList_run hw this (hput.is ▸ k)
theorem quiet_slcLHM {C : World → Prop} {K : Act → Prop} {ty e : TypeId} {z : Value} {size bytes : Nat} {x lo hi mx : Operand} {ad : Addr} {n c : Nat} {kl kh km : IntKind} {l h m : Int} {a' : Act} (lN hN mN : Nat)
    (k : K a')
    (ho : o.op = .slice ty x (some lo) (some hi) (some mx) := by rfl) (ht : TSlice P ty e := by infer_instance) (he : TElem P e z size bytes := by infer_instance)
    (hx : slot a x = some (.slice (some ad) n c) := by rfl) (hl : slot a lo = some (.int kl l) := by rfl) (hh : slot a hi = some (.int kh h) := by rfl) (hm : slot a mx = some (.int km m) := by rfl)
    (hlN : l.toNat = lN := by omega) (hhN : h.toNat = hN := by omega) (hmN : m.toNat = mN := by omega) (h0 : 0 ≤ l := by omega) (h1 : l ≤ h := by omega) (h2 : h ≤ m := by omega) (h3 : m ≤ c := by omega)
    (hput : Put a o.dst (.slice (some (cutAt ad lN mN size)) (hN - lN) (mN - lN)) a' := by exact put_of (by conv => lhs; simp only [List.set_cons_succ, List.set_cons_zero])) : o.quiet P a C K := by
  refine quiet_run (fun w _ => ?_) (hput.is ▸ k)
  have := run_slcLHM (P := P) (w := w) (o := o) (a := a) x lo hi mx ho (eval_slot hx) (eval_slot hl) (eval_slot hh) (eval_slot hm) h0 h1 h2 h3
  rwa [hlN, hhN, hmN] at this

/-- Where a part of a block begins: at the end of its room it stays where it was. -/
def cutN (i o c : Nat) : Nat := if c = o then i else i + o
theorem cutAt_lit (b i o c : Nat) : cutAt ⟨b, i, none⟩ o c 1 = ⟨b, cutN i o c, none⟩ := by
  unfold cutAt cutN; split
  · rfl
  · rw [Nat.mul_one, Addr.add_lit]
/-- x[l:] of a block, its elements of one cell. -/
theorem wpList_slcB {ty e : TypeId} {z : Value} {bytes : Nat} {x lo : Operand} {b i n c : Nat} {kl : IntKind} {l : Int} {a' : Act} (lN : Nat)
    (k : wpList P ops Q rest a' w)
    (hw : Region.wanted o (yielded ops a.tmps) = true := by rfl) (ho : o.op = .slice ty x (some lo) none none := by rfl) (ht : TSlice P ty e := by infer_instance) (he : TElem P e z 1 bytes := by infer_instance)
    (hx : slot a x = some (.slice (some ⟨b, i, none⟩) n c) := by rfl) (hlo : slot a lo = some (.int kl l) := by rfl)
    (hl : l.toNat = lN := by omega) (h0 : 0 ≤ l := by omega) (h1 : l ≤ n := by omega)
    (hput : Put a o.dst (.slice (some ⟨b, cutN i lN c, none⟩) (n - lN) (c - lN)) a' := by exact put_of (by conv => lhs; simp only [List.set_cons_succ, List.set_cons_zero])) : wpList P ops Q (o :: rest) a w :=
  wpList_slcT lN k hw ho ht he hx hlo hl h0 h1 (by rw [cutAt_lit]; exact hput)
theorem quiet_slcB {C : World → Prop} {K : Act → Prop} {ty e : TypeId} {z : Value} {bytes : Nat} {x lo : Operand} {b i n c : Nat} {kl : IntKind} {l : Int} {a' : Act} (lN : Nat)
    (k : K a')
    (ho : o.op = .slice ty x (some lo) none none := by rfl) (ht : TSlice P ty e := by infer_instance) (he : TElem P e z 1 bytes := by infer_instance)
    (hx : slot a x = some (.slice (some ⟨b, i, none⟩) n c) := by rfl) (hlo : slot a lo = some (.int kl l) := by rfl)
    (hl : l.toNat = lN := by omega) (h0 : 0 ≤ l := by omega) (h1 : l ≤ n := by omega)
    (hput : Put a o.dst (.slice (some ⟨b, cutN i lN c, none⟩) (n - lN) (c - lN)) a' := by exact put_of (by conv => lhs; simp only [List.set_cons_succ, List.set_cons_zero])) : o.quiet P a C K :=
  quiet_slcT lN k ho ht he hx hlo hl h0 h1 (by rw [cutAt_lit]; exact hput)
/-- x[l:h] of a block, its elements of one cell. -/
theorem quiet_slcBH {C : World → Prop} {K : Act → Prop} {ty e : TypeId} {z : Value} {bytes : Nat} {x lo hi : Operand} {b i n c : Nat} {kl kh : IntKind} {l h : Int} {a' : Act} (lN hN : Nat)
    (k : K a')
    (ho : o.op = .slice ty x (some lo) (some hi) none := by rfl) (ht : TSlice P ty e := by infer_instance) (he : TElem P e z 1 bytes := by infer_instance)
    (hx : slot a x = some (.slice (some ⟨b, i, none⟩) n c) := by rfl) (hlo : slot a lo = some (.int kl l) := by rfl) (hhi : slot a hi = some (.int kh h) := by rfl)
    (hl : l.toNat = lN := by omega) (hh : h.toNat = hN := by omega) (h0 : 0 ≤ l := by omega) (h1 : l ≤ h := by omega) (h2 : h ≤ c := by omega)
    (hput : Put a o.dst (.slice (some ⟨b, cutN i lN c, none⟩) (hN - lN) (c - lN)) a' := by exact put_of (by conv => lhs; simp only [List.set_cons_succ, List.set_cons_zero])) : o.quiet P a C K :=
  quiet_slcLH lN hN k ho ht he hx hlo hhi hl hh h0 h1 h2 (by rw [cutAt_lit]; exact hput)
theorem wpList_slcBH {ty e : TypeId} {z : Value} {bytes : Nat} {x lo hi : Operand} {b i n c : Nat} {kl kh : IntKind} {l h : Int} {a' : Act} (lN hN : Nat)
    (k : wpList P ops Q rest a' w)
    (hw : Region.wanted o (yielded ops a.tmps) = true := by rfl) (ho : o.op = .slice ty x (some lo) (some hi) none := by rfl) (ht : TSlice P ty e := by infer_instance) (he : TElem P e z 1 bytes := by infer_instance)
    (hx : slot a x = some (.slice (some ⟨b, i, none⟩) n c) := by rfl) (hlo : slot a lo = some (.int kl l) := by rfl) (hhi : slot a hi = some (.int kh h) := by rfl)
    (hl : l.toNat = lN := by omega) (hh : h.toNat = hN := by omega) (h0 : 0 ≤ l := by omega) (h1 : l ≤ h := by omega) (h2 : h ≤ c := by omega)
    (hput : Put a o.dst (.slice (some ⟨b, cutN i lN c, none⟩) (hN - lN) (c - lN)) a' := by exact put_of (by conv => lhs; simp only [List.set_cons_succ, List.set_cons_zero])) : wpList P ops Q (o :: rest) a w :=
  wpList_slcLH lN hN k hw ho ht he hx hlo hhi hl hh h0 h1 h2 (by rw [cutAt_lit]; exact hput)
/-- copy of all bytes of a source into a part of a block that has room for them. -/
theorem wpList_copyT {w0 : World} {bs : List Nat} {L L' : List Res} (S : St w0 bs w L) {sv : Value} {src : List UInt8} {n : Nat} (hs : Src w 1 sv n (u8s src)) {x y : Operand} {t tx e : TypeId} {z : Value} {bytes : Nat} {b i lN c dLen dCap : Nat} {l : List UInt8} {T : TypeId} {a' : Act}
    (k : ∀ w', St w0 bs w' L' → wpList P ops Q rest a' w')
    (hw : Region.wanted o (yielded ops a.tmps) = true := by rfl) (ho : o.op = .call { callee := .builtin .copy, args := #[x, y], argTypes := #[t, tx] } := by rfl)
    (ht : TSlice P t e := by infer_instance) (he : TElem P e z 1 bytes := by infer_instance)
    (hx : slot a x = some (.slice (some ⟨b, cutN i lN c, none⟩) dLen dCap) := by rfl) (hy : slot a y = some sv := by rfl)
    (hA : At (.blk b (.cells (u8s l).toArray T (0, 0))) (.blk b (.cells (u8s (splice l (i + lN) src)).toArray T (0, 0))) L L' := by repeat (first | exact At.head | apply At.tail))
    (hfit : i + lN + dLen ≤ l.length := by (first | omega | (simp; done) | (simp; omega))) (hn : n ≤ dLen := by omega) (hd : dLen ≤ c - lN := by omega)
    (hput : Put a o.dst (goInt n) a' := by exact put_of (by conv => lhs; simp only [List.set_cons_succ, List.set_cons_zero])) : wpList P ops Q (o :: rest) a w := by
  have hln : src.length = n := hs.len8
  have hj : cutN i lN c = i + lN ∨ dLen = 0 := by unfold cutN; split <;> omega
  have hm : Nat.min src.length dLen = n := by show min src.length dLen = n; omega
  refine wpList_copy8 S hs k hw ho ht he hx hy (by rw [splice_end _ _ (i + lN) _ _ hj, take_min _ _ (by omega)]; exact hA) ?_ (by rw [hm]; exact hput)
  rcases hj with h | h
  · omega
  · unfold cutN; split <;> omega
/-- copy of all bytes of a source into a block that has room for them, from a known place on. -/
theorem wpList_copyI {w0 : World} {bs : List Nat} {L L' : List Res} (S : St w0 bs w L) {sv : Value} {src : List UInt8} {n : Nat} (hs : Src w 1 sv n (u8s src)) {x y : Operand} {t tx e : TypeId} {z : Value} {bytes : Nat} {b i dLen dCap : Nat} {l : List UInt8} {T : TypeId} {a' : Act}
    (k : ∀ w', St w0 bs w' L' → wpList P ops Q rest a' w')
    (hw : Region.wanted o (yielded ops a.tmps) = true := by rfl) (ho : o.op = .call { callee := .builtin .copy, args := #[x, y], argTypes := #[t, tx] } := by rfl)
    (ht : TSlice P t e := by infer_instance) (he : TElem P e z 1 bytes := by infer_instance)
    (hx : slot a x = some (.slice (some ⟨b, i, none⟩) dLen dCap) := by rfl) (hy : slot a y = some sv := by rfl)
    (hA : At (.blk b (.cells (u8s l).toArray T (0, 0))) (.blk b (.cells (u8s (splice l i src)).toArray T (0, 0))) L L' := by repeat (first | exact At.head | apply At.tail))
    (hfit : i + dLen ≤ l.length := by (first | omega | (simp; done) | (simp; omega))) (hn : n ≤ dLen := by omega)
    (hput : Put a o.dst (goInt n) a' := by exact put_of (by conv => lhs; simp only [List.set_cons_succ, List.set_cons_zero])) : wpList P ops Q (o :: rest) a w := by
  have hln : src.length = n := hs.len8
  have hm : Nat.min src.length dLen = n := by show min src.length dLen = n; omega
  exact wpList_copy8 S hs k hw ho ht he hx hy (by rw [take_min _ _ (by omega)]; exact hA) hfit (by rw [hm]; exact hput)
end
end Go.Vil
end
section
namespace Go.Proofs.YtbklhnpnkinadaaDoor
open Go.RowKit Go.Vil
set_option linter.unusedSimpArgs false
set_option linter.unusedVariables false

/-- The bits of a number turned to the left. -/
def turn (x : Int) (n : Nat) : Int := Go.bits .or .u64 (IntKind.u64.wrap (x * 2 ^ n)) (x / 2 ^ (64 - n))
def U64 (x : Int) : Prop := 0 ≤ x ∧ x < 18446744073709551616

theorem bits_u64 (a b : Int) (ha : U64 a) (hb : U64 b) : U64 (Go.bits .or .u64 a b) := by
  obtain ⟨a0, a1⟩ := ha
  obtain ⟨b0, b1⟩ := hb
  rw [u64_or a b a0 a1 b0 b1]
  have : a.toNat ||| b.toNat < 2 ^ 64 := Nat.or_lt_two_pow (by omega) (by omega)
  exact ⟨by omega, by omega⟩
theorem xor_u64 (a b : Int) (ha : U64 a) (hb : U64 b) : U64 (Go.bits .xor .u64 a b) := by
  obtain ⟨a0, a1⟩ := ha
  obtain ⟨b0, b1⟩ := hb
  rw [u64_xor a b a0 a1 b0 b1]
  have : a.toNat ^^^ b.toNat < 2 ^ 64 := Nat.xor_lt_two_pow (by omega) (by omega)
  exact ⟨by omega, by omega⟩
theorem wrap_u64' (a : Int) : U64 (IntKind.u64.wrap a) := by
  unfold U64; rw [IntKind.wrap_u64]; omega
theorem turn_u64 (x : Int) (n : Nat) (hx : U64 x) : U64 (turn x n) := by
  refine bits_u64 _ _ (wrap_u64' _) ?_
  obtain ⟨h0, h1⟩ := hx
  exact ⟨Int.ediv_nonneg h0 (Int.le_of_lt (Int.pow_pos (by decide))), Int.lt_of_le_of_lt (Int.ediv_le_self _ h0) h1⟩
theorem rol1 (x : Int) (w : World) (h : U64 x) : Calls Tryd.prog 99 #[.int .u64 x] w fun e w' => e = .returned (.int .u64 (turn x 1)) ∧ St w [] w' [] := by
  have S := St.begin w
  obtain ⟨h0, h1⟩ := h
  have hb : Go.bits .and .u64 1 63 = 1 := by decide +kernel
  go_enter Tryd.func99, Tryd.ntmps99
  go_wp2_with (go_in)
  go_ret
  exact ⟨retI rfl, S⟩
theorem rol7 (x : Int) (w : World) (h : U64 x) : Calls Tryd.prog 100 #[.int .u64 x] w fun e w' => e = .returned (.int .u64 (turn x 7)) ∧ St w [] w' [] := by
  have S := St.begin w
  obtain ⟨h0, h1⟩ := h
  have hb : Go.bits .and .u64 7 63 = 7 := by decide +kernel
  go_enter Tryd.func100, Tryd.ntmps100
  go_wp2_with (go_in)
  go_ret
  exact ⟨retI rfl, S⟩
theorem rol12 (x : Int) (w : World) (h : U64 x) : Calls Tryd.prog 101 #[.int .u64 x] w fun e w' => e = .returned (.int .u64 (turn x 12)) ∧ St w [] w' [] := by
  have S := St.begin w
  obtain ⟨h0, h1⟩ := h
  have hb : Go.bits .and .u64 12 63 = 12 := by decide +kernel
  go_enter Tryd.func101, Tryd.ntmps101
  go_wp2_with (go_in)
  go_ret
  exact ⟨retI rfl, S⟩
theorem rol18 (x : Int) (w : World) (h : U64 x) : Calls Tryd.prog 102 #[.int .u64 x] w fun e w' => e = .returned (.int .u64 (turn x 18)) ∧ St w [] w' [] := by
  have S := St.begin w
  obtain ⟨h0, h1⟩ := h
  have hb : Go.bits .and .u64 18 63 = 18 := by decide +kernel
  go_enter Tryd.func102, Tryd.ntmps102
  go_wp2_with (go_in)
  go_ret
  exact ⟨retI rfl, S⟩
theorem rol27 (x : Int) (w : World) (h : U64 x) : Calls Tryd.prog 104 #[.int .u64 x] w fun e w' => e = .returned (.int .u64 (turn x 27)) ∧ St w [] w' [] := by
  have S := St.begin w
  obtain ⟨h0, h1⟩ := h
  have hb : Go.bits .and .u64 27 63 = 27 := by decide +kernel
  go_enter Tryd.func104, Tryd.ntmps104
  go_wp2_with (go_in)
  go_ret
  exact ⟨retI rfl, S⟩
theorem rol23 (x : Int) (w : World) (h : U64 x) : Calls Tryd.prog 106 #[.int .u64 x] w fun e w' => e = .returned (.int .u64 (turn x 23)) ∧ St w [] w' [] := by
  have S := St.begin w
  obtain ⟨h0, h1⟩ := h
  have hb : Go.bits .and .u64 23 63 = 23 := by decide +kernel
  go_enter Tryd.func106, Tryd.ntmps106
  go_wp2_with (go_in)
  go_ret
  exact ⟨retI rfl, S⟩
theorem rol11 (x : Int) (w : World) (h : U64 x) : Calls Tryd.prog 107 #[.int .u64 x] w fun e w' => e = .returned (.int .u64 (turn x 11)) ∧ St w [] w' [] := by
  have S := St.begin w
  obtain ⟨h0, h1⟩ := h
  have hb : Go.bits .and .u64 11 63 = 11 := by decide +kernel
  go_enter Tryd.func107, Tryd.ntmps107
  go_wp2_with (go_in)
  go_ret
  exact ⟨retI rfl, S⟩
theorem rol31 (x : Int) (w : World) (h : U64 x) : Calls Tryd.prog 117 #[.int .u64 x] w fun e w' => e = .returned (.int .u64 (turn x 31)) ∧ St w [] w' [] := by
  have S := St.begin w
  obtain ⟨h0, h1⟩ := h
  have hb : Go.bits .and .u64 31 63 = 31 := by decide +kernel
  go_enter Tryd.func117, Tryd.ntmps117
  go_wp2_with (go_in)
  go_ret
  exact ⟨retI rfl, S⟩
/-- A round of a lane. -/
def rnd (a i : Int) : Int := IntKind.u64.wrap (turn (IntKind.u64.wrap (a + IntKind.u64.wrap (i * 14029467366897019727))) 31 * 11400714785074694791)
def mrg (a v : Int) : Int := IntKind.u64.wrap (IntKind.u64.wrap (Go.bits .xor .u64 a (rnd 0 v) * 11400714785074694791) + 9650029242287828579)
theorem rnd_u64 (a i : Int) : U64 (rnd a i) := wrap_u64' _
theorem mrg_u64 (a i : Int) : U64 (mrg a i) := wrap_u64' _
theorem round (a i : Int) (w : World) : Calls Tryd.prog 97 #[.int .u64 a, .int .u64 i] w fun e w' => e = .returned (.int .u64 (rnd a i)) ∧ St w [] w' [] := by
  have S := St.begin w
  go_enter Tryd.func97, Tryd.ntmps97
  go_wp2_with (fail)
  refine Calls.mono (rol31 _ _ (wrap_u64' _)) ?_
  rintro e w2 ⟨rfl, C⟩
  have S2 := S.call C; clear S C; simp only [List.cons_append, List.nil_append] at S2; have S := S2; clear S2
  go_wp2_with (fail)
  go_ret
  exact ⟨retI rfl, S⟩
theorem merge (a v : Int) (w : World) : Calls Tryd.prog 103 #[.int .u64 a, .int .u64 v] w fun e w' => e = .returned (.int .u64 (mrg a v)) ∧ St w [] w' [] := by
  have S := St.begin w
  go_enter Tryd.func103, Tryd.ntmps103
  go_wp2_with (fail)
  refine Calls.mono (round 0 v _) ?_
  rintro e w2 ⟨rfl, C⟩
  have S2 := S.call C; clear S C; simp only [List.cons_append, List.nil_append] at S2; have S := S2; clear S2
  go_wp2_with (fail)
  go_ret
  exact ⟨retI rfl, S⟩
end Go.Proofs.YtbklhnpnkinadaaDoor
end
section
namespace Go.Proofs.YtbklhnpnkinadaaDoor
open Go.RowKit Go.Vil
set_option linter.unusedSimpArgs false
set_option linter.unusedVariables false

theorem or_low (i x y : Nat) (hx : x < 2 ^ i) : x ||| y * 2 ^ i = x + y * 2 ^ i := by
  have := Nat.shiftLeft_add_eq_or_of_lt hx y
  rw [Nat.shiftLeft_eq] at this
  rw [Nat.or_comm, ← this, Nat.add_comm]
theorem wrap_byte (y : UInt8) : IntKind.u64.wrap (y.toNat : Int) = ((y.toNat : Nat) : Int) := by
  have := y.toNat_lt
  rw [IntKind.wrap_u64]; omega
theorem wrap_byte32 (y : UInt8) : (y.toNat : Int) % 4294967296 = ((y.toNat : Nat) : Int) := by
  have := y.toNat_lt
  omega
theorem or64_1 (a : Nat) (y : UInt8) (ha : a < 256) : Go.bits .or .u64 (a : Int) (IntKind.u64.wrap (IntKind.u64.wrap (y.toNat : Int) * 256)) = ((a + y.toNat * 256 : Nat) : Int) := by
  have hy := y.toNat_lt
  have e : IntKind.u64.wrap (IntKind.u64.wrap (y.toNat : Int) * 256) = ((y.toNat * 256 : Nat) : Int) := by rw [wrap_byte, IntKind.wrap_u64]; omega
  rw [e, u64_or_nat _ _ (by omega) (by omega)]
  have := or_low 8 a y.toNat (by omega)
  rw [show (2 : Nat) ^ 8 = 256 from rfl] at this
  rw [this]
theorem or64_2 (a : Nat) (y : UInt8) (ha : a < 65536) : Go.bits .or .u64 (a : Int) (IntKind.u64.wrap (IntKind.u64.wrap (y.toNat : Int) * 65536)) = ((a + y.toNat * 65536 : Nat) : Int) := by
  have hy := y.toNat_lt
  have e : IntKind.u64.wrap (IntKind.u64.wrap (y.toNat : Int) * 65536) = ((y.toNat * 65536 : Nat) : Int) := by rw [wrap_byte, IntKind.wrap_u64]; omega
  rw [e, u64_or_nat _ _ (by omega) (by omega)]
  have := or_low 16 a y.toNat (by omega)
  rw [show (2 : Nat) ^ 16 = 65536 from rfl] at this
  rw [this]
theorem or64_3 (a : Nat) (y : UInt8) (ha : a < 16777216) : Go.bits .or .u64 (a : Int) (IntKind.u64.wrap (IntKind.u64.wrap (y.toNat : Int) * 16777216)) = ((a + y.toNat * 16777216 : Nat) : Int) := by
  have hy := y.toNat_lt
  have e : IntKind.u64.wrap (IntKind.u64.wrap (y.toNat : Int) * 16777216) = ((y.toNat * 16777216 : Nat) : Int) := by rw [wrap_byte, IntKind.wrap_u64]; omega
  rw [e, u64_or_nat _ _ (by omega) (by omega)]
  have := or_low 24 a y.toNat (by omega)
  rw [show (2 : Nat) ^ 24 = 16777216 from rfl] at this
  rw [this]
theorem or64_4 (a : Nat) (y : UInt8) (ha : a < 4294967296) : Go.bits .or .u64 (a : Int) (IntKind.u64.wrap (IntKind.u64.wrap (y.toNat : Int) * 4294967296)) = ((a + y.toNat * 4294967296 : Nat) : Int) := by
  have hy := y.toNat_lt
  have e : IntKind.u64.wrap (IntKind.u64.wrap (y.toNat : Int) * 4294967296) = ((y.toNat * 4294967296 : Nat) : Int) := by rw [wrap_byte, IntKind.wrap_u64]; omega
  rw [e, u64_or_nat _ _ (by omega) (by omega)]
  have := or_low 32 a y.toNat (by omega)
  rw [show (2 : Nat) ^ 32 = 4294967296 from rfl] at this
  rw [this]
theorem or64_5 (a : Nat) (y : UInt8) (ha : a < 1099511627776) : Go.bits .or .u64 (a : Int) (IntKind.u64.wrap (IntKind.u64.wrap (y.toNat : Int) * 1099511627776)) = ((a + y.toNat * 1099511627776 : Nat) : Int) := by
  have hy := y.toNat_lt
  have e : IntKind.u64.wrap (IntKind.u64.wrap (y.toNat : Int) * 1099511627776) = ((y.toNat * 1099511627776 : Nat) : Int) := by rw [wrap_byte, IntKind.wrap_u64]; omega
  rw [e, u64_or_nat _ _ (by omega) (by omega)]
  have := or_low 40 a y.toNat (by omega)
  rw [show (2 : Nat) ^ 40 = 1099511627776 from rfl] at this
  rw [this]
theorem or64_6 (a : Nat) (y : UInt8) (ha : a < 281474976710656) : Go.bits .or .u64 (a : Int) (IntKind.u64.wrap (IntKind.u64.wrap (y.toNat : Int) * 281474976710656)) = ((a + y.toNat * 281474976710656 : Nat) : Int) := by
  have hy := y.toNat_lt
  have e : IntKind.u64.wrap (IntKind.u64.wrap (y.toNat : Int) * 281474976710656) = ((y.toNat * 281474976710656 : Nat) : Int) := by rw [wrap_byte, IntKind.wrap_u64]; omega
  rw [e, u64_or_nat _ _ (by omega) (by omega)]
  have := or_low 48 a y.toNat (by omega)
  rw [show (2 : Nat) ^ 48 = 281474976710656 from rfl] at this
  rw [this]
theorem or64_7 (a : Nat) (y : UInt8) (ha : a < 72057594037927936) : Go.bits .or .u64 (a : Int) (IntKind.u64.wrap (IntKind.u64.wrap (y.toNat : Int) * 72057594037927936)) = ((a + y.toNat * 72057594037927936 : Nat) : Int) := by
  have hy := y.toNat_lt
  have e : IntKind.u64.wrap (IntKind.u64.wrap (y.toNat : Int) * 72057594037927936) = ((y.toNat * 72057594037927936 : Nat) : Int) := by rw [wrap_byte, IntKind.wrap_u64]; omega
  rw [e, u64_or_nat _ _ (by omega) (by omega)]
  have := or_low 56 a y.toNat (by omega)
  rw [show (2 : Nat) ^ 56 = 72057594037927936 from rfl] at this
  rw [this]
theorem or32_1 (a : Nat) (y : UInt8) (ha : a < 256) : Go.bits .or .u32 (a : Int) ((y.toNat : Int) % 4294967296 * 256 % 4294967296) = ((a + y.toNat * 256 : Nat) : Int) := by
  have hy := y.toNat_lt
  have e : (y.toNat : Int) % 4294967296 * 256 % 4294967296 = ((y.toNat * 256 : Nat) : Int) := by omega
  rw [e, u32_or_nat _ _ (by omega) (by omega)]
  have := or_low 8 a y.toNat (by omega)
  rw [show (2 : Nat) ^ 8 = 256 from rfl] at this
  rw [this]
theorem or32_2 (a : Nat) (y : UInt8) (ha : a < 65536) : Go.bits .or .u32 (a : Int) ((y.toNat : Int) % 4294967296 * 65536 % 4294967296) = ((a + y.toNat * 65536 : Nat) : Int) := by
  have hy := y.toNat_lt
  have e : (y.toNat : Int) % 4294967296 * 65536 % 4294967296 = ((y.toNat * 65536 : Nat) : Int) := by omega
  rw [e, u32_or_nat _ _ (by omega) (by omega)]
  have := or_low 16 a y.toNat (by omega)
  rw [show (2 : Nat) ^ 16 = 65536 from rfl] at this
  rw [this]
theorem or32_3 (a : Nat) (y : UInt8) (ha : a < 16777216) : Go.bits .or .u32 (a : Int) ((y.toNat : Int) % 4294967296 * 16777216 % 4294967296) = ((a + y.toNat * 16777216 : Nat) : Int) := by
  have hy := y.toNat_lt
  have e : (y.toNat : Int) % 4294967296 * 16777216 % 4294967296 = ((y.toNat * 16777216 : Nat) : Int) := by omega
  rw [e, u32_or_nat _ _ (by omega) (by omega)]
  have := or_low 24 a y.toNat (by omega)
  rw [show (2 : Nat) ^ 24 = 16777216 from rfl] at this
  rw [this]

theorem le8_of (l : List UInt8) (h : 8 ≤ l.length) : (l.getD 0 0).toNat + (l.getD 1 0).toNat * 256 + (l.getD 2 0).toNat * 65536 + (l.getD 3 0).toNat * 16777216 + (l.getD 4 0).toNat * 4294967296 + (l.getD 5 0).toNat * 1099511627776 + (l.getD 6 0).toNat * 281474976710656 + (l.getD 7 0).toNat * 72057594037927936 = leVal (l.take 8) := by
  match l, h with
  | x0 :: x1 :: x2 :: x3 :: x4 :: x5 :: x6 :: x7 :: l, _ => simp [leVal]; omega

set_option maxHeartbeats 1600000 in
set_option maxRecDepth 100000 in
theorem uint64 (ad : Addr) (n c : Nat) (l : List UInt8) (w : World) (hs : Src w 1 (.slice (some ad) n c) n (u8s l)) (hn : 8 ≤ n) (hm : n ≤ maxLen) :
    Calls Tryd.prog 118 #[.agg #[], .slice (some ad) n c] w fun e w' => e = .returned (.int .u64 (leVal (l.take 8))) ∧ St w [] w' [] := by
  have S := St.begin w
  unfold maxLen at hm
  have g0 := hs.byte 0 (by omega)
  have g1 := hs.byte 1 (by omega)
  have g2 := hs.byte 2 (by omega)
  have g3 := hs.byte 3 (by omega)
  have g4 := hs.byte 4 (by omega)
  have g5 := hs.byte 5 (by omega)
  have g6 := hs.byte 6 (by omega)
  have g7 := hs.byte 7 (by omega)
  generalize hc0 : l.getD 0 0 = x0 at g0
  generalize hc1 : l.getD 1 0 = x1 at g1
  generalize hc2 : l.getD 2 0 = x2 at g2
  generalize hc3 : l.getD 3 0 = x3 at g3
  generalize hc4 : l.getD 4 0 = x4 at g4
  generalize hc5 : l.getD 5 0 = x5 at g5
  generalize hc6 : l.getD 6 0 = x6 at g6
  generalize hc7 : l.getD 7 0 = x7 at g7
  have hl := hidden hs.len8
  have H := hidden (And.intro hc0 (And.intro hc1 (And.intro hc2 (And.intro hc3 (And.intro hc4 (And.intro hc5 (And.intro hc6 hc7)))))))
  clear hc0 hc1 hc2 hc3 hc4 hc5 hc6 hc7
  go_enter Tryd.func118, Tryd.ntmps118
  go_wp2_with (first | ((with_reducible show Code.wp _ (Code.region _ _ true) _ _ _); refine St.regionLast S ?_; (repeat (first | (go_big_quiet_step (fail)) | (go_big_quiet_want; (refine quiet_ldc S ?_); go_big_quiet_on))); refine wpQuiet_nil ?_; clear S; intro wq S) | (refine wpList_box S ?_; (clear S; intro nb wb hnb S)) | (refine wpList_ldc S ?_))
  go_ret
  refine ⟨retI ?_, S.sel (by repeat (first | exact Sel.nil | (apply Sel.cons; (repeat (first | exact Pull.head | apply Pull.tail)))))⟩
  obtain ⟨hc0, hc1, hc2, hc3, hc4, hc5, hc6, hc7⟩ := H.out
  rw [← le8_of l (by have := hl.out; omega), hc0, hc1, hc2, hc3, hc4, hc5, hc6, hc7]
  have := x0.toNat_lt
  have := x1.toNat_lt
  have := x2.toNat_lt
  have := x3.toNat_lt
  have := x4.toNat_lt
  have := x5.toNat_lt
  have := x6.toNat_lt
  have := x7.toNat_lt
  rw [wrap_byte, or64_1 _ _ (by omega), or64_2 _ _ (by omega), or64_3 _ _ (by omega), or64_4 _ _ (by omega), or64_5 _ _ (by omega), or64_6 _ _ (by omega), or64_7 _ _ (by omega)]

theorem le4_of (l : List UInt8) (h : 4 ≤ l.length) : (l.getD 0 0).toNat + (l.getD 1 0).toNat * 256 + (l.getD 2 0).toNat * 65536 + (l.getD 3 0).toNat * 16777216 = leVal (l.take 4) := by
  match l, h with
  | x0 :: x1 :: x2 :: x3 :: l, _ => simp [leVal]; omega

set_option maxHeartbeats 1600000 in
set_option maxRecDepth 100000 in
theorem uint32 (ad : Addr) (n c : Nat) (l : List UInt8) (w : World) (hs : Src w 1 (.slice (some ad) n c) n (u8s l)) (hn : 4 ≤ n) (hm : n ≤ maxLen) :
    Calls Tryd.prog 109 #[.agg #[], .slice (some ad) n c] w fun e w' => e = .returned (.int .u32 (leVal (l.take 4))) ∧ St w [] w' [] := by
  have S := St.begin w
  unfold maxLen at hm
  have g0 := hs.byte 0 (by omega)
  have g1 := hs.byte 1 (by omega)
  have g2 := hs.byte 2 (by omega)
  have g3 := hs.byte 3 (by omega)
  generalize hc0 : l.getD 0 0 = x0 at g0
  generalize hc1 : l.getD 1 0 = x1 at g1
  generalize hc2 : l.getD 2 0 = x2 at g2
  generalize hc3 : l.getD 3 0 = x3 at g3
  have hl := hidden hs.len8
  have H := hidden (And.intro hc0 (And.intro hc1 (And.intro hc2 hc3)))
  clear hc0 hc1 hc2 hc3
  go_enter Tryd.func109, Tryd.ntmps109
  go_wp2_with (first | ((with_reducible show Code.wp _ (Code.region _ _ true) _ _ _); refine St.regionLast S ?_; (repeat (first | (go_big_quiet_step (fail)) | (go_big_quiet_want; (refine quiet_ldc S ?_); go_big_quiet_on))); refine wpQuiet_nil ?_; clear S; intro wq S) | (refine wpList_box S ?_; (clear S; intro nb wb hnb S)) | (refine wpList_ldc S ?_))
  go_ret
  refine ⟨retI ?_, S.sel (by repeat (first | exact Sel.nil | (apply Sel.cons; (repeat (first | exact Pull.head | apply Pull.tail)))))⟩
  obtain ⟨hc0, hc1, hc2, hc3⟩ := H.out
  rw [← le4_of l (by have := hl.out; omega), hc0, hc1, hc2, hc3]
  have := x0.toNat_lt
  have := x1.toNat_lt
  have := x2.toNat_lt
  have := x3.toNat_lt
  rw [wrap_byte32, or32_1 _ _ (by omega), or32_2 _ _ (by omega), or32_3 _ _ (by omega)]

theorem xxu64 (ad : Addr) (n c : Nat) (l : List UInt8) (w : World) (hs : Src w 1 (.slice (some ad) n c) n (u8s l)) (hn : 8 ≤ n) (hm : n ≤ maxLen) :
    Calls Tryd.prog 98 #[.slice (some ad) n c] w fun e w' => e = .returned (.int .u64 (leVal (l.take 8))) ∧ St w [] w' [] := by
  have S := St.begin w
  have hs := hidden hs
  have hn := hidden hn
  have hm := hidden hm
  go_enter Tryd.func98, Tryd.ntmps98
  go_wp2_with ((refine wpList_ld0 ?_))
  refine Calls.mono (uint64 ad n c l _ (hs.out.on S.chg) hn.out hm.out) ?_
  rintro e w2 ⟨rfl, C⟩
  have S2 := S.call C; clear S C; simp only [List.cons_append, List.nil_append] at S2; have S := S2; clear S2
  go_wp2_with (fail)
  go_ret
  exact ⟨rfl, S⟩
theorem xxu32 (ad : Addr) (n c : Nat) (l : List UInt8) (w : World) (hs : Src w 1 (.slice (some ad) n c) n (u8s l)) (hn : 4 ≤ n) (hm : n ≤ maxLen) :
    Calls Tryd.prog 105 #[.slice (some ad) n c] w fun e w' => e = .returned (.int .u32 (leVal (l.take 4))) ∧ St w [] w' [] := by
  have S := St.begin w
  have hs := hidden hs
  have hn := hidden hn
  have hm := hidden hm
  go_enter Tryd.func105, Tryd.ntmps105
  go_wp2_with ((refine wpList_ld0 ?_))
  refine Calls.mono (uint32 ad n c l _ (hs.out.on S.chg) hn.out hm.out) ?_
  rintro e w2 ⟨rfl, C⟩
  have S2 := S.call C; clear S C; simp only [List.cons_append, List.nil_append] at S2; have S := S2; clear S2
  go_wp2_with (fail)
  go_ret
  exact ⟨rfl, S⟩
end Go.Proofs.YtbklhnpnkinadaaDoor
end
section
namespace Go.Proofs.YtbklhnpnkinadaaDoor
open Go Go.RowKit Go.Vil
set_option linter.unusedSimpArgs false
set_option linter.unusedVariables false

theorem put4 (l : List UInt8) (off : Nat) (v : Int) (h0 : 0 ≤ v) (h1 : v < 4294967296) (hl : off + 4 ≤ l.length) :
    ((((l.set off (UInt8.ofNat (v % 256).toNat)).set (off + 1) (UInt8.ofNat (v / 256 % 256).toNat)).set (off + 2) (UInt8.ofNat (v / 65536 % 256).toNat)).set (off + 3) (UInt8.ofNat (v / 16777216).toNat)) = splice l off (le 4 v.toNat) := by
  rw [set_four _ _ _ _ _ _ hl]
  obtain ⟨n, rfl⟩ := Int.eq_ofNat_of_zero_le h0
  simp only [le, Int.toNat_natCast]
  rw [ofNat_int _ (by omega), ofNat_int _ (by omega), ofNat_int _ (by omega)]
  congr 5 <;> (congr 1; omega)

set_option maxHeartbeats 400000 in
theorem put32 (b off n cap : Nat) (l : List UInt8) (v : Int) (w : World) (T : TypeId) (M : Mem w [.blk b (.cells (u8s l).toArray T (0, 0))])
    (hv0 : 0 ≤ v) (hv1 : v < 4294967296) (hn : 4 ≤ n) (hl : off + 4 ≤ l.length) :
    Calls Tryd.prog 111 #[.agg #[], .slice (some ⟨b, off, none⟩) n cap, .int .u32 v] w fun e w' => e = .returned (.tuple #[]) ∧ St w [b] w' [.blk b (.cells (u8s (splice l off (le 4 v.toNat))).toArray T (0, 0))] := by
  rw [← put4 l off v hv0 hv1 hl]
  have S : St w [b] w _ := St.start M
  clear M
  go_enter Tryd.func111, Tryd.ntmps111
  go_wp2_with (first | (refine wpList_box S ?_; (clear S; intro n w1 hn1 S)) | (refine wpList_ld8 S ?_) | (refine wpList_st8 S ?_; (clear S; intro w1 S)))
  go_end0
  exact ⟨rfl, S.sel (.cons (.tail .head) .nil)⟩
theorem put2 (l : List UInt8) (off : Nat) (v : Int) (h0 : 0 ≤ v) (h1 : v < 65536) (hl : off + 2 ≤ l.length) :
    (l.set off (UInt8.ofNat (v % 256).toNat)).set (off + 1) (UInt8.ofNat (v / 256).toNat) = splice l off (le 2 v.toNat) := by
  rw [set_two _ _ _ _ hl]
  obtain ⟨n, rfl⟩ := Int.eq_ofNat_of_zero_le h0
  simp only [le, Int.toNat_natCast]
  rw [ofNat_int _ (by omega)]
  congr 3 <;> (congr 1; omega)

set_option maxHeartbeats 400000 in
theorem put16 (b off n cap : Nat) (l : List UInt8) (v : Int) (w : World) (T : TypeId) (M : Mem w [.blk b (.cells (u8s l).toArray T (0, 0))])
    (hv0 : 0 ≤ v) (hv1 : v < 65536) (hn : 2 ≤ n) (hl : off + 2 ≤ l.length) :
    Calls Tryd.prog 112 #[.agg #[], .slice (some ⟨b, off, none⟩) n cap, .int .u16 v] w fun e w' => e = .returned (.tuple #[]) ∧ St w [b] w' [.blk b (.cells (u8s (splice l off (le 2 v.toNat))).toArray T (0, 0))] := by
  rw [← put2 l off v hv0 hv1 hl]
  have S : St w [b] w _ := St.start M
  clear M
  go_enter Tryd.func112, Tryd.ntmps112
  go_wp2_with (first | (refine wpList_box S ?_; (clear S; intro n w1 hn1 S)) | (refine wpList_ld8 S ?_) | (refine wpList_st8 S ?_; (clear S; intro w1 S)))
  go_end0
  exact ⟨rfl, S.sel (.cons (.tail .head) .nil)⟩

/-- A header as bytes. -/
def hdrBytes (ac ex kl hs vl vc : Int) (d : Bool) (sl rs : Int) : List UInt8 :=
  le 4 ac.toNat ++ le 4 ex.toNat ++ le 2 kl.toNat ++ le 2 hs.toNat ++ le 4 vl.toNat ++ le 4 vc.toNat ++ [cond d 1 0] ++ [UInt8.ofNat sl.toNat] ++ le 2 rs.toNat

theorem hdrBytes_eq (l : List UInt8) (off : Nat) (ac ex kl hs vl vc : Int) (d : Bool) (sl rs : Int) (hl : off + 24 ≤ l.length) :
    splice ((splice (splice (splice (splice (splice (splice (splice l off (le 4 ac.toNat)) (off + 4) (le 4 ex.toNat)) (off + 8) (le 2 kl.toNat)) (off + 10) (le 2 hs.toNat)) (off + 12) (le 4 vl.toNat)) (off + 16) (le 4 vc.toNat)) (off + 20) [cond d 1 0]).set (off + 21) (UInt8.ofNat sl.toNat)) (off + 22) (le 2 rs.toNat) = splice l off (hdrBytes ac ex kl hs vl vc d sl rs) := by
  have h1 := splice_splice l off (le 4 ac.toNat) (le 4 ex.toNat) (by simp; omega)
  have h2 := splice_splice l off (le 4 ac.toNat ++ le 4 ex.toNat) (le 2 kl.toNat) (by simp; omega)
  have h3 := splice_splice l off (le 4 ac.toNat ++ le 4 ex.toNat ++ le 2 kl.toNat) (le 2 hs.toNat) (by simp; omega)
  have h4 := splice_splice l off (le 4 ac.toNat ++ le 4 ex.toNat ++ le 2 kl.toNat ++ le 2 hs.toNat) (le 4 vl.toNat) (by simp; omega)
  have h5 := splice_splice l off (le 4 ac.toNat ++ le 4 ex.toNat ++ le 2 kl.toNat ++ le 2 hs.toNat ++ le 4 vl.toNat) (le 4 vc.toNat) (by simp; omega)
  have h6 := splice_splice l off (le 4 ac.toNat ++ le 4 ex.toNat ++ le 2 kl.toNat ++ le 2 hs.toNat ++ le 4 vl.toNat ++ le 4 vc.toNat) [cond d 1 0] (by simp; omega)
  have h7 := set_splice l off (le 4 ac.toNat ++ le 4 ex.toNat ++ le 2 kl.toNat ++ le 2 hs.toNat ++ le 4 vl.toNat ++ le 4 vc.toNat ++ [cond d 1 0]) (UInt8.ofNat sl.toNat) (by simp; omega)
  have h8 := splice_splice l off (le 4 ac.toNat ++ le 4 ex.toNat ++ le 2 kl.toNat ++ le 2 hs.toNat ++ le 4 vl.toNat ++ le 4 vc.toNat ++ [cond d 1 0] ++ [UInt8.ofNat sl.toNat]) (le 2 rs.toNat) (by simp; omega)
  simp only [List.length_append, le_length, List.length_singleton] at h1 h2 h3 h4 h5 h6 h7 h8
  simp only [Nat.reduceAdd] at h1 h2 h3 h4 h5 h6 h7 h8
  rw [h1, h2, h3, h4, h5, h6, h7, h8]
  rfl



set_option maxRecDepth 100000 in
set_option maxHeartbeats 2000000 in
theorem hdrWrite (p b off n cap : Nat) (l : List UInt8) (ac ex kl hs vl vc sl rs : Int) (d : Bool) (w : World) (T U : TypeId) (hn : 24 ≤ n) (hl : off + 24 ≤ l.length) (hc : n ≤ cap)
    (a0 : 0 ≤ ac) (a1 : ac < 4294967296) (b0 : 0 ≤ ex) (b1 : ex < 4294967296) (c0 : 0 ≤ kl) (c1 : kl < 65536) (d0 : 0 ≤ hs) (d1 : hs < 65536) (e0 : 0 ≤ vl) (e1 : vl < 4294967296) (f0 : 0 ≤ vc) (f1 : vc < 4294967296)
    (g0 : 0 ≤ sl) (g1 : sl < 256) (i0 : 0 ≤ rs) (i1 : rs < 65536)
    (M : Mem w [.blk p (.cells [.int .u32 ac, .int .u32 ex, .int .u16 kl, .int .u16 hs, .int .u32 vl, .int .u32 vc, .bool d, .int .u8 sl, .int .u16 rs].toArray U (0, 0)), .blk b (.cells (u8s l).toArray T (0, 0))]) :
    Calls Tryd.prog 90 #[.pointer (some ⟨p, 0, none⟩), .slice (some ⟨b, off, none⟩) n cap] w fun e w' => e = .returned (.tuple #[]) ∧
      St w [p, b] w' [.blk p (.cells [.int .u32 ac, .int .u32 ex, .int .u16 kl, .int .u16 hs, .int .u32 vl, .int .u32 vc, .bool d, .int .u8 sl, .int .u16 rs].toArray U (0, 0)), .blk b (.cells (u8s (splice l off (hdrBytes ac ex kl hs vl vc d sl rs))).toArray T (0, 0))] := by
  have S : St w [p, b] w _ := St.start M
  rw [← hdrBytes_eq l off ac ex kl hs vl vc d sl rs hl]
  clear M
  go_enter Tryd.func90, Tryd.ntmps90
  go_wp2_with (((with_reducible show Code.wp _ (Code.region _ _ true) _ _ _); refine St.regionLast S ?_; (repeat (first | (go_big_quiet_step (fail)) | (go_big_quiet_want; (refine quiet_ld S ?_); go_big_quiet_on))); refine wpQuiet_nil ?_; clear S; intro wq S))
  refine Calls.mono (put32 b _ _ _ _ _ _ _ S.sel1 a0 a1 (by omega) (by omega)) ?_
  rintro e w2 ⟨rfl, C⟩
  have S2 := S.call C; clear S C; simp only [List.cons_append, List.nil_append] at S2; have S := S2; clear S2
  obtain ⟨l1, H1, hl1⟩ : ∃ x, Hid (splice l off (le 4 ac.toNat) = x) ∧ x.length = l.length := ⟨_, rfl, by rw [splice_length _ _ _ (by simp; omega)]⟩
  rw [H1.out] at S
  go_wp2_with (((with_reducible show Code.wp _ (Code.region _ _ true) _ _ _); refine St.regionLast S ?_; (repeat (first | (go_big_quiet_step (fail)) | (go_big_quiet_want; (refine quiet_ld S ?_); go_big_quiet_on))); refine wpQuiet_nil ?_; clear S; intro wq S))
  refine Calls.mono (put32 b _ _ _ _ _ _ _ S.sel1 b0 b1 (by omega) (by omega)) ?_
  rintro e w2 ⟨rfl, C⟩
  have S2 := S.call C; clear S C; simp only [List.cons_append, List.nil_append] at S2; have S := S2; clear S2
  obtain ⟨l2, H2, hl2⟩ : ∃ x, Hid (splice l1 (off + 4) (le 4 ex.toNat) = x) ∧ x.length = l.length := ⟨_, rfl, by rw [splice_length _ _ _ (by simp; omega)]; exact hl1⟩
  rw [H2.out] at S
  go_wp2_with (((with_reducible show Code.wp _ (Code.region _ _ true) _ _ _); refine St.regionLast S ?_; (repeat (first | (go_big_quiet_step (fail)) | (go_big_quiet_want; (refine quiet_ld S ?_); go_big_quiet_on))); refine wpQuiet_nil ?_; clear S; intro wq S))
  refine Calls.mono (put16 b _ _ _ _ _ _ _ S.sel1 c0 c1 (by omega) (by omega)) ?_
  rintro e w2 ⟨rfl, C⟩
  have S2 := S.call C; clear S C; simp only [List.cons_append, List.nil_append] at S2; have S := S2; clear S2
  obtain ⟨l3, H3, hl3⟩ : ∃ x, Hid (splice l2 (off + 8) (le 2 kl.toNat) = x) ∧ x.length = l.length := ⟨_, rfl, by rw [splice_length _ _ _ (by simp; omega)]; exact hl2⟩
  rw [H3.out] at S
  go_wp2_with (((with_reducible show Code.wp _ (Code.region _ _ true) _ _ _); refine St.regionLast S ?_; (repeat (first | (go_big_quiet_step (fail)) | (go_big_quiet_want; (refine quiet_ld S ?_); go_big_quiet_on))); refine wpQuiet_nil ?_; clear S; intro wq S))
  refine Calls.mono (put16 b _ _ _ _ _ _ _ S.sel1 d0 d1 (by omega) (by omega)) ?_
  rintro e w2 ⟨rfl, C⟩
  have S2 := S.call C; clear S C; simp only [List.cons_append, List.nil_append] at S2; have S := S2; clear S2
  obtain ⟨l4, H4, hl4⟩ : ∃ x, Hid (splice l3 (off + 10) (le 2 hs.toNat) = x) ∧ x.length = l.length := ⟨_, rfl, by rw [splice_length _ _ _ (by simp; omega)]; exact hl3⟩
  rw [H4.out] at S
  go_wp2_with (((with_reducible show Code.wp _ (Code.region _ _ true) _ _ _); refine St.regionLast S ?_; (repeat (first | (go_big_quiet_step (fail)) | (go_big_quiet_want; (refine quiet_ld S ?_); go_big_quiet_on))); refine wpQuiet_nil ?_; clear S; intro wq S))
  refine Calls.mono (put32 b _ _ _ _ _ _ _ S.sel1 e0 e1 (by omega) (by omega)) ?_
  rintro e w2 ⟨rfl, C⟩
  have S2 := S.call C; clear S C; simp only [List.cons_append, List.nil_append] at S2; have S := S2; clear S2
  obtain ⟨l5, H5, hl5⟩ : ∃ x, Hid (splice l4 (off + 12) (le 4 vl.toNat) = x) ∧ x.length = l.length := ⟨_, rfl, by rw [splice_length _ _ _ (by simp; omega)]; exact hl4⟩
  rw [H5.out] at S
  go_wp2_with (((with_reducible show Code.wp _ (Code.region _ _ true) _ _ _); refine St.regionLast S ?_; (repeat (first | (go_big_quiet_step (fail)) | (go_big_quiet_want; (refine quiet_ld S ?_); go_big_quiet_on))); refine wpQuiet_nil ?_; clear S; intro wq S))
  refine Calls.mono (put32 b _ _ _ _ _ _ _ S.sel1 f0 f1 (by omega) (by omega)) ?_
  rintro e w2 ⟨rfl, C⟩
  have S2 := S.call C; clear S C; simp only [List.cons_append, List.nil_append] at S2; have S := S2; clear S2
  obtain ⟨l6, H6, hl6⟩ : ∃ x, Hid (splice l5 (off + 16) (le 4 vc.toNat) = x) ∧ x.length = l.length := ⟨_, rfl, by rw [splice_length _ _ _ (by simp; omega)]; exact hl5⟩
  rw [H6.out] at S
  cases d
  all_goals
    go_wp2_with (first | ((with_reducible show Code.wp _ (Code.region _ _ true) _ _ _); refine St.regionLast S ?_; (repeat (first | (go_big_quiet_step (fail)) | (go_big_quiet_want; (refine quiet_ld S ?_); go_big_quiet_on))); refine wpQuiet_nil ?_; clear S; intro wq S) | (refine wpList_ld S ?_) | (refine wpList_st8 S ?_; (clear S; intro ws S)))

    refine Calls.mono (put16 b _ _ _ _ _ _ _ S.sel1 i0 i1 (by omega) (by simp; omega)) ?_
    rintro e w2 ⟨rfl, C⟩
    have S2 := S.call C; clear S C; simp only [List.cons_append, List.nil_append] at S2; have S := S2; clear S2
    go_wp2
    go_end0
    refine ⟨rfl, ?_⟩
    have e0 : UInt8.ofNat (Int.toNat 0) = 0 := rfl
    have e1 : UInt8.ofNat (Int.toNat 1) = 1 := rfl
    simp only [e0, e1, List.set_set] at S
    rw [H1.out, H2.out, H3.out, H4.out, H5.out, H6.out]
    first
      | rw [← set_one l6 (off + 20) (cond false 1 0) (by omega)]
      | rw [← set_one l6 (off + 20) (cond true 1 0) (by omega)]
    exact S.sel (by repeat (first | exact Sel.nil | (apply Sel.cons; (repeat (first | exact Pull.head | apply Pull.tail)))))

theorem wrap_b16 (y : UInt8) : IntKind.u16.wrap (y.toNat : Int) = ((y.toNat : Nat) : Int) := by
  have := y.toNat_lt
  rw [IntKind.wrap_u16]; omega
theorem or16_1 (a : Nat) (y : UInt8) (ha : a < 256) : Go.bits .or .u16 (a : Int) (IntKind.u16.wrap (IntKind.u16.wrap (y.toNat : Int) * 256)) = ((a + y.toNat * 256 : Nat) : Int) := by
  have hy := y.toNat_lt
  have e : IntKind.u16.wrap (IntKind.u16.wrap (y.toNat : Int) * 256) = ((y.toNat * 256 : Nat) : Int) := by rw [wrap_b16, IntKind.wrap_u16]; omega
  rw [e, u16_or_nat _ _ (by omega) (by omega)]
  have := or_low 8 a y.toNat (by omega)
  rw [show (2 : Nat) ^ 8 = 256 from rfl] at this
  rw [this]
theorem le2_of (l : List UInt8) (h : 2 ≤ l.length) : (l.getD 0 0).toNat + (l.getD 1 0).toNat * 256 = leVal (l.take 2) := by
  match l, h with
  | x0 :: x1 :: l, _ => simp [leVal]; omega

set_option maxHeartbeats 1600000 in
set_option maxRecDepth 100000 in
theorem uint16 (ad : Addr) (n c : Nat) (l : List UInt8) (w : World) (hs : Src w 1 (.slice (some ad) n c) n (u8s l)) (hn : 2 ≤ n) (hm : n ≤ maxLen) :
    Calls Tryd.prog 110 #[.agg #[], .slice (some ad) n c] w fun e w' => e = .returned (.int .u16 (leVal (l.take 2))) ∧ St w [] w' [] := by
  have S := St.begin w
  unfold maxLen at hm
  have g0 := hs.byte 0 (by omega)
  have g1 := hs.byte 1 (by omega)
  generalize hc0 : l.getD 0 0 = x0 at g0
  generalize hc1 : l.getD 1 0 = x1 at g1
  have hl := hidden hs.len8
  have H := hidden (And.intro hc0 hc1)
  clear hc0 hc1
  go_enter Tryd.func110, Tryd.ntmps110
  go_wp2_with (first | ((with_reducible show Code.wp _ (Code.region _ _ true) _ _ _); refine St.regionLast S ?_; (repeat (first | (go_big_quiet_step (fail)) | (go_big_quiet_want; (refine quiet_ldc S ?_); go_big_quiet_on))); refine wpQuiet_nil ?_; clear S; intro wq S) | (refine wpList_box S ?_; (clear S; intro nb wb hnb S)) | (refine wpList_ldc S ?_))
  go_ret
  refine ⟨retI ?_, S.sel (by repeat (first | exact Sel.nil | (apply Sel.cons; (repeat (first | exact Pull.head | apply Pull.tail)))))⟩
  obtain ⟨hc0, hc1⟩ := H.out
  rw [← le2_of l (by have := hl.out; omega), hc0, hc1]
  have := x0.toNat_lt
  have := x1.toNat_lt
  rw [wrap_b16, or16_1 _ _ (by omega)]

/-- A part of a header as a number again. -/
theorem le_part (l a m b : List UInt8) (n k o : Nat) (hl : l = a ++ (m ++ b)) (ha : a.length = o) (hm : m = le k n) (hn : n < 256 ^ k) (r : Nat) (hr : k ≤ r) : leVal (((l.drop o).take r).take k) = n := by
  rw [hl, List.drop_left' ha, List.take_take, Nat.min_eq_left hr, List.take_left' (by rw [hm, le_length]), hm, leVal_le, Nat.mod_eq_of_lt hn]

set_option maxHeartbeats 6400000 in
set_option maxRecDepth 100000 in
theorem hdrRead (p b : Nat) (ac ex kl hs vl vc sl rs : Nat) (d : Bool) (l : List UInt8) (x0 x1 x2 x3 x4 x5 x6 x7 x8 : Value) (T U : TypeId) (w : World) (hl : l = hdrBytes ac ex kl hs vl vc d sl rs)
    (a1 : ac < 4294967296) (b1 : ex < 4294967296) (c1 : kl < 65536) (d1 : hs < 65536) (e1 : vl < 4294967296) (f1 : vc < 4294967296) (g1 : sl < 256) (i1 : rs < 65536)
    (M : Mem w [.blk p (.cells [x0, x1, x2, x3, x4, x5, x6, x7, x8].toArray U (0, 0)), .blk b (.cells (u8s l).toArray T (0, 0))]) :
    Calls Tryd.prog 88 #[.pointer (some ⟨p, 0, none⟩), .slice (some ⟨b, 0, none⟩) 24 24] w fun e w' => e = .returned (.tuple #[]) ∧
      St w [p, b] w' [.blk p (.cells [.int .u32 ac, .int .u32 ex, .int .u16 kl, .int .u16 hs, .int .u32 vl, .int .u32 vc, .bool d, .int .u8 sl, .int .u16 rs].toArray U (0, 0)), .blk b (.cells (u8s l).toArray T (0, 0))] := by
  have S : St w [p, b] w _ := St.start M
  clear M
  have hl2 : l = le 4 ac ++ le 4 ex ++ le 2 kl ++ le 2 hs ++ le 4 vl ++ le 4 vc ++ [cond d 1 0] ++ [UInt8.ofNat sl] ++ le 2 rs := by
    rw [hl]; unfold hdrBytes; simp only [Int.toNat_natCast]
  have hll : l.length = 24 := by rw [hl2]; simp
  have vac := hidden (le_part l ([]) (le 4 ac) (le 4 ex ++ le 2 kl ++ le 2 hs ++ le 4 vl ++ le 4 vc ++ [cond d 1 0] ++ [UInt8.ofNat sl] ++ le 2 rs) ac 4 0 (by rw [hl2]; simp [List.append_assoc]) (by simp) rfl (by omega) 24 (by omega))
  have vex := hidden (le_part l (le 4 ac) (le 4 ex) (le 2 kl ++ le 2 hs ++ le 4 vl ++ le 4 vc ++ [cond d 1 0] ++ [UInt8.ofNat sl] ++ le 2 rs) ex 4 4 (by rw [hl2]; simp [List.append_assoc]) (by simp) rfl (by omega) 20 (by omega))
  have vkl := hidden (le_part l (le 4 ac ++ le 4 ex) (le 2 kl) (le 2 hs ++ le 4 vl ++ le 4 vc ++ [cond d 1 0] ++ [UInt8.ofNat sl] ++ le 2 rs) kl 2 8 (by rw [hl2]; simp [List.append_assoc]) (by simp) rfl (by omega) 16 (by omega))
  have vhs := hidden (le_part l (le 4 ac ++ le 4 ex ++ le 2 kl) (le 2 hs) (le 4 vl ++ le 4 vc ++ [cond d 1 0] ++ [UInt8.ofNat sl] ++ le 2 rs) hs 2 10 (by rw [hl2]; simp [List.append_assoc]) (by simp) rfl (by omega) 14 (by omega))
  have vvl := hidden (le_part l (le 4 ac ++ le 4 ex ++ le 2 kl ++ le 2 hs) (le 4 vl) (le 4 vc ++ [cond d 1 0] ++ [UInt8.ofNat sl] ++ le 2 rs) vl 4 12 (by rw [hl2]; simp [List.append_assoc]) (by simp) rfl (by omega) 12 (by omega))
  have vvc := hidden (le_part l (le 4 ac ++ le 4 ex ++ le 2 kl ++ le 2 hs ++ le 4 vl) (le 4 vc) ([cond d 1 0] ++ [UInt8.ofNat sl] ++ le 2 rs) vc 4 16 (by rw [hl2]; simp [List.append_assoc]) (by simp) rfl (by omega) 8 (by omega))
  have vrs := hidden (le_part l (le 4 ac ++ le 4 ex ++ le 2 kl ++ le 2 hs ++ le 4 vl ++ le 4 vc ++ [cond d 1 0] ++ [UInt8.ofNat sl]) (le 2 rs) ([]) rs 2 22 (by rw [hl2]; simp [List.append_assoc]) (by simp) rfl (by omega) 2 (by omega))
  have h20 : ∀ h : 20 < l.length, l[20]'h = (cond d 1 0 : UInt8) := by
    intro h
    have q : l[20]? = some (cond d 1 0 : UInt8) := by
      rw [hl2]
      simp [List.getElem?_append]
    rw [List.getElem?_eq_getElem h] at q
    exact Option.some.inj q
  have h21 : (((l.getD 21 0).toNat : Nat) : Int) = (sl : Int) := by
    have q : l[21]? = some (UInt8.ofNat sl) := by
      rw [hl2]
      simp [List.getElem?_append]
    rw [List.getD_eq_getElem?_getD, q, Option.getD_some, UInt8.toNat_ofNat']
    omega
  replace h20 := hidden h20
  replace h21 := hidden h21
  clear hl hl2
  refine Calls.cps ?_; intro R hR
  go_enter Tryd.func88, Tryd.ntmps88
  go_wp2_with ((refine wpList_ld0 ?_))
  refine Calls.mono (uint32 ⟨b, 0, none⟩ 24 24 ((l.drop 0).take 24) _ (S.src8 (b := b) (o := 0) (m := 24) (c := 24) (l := l) (T := T) (fr := (0, 0)) (by repeat (first | exact Pull.head | apply Pull.tail)) (by omega)) (by omega) (by unfold maxLen; omega)) ?_
  rintro e w2 ⟨rfl, C⟩
  have S2 := S.same C.chg; clear S C; have S := S2; clear S2
  rw [vac.out]
  go_upto_region 1 with ((refine wpList_st S ?_; (clear S; intro ws S)))
  refine St.regionG S 7 [([0, 1, 2, 3], 4)] [5, 6] ?_
  clear S; intro wr S; simp only [walkSt, pick, List.getElem?_cons_succ, List.getElem?_cons_zero, List.drop_succ_cons, List.drop_zero]; (repeat (first | (go_big_quiet_want; (refine quiet_slcB 4 ?_); go_big_quiet_on) | ((go_big_quiet_step (fail))))); refine wpQuiet_nil ?_
  go_wp2_with fail
  refine Calls.mono (uint32 ⟨b, 4, none⟩ 20 20 ((l.drop 4).take 20) _ (S.src8 (b := b) (o := 4) (m := 20) (c := 20) (l := l) (T := T) (fr := (0, 0)) (by repeat (first | exact Pull.head | apply Pull.tail)) (by omega)) (by omega) (by unfold maxLen; omega)) ?_
  rintro e w2 ⟨rfl, C⟩
  have S2 := S.same C.chg; clear S C; have S := S2; clear S2
  rw [vex.out]
  go_wp2_with fail
  refine ⟨_, S, (by repeat (first | exact Sel.nil | (apply Sel.cons; (repeat (first | exact Pull.head | apply Pull.tail))))), ?_⟩; (repeat ((go_big_quiet_step (fail)))); refine wpQuiet_nil ?_
  go_upto_region 2 with ((refine wpList_st S ?_; (clear S; intro ws S)))
  refine St.regionG S 7 [([0, 1, 2, 3], 4)] [5, 6] ?_
  clear S; intro wr S; simp only [walkSt, pick, List.getElem?_cons_succ, List.getElem?_cons_zero, List.drop_succ_cons, List.drop_zero]; (repeat (first | (go_big_quiet_want; (refine quiet_slcB 8 ?_); go_big_quiet_on) | ((go_big_quiet_step (fail))))); refine wpQuiet_nil ?_
  go_wp2_with fail
  refine Calls.mono (uint16 ⟨b, 8, none⟩ 16 16 ((l.drop 8).take 16) _ (S.src8 (b := b) (o := 8) (m := 16) (c := 16) (l := l) (T := T) (fr := (0, 0)) (by repeat (first | exact Pull.head | apply Pull.tail)) (by omega)) (by omega) (by unfold maxLen; omega)) ?_
  rintro e w2 ⟨rfl, C⟩
  have S2 := S.same C.chg; clear S C; have S := S2; clear S2
  rw [vkl.out]
  go_wp2_with fail
  refine ⟨_, S, (by repeat (first | exact Sel.nil | (apply Sel.cons; (repeat (first | exact Pull.head | apply Pull.tail))))), ?_⟩; (repeat ((go_big_quiet_step (fail)))); refine wpQuiet_nil ?_
  go_upto_region 3 with ((refine wpList_st S ?_; (clear S; intro ws S)))
  refine St.regionG S 7 [([0, 1, 2, 3], 4)] [5, 6] ?_
  clear S; intro wr S; simp only [walkSt, pick, List.getElem?_cons_succ, List.getElem?_cons_zero, List.drop_succ_cons, List.drop_zero]; (repeat (first | (go_big_quiet_want; (refine quiet_slcB 10 ?_); go_big_quiet_on) | ((go_big_quiet_step (fail))))); refine wpQuiet_nil ?_
  go_wp2_with fail
  refine Calls.mono (uint16 ⟨b, 10, none⟩ 14 14 ((l.drop 10).take 14) _ (S.src8 (b := b) (o := 10) (m := 14) (c := 14) (l := l) (T := T) (fr := (0, 0)) (by repeat (first | exact Pull.head | apply Pull.tail)) (by omega)) (by omega) (by unfold maxLen; omega)) ?_
  rintro e w2 ⟨rfl, C⟩
  have S2 := S.same C.chg; clear S C; have S := S2; clear S2
  rw [vhs.out]
  go_wp2_with fail
  refine ⟨_, S, (by repeat (first | exact Sel.nil | (apply Sel.cons; (repeat (first | exact Pull.head | apply Pull.tail))))), ?_⟩; (repeat ((go_big_quiet_step (fail)))); refine wpQuiet_nil ?_
  go_upto_region 4 with ((refine wpList_st S ?_; (clear S; intro ws S)))
  refine St.regionG S 7 [([0, 1, 2, 3], 4)] [5, 6] ?_
  clear S; intro wr S; simp only [walkSt, pick, List.getElem?_cons_succ, List.getElem?_cons_zero, List.drop_succ_cons, List.drop_zero]; (repeat (first | (go_big_quiet_want; (refine quiet_slcB 12 ?_); go_big_quiet_on) | ((go_big_quiet_step (fail))))); refine wpQuiet_nil ?_
  go_wp2_with fail
  refine Calls.mono (uint32 ⟨b, 12, none⟩ 12 12 ((l.drop 12).take 12) _ (S.src8 (b := b) (o := 12) (m := 12) (c := 12) (l := l) (T := T) (fr := (0, 0)) (by repeat (first | exact Pull.head | apply Pull.tail)) (by omega)) (by omega) (by unfold maxLen; omega)) ?_
  rintro e w2 ⟨rfl, C⟩
  have S2 := S.same C.chg; clear S C; have S := S2; clear S2
  rw [vvl.out]
  go_wp2_with fail
  refine ⟨_, S, (by repeat (first | exact Sel.nil | (apply Sel.cons; (repeat (first | exact Pull.head | apply Pull.tail))))), ?_⟩; (repeat ((go_big_quiet_step (fail)))); refine wpQuiet_nil ?_
  go_upto_region 5 with ((refine wpList_st S ?_; (clear S; intro ws S)))
  refine St.regionG S 7 [([0, 1, 2, 3], 4)] [5, 6] ?_
  clear S; intro wr S; simp only [walkSt, pick, List.getElem?_cons_succ, List.getElem?_cons_zero, List.drop_succ_cons, List.drop_zero]; (repeat (first | (go_big_quiet_want; (refine quiet_slcB 16 ?_); go_big_quiet_on) | ((go_big_quiet_step (fail))))); refine wpQuiet_nil ?_
  go_wp2_with fail
  refine Calls.mono (uint32 ⟨b, 16, none⟩ 8 8 ((l.drop 16).take 8) _ (S.src8 (b := b) (o := 16) (m := 8) (c := 8) (l := l) (T := T) (fr := (0, 0)) (by repeat (first | exact Pull.head | apply Pull.tail)) (by omega)) (by omega) (by unfold maxLen; omega)) ?_
  rintro e w2 ⟨rfl, C⟩
  have S2 := S.same C.chg; clear S C; have S := S2; clear S2
  rw [vvc.out]
  go_wp2_with fail
  refine ⟨_, S, (by repeat (first | exact Sel.nil | (apply Sel.cons; (repeat (first | exact Pull.head | apply Pull.tail))))), ?_⟩; (repeat ((go_big_quiet_step (fail)))); refine wpQuiet_nil ?_
  go_upto_region 8 with (first | (refine wpList_ld8 S ?_) | (refine wpList_st S ?_; (clear S; intro ws S)))
  refine St.regionG S 7 [([0, 1, 2, 3], 4)] [5, 6] ?_
  clear S; intro wr S; simp only [walkSt, pick, List.getElem?_cons_succ, List.getElem?_cons_zero, List.drop_succ_cons, List.drop_zero]; (repeat (first | (go_big_quiet_want; (refine quiet_slcB 22 ?_); go_big_quiet_on) | ((go_big_quiet_step (fail))))); refine wpQuiet_nil ?_
  go_wp2_with fail
  refine Calls.mono (uint16 ⟨b, 22, none⟩ 2 2 ((l.drop 22).take 2) _ (S.src8 (b := b) (o := 22) (m := 2) (c := 2) (l := l) (T := T) (fr := (0, 0)) (by repeat (first | exact Pull.head | apply Pull.tail)) (by omega)) (by omega) (by unfold maxLen; omega)) ?_
  rintro e w2 ⟨rfl, C⟩
  have S2 := S.same C.chg; clear S C; have S := S2; clear S2
  rw [vrs.out]
  go_wp2_with fail
  refine ⟨_, S, (by repeat (first | exact Sel.nil | (apply Sel.cons; (repeat (first | exact Pull.head | apply Pull.tail))))), ?_⟩; (repeat ((go_big_quiet_step (fail)))); refine wpQuiet_nil ?_
  go_wp2_with ((refine wpList_st S ?_; (clear S; intro ws S)))
  rw [h20.out, h21.out] at S
  have hd : ((((cond d 1 0 : UInt8).toNat : Nat) : Int) != 0) = d := by cases d <;> rfl
  rw [hd] at S
  ((first | go_ret | go_ret2 | go_ret3 | go_end0 | skip); refine hR.out _ _ ?_)
  exact ⟨rfl, S.sel (by repeat (first | exact Sel.nil | (apply Sel.cons; (repeat (first | exact Pull.head | apply Pull.tail)))))⟩
end Go.Proofs.YtbklhnpnkinadaaDoor
end
section
namespace Go.Proofs.YtbklhnpnkinadaaDoor
open Go.RowKit Go.Vil Go.ChangeShapes Go.WideShapes Go.ChangeAt
set_option linter.unusedSimpArgs false
set_option linter.unusedVariables false

/-- A pointer to an entry: its offset, its hash, and how long its key is. -/
structure Pt where
  off : Nat
  hash : Nat
  klen : Nat
/-- Pointers lie in cells from a place on, four cells each; the fourth one is any. -/
def Pts (cs : List Value) (o : Nat) (ps : List Pt) : Prop := ∀ (j : Nat) (p : Pt), ps[j]? = some p → cs[o + j * 4]? = some (.int .i64 p.off) ∧ cs[o + j * 4 + 1]? = some (.int .u16 p.hash) ∧ cs[o + j * 4 + 2]? = some (.int .u16 p.klen) ∧ ∃ v, cs[o + j * 4 + 3]? = some v
/-- Their hashes rise. -/
def RiseP (ps : List Pt) : Prop := ∀ (i j : Nat) (x y : Pt), i ≤ j → ps[i]? = some x → ps[j]? = some y → x.hash ≤ y.hash
/-- The first place whose hash is not less. -/
def LowP (ps : List Pt) (h r : Nat) : Prop := r ≤ ps.length ∧ (∀ (i : Nat) (x : Pt), i < r → ps[i]? = some x → x.hash < h) ∧ (∀ (i : Nat) (x : Pt), r ≤ i → ps[i]? = some x → h ≤ x.hash)

set_option maxHeartbeats 800000 in
theorem ptrIdx (b o n c : Nat) (cs : List Value) (ps : List Pt) (h : Nat) (w : World) (T : TypeId) (M : Mem w [.blk b (.cells cs.toArray T (0, 0))]) (hx : ps.length = n) (hp : Pts cs o ps) (hs : RiseP ps) (hn : n ≤ 65536) (hc : n ≤ c) :
    Calls Tryd.prog 108 #[.slice (some ⟨b, o, none⟩) n c, .int .u16 h] w fun e w' => ∃ r : Nat, e = .returned (.int .i64 r) ∧ LowP ps h r ∧ St w [b] w' [.blk b (.cells cs.toArray T (0, 0))] := by
  have S : St w [b] w _ := St.start M
  clear M
  have hp := hidden hp
  have hs := hidden hs
  have hx := hidden hx
  refine Calls.cps ?_; intro R hR
  go_enter Tryd.func108, Tryd.ntmps108
  go_wp2_with (fail)
  go_loopg [4, 5] n (fun g i j wr => ∃ lo hi : Nat, lo ≤ hi ∧ hi ≤ n ∧ hi - lo ≤ g ∧ i = .int .i64 lo ∧ j = .int .i64 hi ∧ Hid (∀ (i : Nat) (x : Pt), i < lo → ps[i]? = some x → x.hash < h) ∧ Hid (∀ (i : Nat) (x : Pt), hi ≤ i → ps[i]? = some x → h ≤ x.hash) ∧ St w [b] wr [.blk b (.cells cs.toArray T (0, 0))])
  case atStart => exact ⟨0, n, by omega, by omega, by omega, rfl, rfl, hidden (by intro i x hi; omega), hidden (by intro i x hi hq; have := (List.getElem?_eq_some_iff.1 hq).1; have := hx.out; omega), S⟩
  case round =>
    obtain ⟨lo, hi, h1, h2, h3, rfl, rfl, hl, hr, S⟩ := hrel
    by_cases hlt : lo < hi
    · obtain ⟨mid, hm1, hm2, hmid⟩ : ∃ mid : Nat, lo ≤ mid ∧ mid < hi ∧ ((lo : Int) + (hi : Int)) / 2 = (mid : Int) := ⟨(lo + hi) / 2, by omega, by omega, by omega⟩
      obtain ⟨x, hxm⟩ : ∃ x, Hid (ps[mid]? = some x) := ⟨ps[mid]'(by have := hx.out; omega), hidden (List.getElem?_eq_getElem _)⟩
      have hq := (hp.out mid x hxm.out).2.1
      by_cases hxh : x.hash < h
      · go_wp2_with (refine wpList_ld S ?_ (hi := by assumption))
        go_roundg (gk - 1)
        case measure => omega
        case rel => exact ⟨mid + 1, hi, by omega, by omega, by omega, rfl, rfl, hidden (fun i y hi hy => by have := hs.out i mid y x (by omega) hy hxm.out; omega), hr, S⟩
      · go_wp2_with (refine wpList_ld S ?_ (hi := by assumption))
        go_roundg (gk - 1)
        case measure => omega
        case rel => exact ⟨lo, mid, by omega, by omega, by omega, rfl, rfl, hl, hidden (fun i y hi hy => by have := hs.out mid i x y (by omega) hxm.out hy; omega), S⟩
    · go_wp2_with (fail)
      ((first | go_ret | go_ret2 | go_ret3 | go_end0 | skip); refine hR.out _ _ ?_)
      obtain rfl : hi = lo := by omega
      exact ⟨hi, rfl, ⟨by have := hx.out; omega, hl.out, hr.out⟩, S⟩
end Go.Proofs.YtbklhnpnkinadaaDoor
end
section
namespace Go.Proofs.YtbklhnpnkinadaaDoor
open Go.RowKit Go.Vil Go.ChangeShapes Go.WideShapes Go.ChangeAt
set_option linter.unusedSimpArgs false
set_option linter.unusedVariables false

theorem Pts.at' {cs : List Value} {o : Nat} {ps : List Pt} (h : Pts cs o ps) {j : Nat} (hj : j < ps.length) : ∃ p, ps[j]? = some p ∧ cs[o + j * 4]? = some (.int .i64 p.off) ∧ cs[o + j * 4 + 1]? = some (.int .u16 p.hash) ∧ cs[o + j * 4 + 2]? = some (.int .u16 p.klen) := by
  have e : ps[j]? = some ps[j] := List.getElem?_eq_getElem hj
  obtain ⟨h1, h2, h3, _⟩ := h j _ e
  exact ⟨_, e, h1, h2, h3⟩

set_option maxHeartbeats 1600000 in
theorem lookupByOff (qv : Value) (b o n c : Nat) (cs : List Value) (ps : List Pt) (h off : Nat) (w : World) (T : TypeId) (M : Mem w [.blk b (.cells cs.toArray T (0, 0))]) (hx : ps.length = n) (hp : Pts cs o ps) (hs : RiseP ps) (hn : n ≤ 65536) (hc : n ≤ c) :
    Calls Tryd.prog 120 #[qv, .slice (some ⟨b, o, none⟩) n c, .int .u16 h, .int .i64 off] w fun e w' => ∃ (r : Nat) (m : Bool), e = .returned (.tuple #[.int .i64 r, .bool m]) ∧
      (m = true → ∃ p, ps[r]? = some p ∧ p.hash = h ∧ p.off = off) ∧ (m = false → ∀ p ∈ ps, p.hash = h → p.off ≠ off) ∧ St w [b] w' [.blk b (.cells cs.toArray T (0, 0))] := by
  have S : St w [b] w _ := St.start M
  clear M
  have hp := hidden hp
  have hs := hidden hs
  have hx := hidden hx
  refine Calls.cps ?_; intro R hR
  go_enter Tryd.func120, Tryd.ntmps120
  go_wp2_with (fail)
  refine Calls.mono (ptrIdx b o n c cs ps h _ T S.sel1 hx.out hp.out hs.out hn hc) ?_
  rintro e w2 ⟨lo, rfl, hlo, C⟩
  have S2 := S.call C; clear S C; simp only [List.cons_append, List.nil_append] at S2; have S := S2; clear S2
  have hlo := hidden hlo
  have hlon : lo ≤ n := by have := hlo.out.1; have := hx.out; omega
  go_wp2_with fail
  go_loopg [8, 9] n (fun g i m wr => ∃ j : Nat, lo ≤ j ∧ j ≤ n ∧ n - j ≤ g ∧ i = .int .i64 j ∧ m = .bool false ∧ Hid (∀ (i : Nat) (x : Pt), i < j → ps[i]? = some x → x.hash = h → x.off ≠ off) ∧ St w [b] wr [.blk b (.cells cs.toArray T (0, 0))])
  case atStart => exact ⟨lo, by omega, hlon, by omega, rfl, rfl, hidden (fun i x hi hxi he => by have := hlo.out.2.1 i x hi hxi; omega), S⟩
  case round =>
    obtain ⟨j, hj1, hj2, hj3, rfl, rfl, hno, S⟩ := hrel
    by_cases hlt : j < n
    · obtain ⟨p, hpj, q0, q1, _⟩ := hp.out.at' (j := j) (by have := hx.out; omega)
      have hpj := hidden hpj
      by_cases hph : p.hash = h
      · by_cases hpo : p.off = off
        · go_wp2_with (refine wpList_ld S ?_ (hi := by assumption))
          ((first | go_ret | go_ret2 | go_ret3 | go_end0 | skip); refine hR.out _ _ ?_)
          exact ⟨j, true, rfl, fun _ => ⟨p, hpj.out, hph, hpo⟩, fun h0 => (by cases h0), S⟩
        · have hbb : ((p.off : Int) == (off : Int)) = false := by simp; omega
          go_wp2_with (refine wpList_ld S ?_ (hi := by assumption))
          go_roundg (gk - 1)
          case measure => omega
          case rel =>
            refine ⟨j + 1, by omega, by omega, by omega, rfl, by first | rfl | rw [hbb], hidden ?_, S⟩
            intro i x hi hxi he
            by_cases e : i = j
            · subst e; rw [hpj.out] at hxi; cases hxi; exact hpo
            · exact hno.out i x (by omega) hxi he
      · go_wp2_with (refine wpList_ld S ?_ (hi := by assumption))
        ((first | go_ret | go_ret2 | go_ret3 | go_end0 | skip); refine hR.out _ _ ?_)
        refine ⟨j, false, rfl, fun h0 => (by cases h0), fun _ x hx2 he => ?_, S⟩
        obtain ⟨i, hi⟩ := List.mem_iff_getElem?.1 hx2
        by_cases hij : i < j
        · exact hno.out i x hij hi he
        · have h1 := hs.out j i p x (by omega) hpj.out hi
          have h2 := hlo.out.2.2 j p hj1 hpj.out
          omega
    · go_wp2_with (fail)
      ((first | go_ret | go_ret2 | go_ret3 | go_end0 | skip); refine hR.out _ _ ?_)
      refine ⟨j, false, rfl, fun h0 => (by cases h0), fun _ x hx2 he => ?_, S⟩
      obtain ⟨i, hi⟩ := List.mem_iff_getElem?.1 hx2
      have h1 := (List.getElem?_eq_some_iff.1 hi).1
      exact hno.out i x (by have := hx.out; omega) hi he
end Go.Proofs.YtbklhnpnkinadaaDoor
end
section
set_option linter.unusedVariables false
namespace Go.Vil

/-- A ring: its bytes, the offsets at which the stream begins and ends, and the index at which is written next. -/
structure Ri where
  data : List UInt8
  b : Nat
  e : Nat
  ix : Nat
namespace Ri
def size (r : Ri) : Nat := r.data.length
def len (r : Ri) : Nat := r.e - r.b
/-- Where the first byte lies. -/
def base (r : Ri) : Nat := if r.len < r.size then 0 else r.ix
/-- The bytes that are there. -/
structure Has (r : Ri) (W : List UInt8) : Prop where
  pos : 1 ≤ r.size
  le : r.b ≤ r.e
  len : W.length = r.len
  fit : r.len ≤ r.size
  ix : r.ix < r.size
  part : r.len < r.size → r.ix = r.len
  get : ∀ k, k < W.length → r.data[(r.base + k) % r.size]? = W[k]?
/-- The last so many of a list. -/
def last (n : Nat) (l : List UInt8) : List UInt8 := l.drop (l.length - n)
theorem last_length (n : Nat) (l : List UInt8) : (last n l).length = min n l.length := by
  unfold last; simp; omega
theorem last_get (n : Nat) (l : List UInt8) (k : Nat) : (last n l)[k]? = l[l.length - n + k]? := by
  unfold last; rw [List.getElem?_drop]
/-- Where the byte at an offset lies. -/
def off (r : Ri) (o : Nat) : Nat := (r.base + (o - r.b)) % r.size
/-- A new ring. -/
def fresh (size b : Nat) : Ri := ⟨List.replicate size 0, b, b, 0⟩
theorem fresh_has (size b : Nat) (h : 1 ≤ size) : (fresh size b).Has [] := by
  refine ⟨by simpa [fresh, Ri.size] using h, Nat.le_refl _, by simp [fresh, Ri.len], by simp [fresh, Ri.len], by simp [fresh, Ri.size]; omega, fun _ => by simp [fresh, Ri.len], fun k hk => by simp at hk⟩
/-- A byte more. -/
def put (r : Ri) (c : UInt8) : Ri := ⟨r.data.set r.ix c, max r.b (r.e + 1 - r.size), r.e + 1, if r.ix + 1 = r.size then 0 else r.ix + 1⟩
theorem put_size (r : Ri) (c : UInt8) : (r.put c).size = r.size := by simp [put, size]
theorem last_le {n : Nat} {l : List UInt8} (h : l.length ≤ n) : last n l = l := by
  unfold last; rw [show l.length - n = 0 by omega, List.drop_zero]
theorem mod_next {i k n : Nat} (hi : i < n) : ((if i + 1 = n then 0 else i + 1) + k) % n = (i + (k + 1)) % n := by
  by_cases h : i + 1 = n
  · rw [if_pos h, Nat.zero_add, show i + (k + 1) = n + k by omega, Nat.add_mod_left]
  · rw [if_neg h, show i + 1 + k = i + (k + 1) by omega]
theorem mod_ne {i k n : Nat} (hi : i < n) (hk : 1 ≤ k) (hkn : k < n) : (i + k) % n ≠ i := by
  by_cases h : i + k < n
  · rw [Nat.mod_eq_of_lt h]; omega
  · rw [show i + k = n + (i + k - n) by omega, Nat.add_mod_left, Nat.mod_eq_of_lt (by omega)]; omega
theorem put_has {r : Ri} {W : List UInt8} (h : r.Has W) (c : UInt8) : (r.put c).Has (last r.size (W ++ [c])) := by
  obtain ⟨h1, h2, h3, h4, h5, h6, h7⟩ := h
  have hs := put_size r c
  have hsz : r.data.length = r.size := rfl
  have hle : r.len = r.e - r.b := rfl
  have hel : (r.put c).e = r.e + 1 := rfl
  have hbl : (r.put c).b = max r.b (r.e + 1 - r.size) := rfl
  have hln : (r.put c).len = (r.put c).e - (r.put c).b := rfl
  have hix : (r.put c).ix = if r.ix + 1 = r.size then 0 else r.ix + 1 := rfl
  have hdt : (r.put c).data = r.data.set r.ix c := rfl
  have hwl : (W ++ [c]).length = W.length + 1 := by simp
  by_cases hf : r.len < r.size
  · have hi := h6 hf
    have hb : r.base = 0 := if_pos hf
    have hb' : (r.put c).base = 0 := by
      unfold base
      split
      · rfl
      · rw [hix, if_pos (by omega)]
    rw [last_le (by omega)]
    refine ⟨by rw [hs]; exact h1, by omega, by omega, by omega, by rw [hix, hs]; split <;> omega, fun hf2 => by rw [hix, if_neg (by omega)]; omega, fun k hk => ?_⟩
    rw [hb', hs, Nat.zero_add, Nat.mod_eq_of_lt (by omega), hdt, List.getElem?_set]
    by_cases hk2 : r.ix = k
    · rw [if_pos hk2, if_pos (by omega), List.getElem?_append_right (by omega), show k - W.length = 0 by omega]; rfl
    · rw [if_neg hk2, List.getElem?_append_left (by omega), ← h7 k (by omega), hb, Nat.zero_add, Nat.mod_eq_of_lt (by omega)]
  · have hfl : r.len = r.size := by omega
    have hb : r.base = r.ix := if_neg hf
    have hb' : (r.put c).base = (r.put c).ix := if_neg (by omega)
    have hll : (last r.size (W ++ [c])).length = r.size := by rw [last_length]; omega
    refine ⟨by rw [hs]; exact h1, by omega, by omega, by omega, by rw [hix, hs]; split <;> omega, fun hf2 => by omega, fun k hk => ?_⟩
    rw [hll] at hk
    rw [hb', hs, hix, mod_next h5, hdt, last_get, hwl, show W.length + 1 - r.size + k = k + 1 by omega, List.getElem?_set]
    by_cases hk2 : k + 1 = r.size
    · rw [hk2, Nat.add_mod_right, Nat.mod_eq_of_lt h5, if_pos rfl, if_pos (by omega), List.getElem?_append_right (by omega), show r.size - W.length = 0 by omega]; rfl
    · rw [if_neg (Ne.symm (mod_ne h5 (by omega) (by omega))), List.getElem?_append_left (by omega), ← h7 (k + 1) (by omega), hb]
/-- Many bytes more. -/
def puts (r : Ri) (l : List UInt8) : Ri := l.foldl put r
theorem last_last (n : Nat) (a b : List UInt8) : last n (last n a ++ b) = last n (a ++ b) := by
  by_cases h : a.length ≤ n
  · rw [last_le h]
  · have hk : (last n a).length = n := by rw [last_length]; omega
    have h1 : last n (last n a ++ b) = (last n a ++ b).drop b.length := by
      show (last n a ++ b).drop ((last n a ++ b).length - n) = _
      rw [List.length_append, hk, Nat.add_sub_cancel_left]
    have h2 : last n (a ++ b) = ((a ++ b).drop (a.length - n)).drop b.length := by
      show (a ++ b).drop ((a ++ b).length - n) = _
      rw [List.length_append, List.drop_drop]
      congr 1
      omega
    rw [h1, h2]
    congr 1
    exact (List.drop_append_of_le_length (by omega)).symm
theorem puts_size (l : List UInt8) : ∀ r : Ri, (r.puts l).size = r.size := by
  induction l with
  | nil => exact fun r => rfl
  | cons c l ih => exact fun r => (ih (r.put c)).trans (put_size r c)
theorem puts_append (r : Ri) (a b : List UInt8) : r.puts (a ++ b) = (r.puts a).puts b := List.foldl_append
theorem puts_has (l : List UInt8) : ∀ {r : Ri} {W : List UInt8}, r.Has W → (r.puts l).Has (last r.size (W ++ l)) := by
  induction l with
  | nil =>
    intro r W h
    rw [List.append_nil, last_le (by have h1 := h.len; have h2 := h.fit; omega)]
    exact h
  | cons c l ih =>
    intro r W h
    have h1 := ih (put_has h c)
    rw [put_size, last_last, List.append_assoc] at h1
    exact h1
/-- What a chunk that goes in at one copy does. -/
theorem puts_chunk (l : List UInt8) : ∀ (r : Ri), l ≠ [] → r.ix + l.length ≤ r.size →
    r.puts l = ⟨r.data.take r.ix ++ l ++ r.data.drop (r.ix + l.length), max r.b (r.e + l.length - r.size), r.e + l.length, if r.ix + l.length = r.size then 0 else r.ix + l.length⟩ := by
  induction l with
  | nil => exact fun r h => absurd rfl h
  | cons c l ih =>
    intro r _ hf
    have hsz : r.data.length = r.size := rfl
    rw [List.length_cons] at hf
    have hset : r.data.set r.ix c = r.data.take r.ix ++ c :: r.data.drop (r.ix + 1) := List.set_eq_take_append_cons_drop.trans (if_pos (by omega))
    cases l with
    | nil =>
      show r.put c = _
      unfold put
      rw [hset]
      simp
    | cons d l =>
      have hix : (r.put c).ix = r.ix + 1 := if_neg (by rw [List.length_cons] at hf; omega)
      have h1 := ih (r.put c) (by simp) (by rw [hix, put_size]; omega)
      rw [put_size, hix] at h1
      have htk : (r.put c).data.take (r.ix + 1) = r.data.take r.ix ++ [c] := by
        show (r.data.set r.ix c).take (r.ix + 1) = _
        rw [hset, List.take_append, List.take_of_length_le (by rw [List.length_take]; omega), List.length_take, Nat.min_eq_left (by omega), Nat.add_sub_cancel_left]; rfl
      have hdr : (r.put c).data.drop (r.ix + 1 + (d :: l).length) = r.data.drop (r.ix + (c :: d :: l).length) := by
        show (r.data.set r.ix c).drop _ = _
        rw [List.drop_set_of_lt (by omega)]
        congr 1
        simp only [List.length_cons]; omega
      show (r.put c).puts (d :: l) = _
      rw [h1, htk, hdr]
      have hb : max (r.put c).b ((r.put c).e + (d :: l).length - r.size) = max r.b (r.e + (c :: d :: l).length - r.size) := by
        show max (max r.b (r.e + 1 - r.size)) (r.e + 1 + _ - r.size) = _
        simp only [List.length_cons]; omega
      have he : (r.put c).e + (d :: l).length = r.e + (c :: d :: l).length := by
        show r.e + 1 + _ = _
        simp only [List.length_cons]; omega
      rw [hb, he, show r.ix + 1 + (d :: l).length = r.ix + (c :: d :: l).length by simp only [List.length_cons]; omega]
      simp [List.append_assoc]
theorem puts_e (l : List UInt8) : ∀ r : Ri, (r.puts l).e = r.e + l.length := by
  induction l with
  | nil => exact fun r => rfl
  | cons c l ih =>
    intro r
    rw [List.length_cons]
    exact (ih (r.put c)).trans (by show r.e + 1 + l.length = _; omega)
theorem puts_b (l : List UInt8) : ∀ r : Ri, r.e - r.b ≤ r.size → (r.puts l).b = max r.b (r.e + l.length - r.size) := by
  induction l with
  | nil =>
    intro r h
    show r.b = max r.b (r.e + 0 - r.size)
    omega
  | cons c l ih =>
    intro r h
    have h1 := ih (r.put c) (by rw [put_size]; show r.e + 1 - max r.b (r.e + 1 - r.size) ≤ r.size; omega)
    rw [put_size] at h1
    refine h1.trans ?_
    show max (max r.b (r.e + 1 - r.size)) (r.e + 1 + l.length - r.size) = _
    rw [List.length_cons]
    omega
/-- Where the byte so far on lies. -/
def at' (r : Ri) (k : Nat) : Nat := (r.base + k) % r.size
theorem at_lt {r : Ri} {W : List UInt8} (h : r.Has W) (k : Nat) : r.at' k < r.size := Nat.mod_lt _ h.pos
theorem at_add (r : Ri) (k i : Nat) : r.at' (k + i) = (r.at' k + i) % r.size := by
  unfold at'
  rw [Nat.mod_add_mod, Nat.add_assoc]
theorem rest_one {r : Ri} {W : List UInt8} (h : r.Has W) {k : Nat} (hf : r.at' k + (W.length - k) ≤ r.size) :
    (r.data.drop (r.at' k)).take (W.length - k) = W.drop k := by
  apply List.ext_getElem?
  intro i
  rw [List.getElem?_take, List.getElem?_drop, List.getElem?_drop]
  split
  · have h1 := h.get (k + i) (by omega)
    rw [show (r.base + (k + i)) % r.size = r.at' k + i from (at_add r k i).trans (Nat.mod_eq_of_lt (by omega))] at h1
    exact h1
  · exact (List.getElem?_eq_none (by omega)).symm
theorem rest_two {r : Ri} {W : List UInt8} (h : r.Has W) {k : Nat} (hf : r.size < r.at' k + (W.length - k)) :
    r.data.drop (r.at' k) ++ r.data.take (r.at' k + (W.length - k) - r.size) = W.drop k := by
  have hsz : r.data.length = r.size := rfl
  have hl := at_lt h k
  have h1 := h.len
  have h2 := h.fit
  apply List.ext_getElem?
  intro i
  rw [List.getElem?_append, List.length_drop, hsz, List.getElem?_drop, List.getElem?_drop, List.getElem?_take]
  split
  · have h1 := h.get (k + i) (by omega)
    rw [show (r.base + (k + i)) % r.size = r.at' k + i from (at_add r k i).trans (Nat.mod_eq_of_lt (by omega))] at h1
    exact h1
  · split
    · have h1 := h.get (k + i) (by omega)
      rw [show (r.base + (k + i)) % r.size = i - (r.size - r.at' k) from (at_add r k i).trans (by rw [show r.at' k + i = r.size + (i - (r.size - r.at' k)) by omega, Nat.add_mod_left, Nat.mod_eq_of_lt (by omega)])] at h1
      exact h1
    · exact (List.getElem?_eq_none (by omega)).symm
/-- What getDataOff computes. -/
theorem at_calc {r : Ri} {W : List UInt8} (h : r.Has W) {k : Nat} (hk : k ≤ r.len) :
    r.at' k = if r.size ≤ r.base + k then r.base + k - r.size else r.base + k := by
  have h1 := h.fit
  have h2 := h.ix
  have hb : r.base < r.size := by unfold base; split <;> omega
  unfold at'
  split
  · rw [show r.base + k = r.size + (r.base + k - r.size) by omega, Nat.add_mod_left, Nat.mod_eq_of_lt (by omega)]; omega
  · exact Nat.mod_eq_of_lt (by omega)
/-- A byte written over one that is there. -/
def over (r : Ri) (k : Nat) (c : UInt8) : Ri := ⟨r.data.set (r.at' k) c, r.b, r.e, r.ix⟩
theorem over_size (r : Ri) (k : Nat) (c : UInt8) : (r.over k c).size = r.size := by simp [over, size]
theorem over_at (r : Ri) (k : Nat) (c : UInt8) (j : Nat) : (r.over k c).at' j = r.at' j := by
  have h1 := over_size r k c
  have h2 : (r.over k c).base = r.base := by
    unfold base
    rw [h1]
    rfl
  unfold at'
  rw [h1, h2]
theorem at_ne {r : Ri} {W : List UInt8} (h : r.Has W) {i j : Nat} (hi : i < W.length) (hj : j < W.length) (hij : i ≠ j) : r.at' i ≠ r.at' j := by
  have h1 := h.len
  have h2 := h.fit
  have h3 := at_calc h (k := i) (by omega)
  have h4 := at_calc h (k := j) (by omega)
  split at h3 <;> split at h4 <;> omega
theorem over_has {r : Ri} {W : List UInt8} (h : r.Has W) {k : Nat} (c : UInt8) (hk : k < W.length) : (r.over k c).Has (W.set k c) := by
  have hs := over_size r k c
  have hl := at_lt h k
  have hsz : r.data.length = r.size := rfl
  refine ⟨by rw [hs]; exact h.pos, h.le, by rw [List.length_set]; exact h.len, by rw [hs]; exact h.fit, by rw [hs]; exact h.ix, by rw [hs]; exact h.part, fun j hj => ?_⟩
  rw [List.length_set] at hj
  show (r.data.set (r.at' k) c)[(r.over k c).at' j]? = _
  rw [over_at, List.getElem?_set, List.getElem?_set]
  by_cases hjk : k = j
  · rw [hjk, if_pos rfl, if_pos rfl, if_pos (by rw [← hjk]; omega), if_pos hj]
  · rw [if_neg (at_ne h hk hj hjk), if_neg hjk]
    exact h.get j hj
/-- Many bytes written over those that are there. -/
def overs (r : Ri) (k : Nat) : List UInt8 → Ri
  | [] => r
  | c :: l => overs (r.over k c) (k + 1) l
theorem overs_size (l : List UInt8) : ∀ (r : Ri) (k : Nat), (r.overs k l).size = r.size := by
  induction l with
  | nil => exact fun r k => rfl
  | cons c l ih => exact fun r k => (ih (r.over k c) (k + 1)).trans (over_size r k c)
theorem overs_at (l : List UInt8) : ∀ (r : Ri) (k j : Nat), (r.overs k l).at' j = r.at' j := by
  induction l with
  | nil => exact fun r k j => rfl
  | cons c l ih => exact fun r k j => (ih (r.over k c) (k + 1) j).trans (over_at r k c j)
theorem overs_rest (l : List UInt8) : ∀ (r : Ri) (k : Nat), (r.overs k l).b = r.b ∧ (r.overs k l).e = r.e ∧ (r.overs k l).ix = r.ix := by
  induction l with
  | nil => exact fun r k => ⟨rfl, rfl, rfl⟩
  | cons c l ih => exact fun r k => ih (r.over k c) (k + 1)
theorem overs_append (a b : List UInt8) : ∀ (r : Ri) (k : Nat), r.overs k (a ++ b) = (r.overs k a).overs (k + a.length) b := by
  induction a with
  | nil => exact fun r k => rfl
  | cons c a ih =>
    intro r k
    show (r.over k c).overs (k + 1) (a ++ b) = _
    rw [ih, List.length_cons, show k + 1 + a.length = k + (a.length + 1) by omega]
    rfl
theorem overs_has (l : List UInt8) : ∀ {r : Ri} {W : List UInt8} {k : Nat}, r.Has W → k + l.length ≤ W.length →
    (r.overs k l).Has (W.take k ++ l ++ W.drop (k + l.length)) := by
  induction l with
  | nil =>
    intro r W k h hk
    show r.Has _
    rw [List.append_nil, List.length_nil, Nat.add_zero, List.take_append_drop]
    exact h
  | cons c l ih =>
    intro r W k h hk
    rw [List.length_cons] at hk
    have h1 := ih (over_has h c (k := k) (by omega)) (k := k + 1) (by rw [List.length_set]; omega)
    have hset : W.set k c = W.take k ++ c :: W.drop (k + 1) := List.set_eq_take_append_cons_drop.trans (if_pos (by omega))
    have htk : (W.set k c).take (k + 1) = W.take k ++ [c] := by
      rw [hset, List.take_append, List.take_of_length_le (by rw [List.length_take]; omega), List.length_take, Nat.min_eq_left (by omega), Nat.add_sub_cancel_left]; rfl
    have hdr : (W.set k c).drop (k + 1 + l.length) = W.drop (k + (c :: l).length) := by
      rw [List.drop_set_of_lt (by omega)]
      congr 1
      rw [List.length_cons]; omega
    rw [htk, hdr] at h1
    show ((r.over k c).overs (k + 1) l).Has _
    rw [show W.take k ++ c :: l = W.take k ++ [c] ++ l by simp]
    exact h1
/-- What one copy writes over. -/
theorem overs_chunk (l : List UInt8) : ∀ (r : Ri) (k : Nat), r.at' k + l.length ≤ r.size →
    r.overs k l = ⟨r.data.take (r.at' k) ++ l ++ r.data.drop (r.at' k + l.length), r.b, r.e, r.ix⟩ := by
  induction l with
  | nil =>
    intro r k h
    show r = _
    rw [List.append_nil, List.length_nil, Nat.add_zero, List.take_append_drop]
  | cons c l ih =>
    intro r k h
    have hsz : r.data.length = r.size := rfl
    rw [List.length_cons] at h
    show (r.over k c).overs (k + 1) l = _
    cases l with
    | nil =>
      show r.over k c = _
      unfold over
      rw [List.set_eq_take_append_cons_drop, if_pos (by rw [List.length_nil] at h; omega)]
      simp
    | cons d l =>
      have hat : r.at' (k + 1) = r.at' k + 1 := (at_add r k 1).trans (Nat.mod_eq_of_lt (by rw [List.length_cons] at h; omega))
      have h1 := ih (r.over k c) (k + 1) (by rw [over_at, over_size, hat]; omega)
      rw [over_at, hat] at h1
      have hset : r.data.set (r.at' k) c = r.data.take (r.at' k) ++ c :: r.data.drop (r.at' k + 1) := List.set_eq_take_append_cons_drop.trans (if_pos (by omega))
      have htk : (r.over k c).data.take (r.at' k + 1) = r.data.take (r.at' k) ++ [c] := by
        show (r.data.set (r.at' k) c).take (r.at' k + 1) = _
        rw [hset, List.take_append, List.take_of_length_le (by rw [List.length_take]; omega), List.length_take, Nat.min_eq_left (by omega), Nat.add_sub_cancel_left]; rfl
      have hdr : (r.over k c).data.drop (r.at' k + 1 + (d :: l).length) = r.data.drop (r.at' k + (c :: d :: l).length) := by
        show (r.data.set (r.at' k) c).drop _ = _
        rw [List.drop_set_of_lt (by omega)]
        congr 1
        simp only [List.length_cons]; omega
      rw [h1, htk, hdr]
      show Ri.mk _ r.b r.e r.ix = _
      simp [List.append_assoc]
/-- To go on without a word is to write what lies there. -/
theorem skips {r : Ri} (hx : r.ix < r.size) (hf : r.e - r.b ≤ r.size) : ∀ n, ∃ U : List UInt8, U.length = n ∧ (∀ i, i < n → U[i]? = r.data[(r.ix + i) % r.size]?) ∧
    r.puts U = ⟨r.data, max r.b (r.e + n - r.size), r.e + n, (r.ix + n) % r.size⟩ := by
  have hsz : r.data.length = r.size := rfl
  intro n
  induction n with
  | zero =>
    refine ⟨[], rfl, fun i hi => absurd hi (Nat.not_lt_zero i), ?_⟩
    show r = _
    rw [Nat.add_zero, Nat.add_zero, Nat.mod_eq_of_lt hx, Nat.max_eq_left (by omega)]
  | succ n ih =>
    obtain ⟨U, hU, hq, hp⟩ := ih
    have hm : (r.ix + n) % r.size < r.data.length := Nat.mod_lt _ (by omega)
    refine ⟨U ++ [r.data[(r.ix + n) % r.size]], by rw [List.length_append, hU]; rfl, fun i hi => ?_, ?_⟩
    · by_cases hin : i < n
      · rw [List.getElem?_append_left (by omega)]; exact hq i hin
      · rw [List.getElem?_append_right (by omega), hU, show i - n = 0 by omega, show i = n by omega, List.getElem?_eq_getElem hm]; rfl
    rw [puts_append, hp]
    show Ri.mk (r.data.set _ _) (max (max r.b (r.e + n - r.size)) (r.e + n + 1 - r.data.length)) (r.e + n + 1) (if (r.ix + n) % r.size + 1 = r.data.length then 0 else (r.ix + n) % r.size + 1) = _
    rw [List.set_getElem_self, hsz, show max (max r.b (r.e + n - r.size)) (r.e + n + 1 - r.size) = max r.b (r.e + (n + 1) - r.size) by omega]
    have h1 := mod_next (k := 0) (i := (r.ix + n) % r.size) (n := r.size) (by omega)
    rw [Nat.add_zero, Nat.mod_eq_of_lt (by split <;> omega), Nat.mod_add_mod] at h1
    rw [h1]
    rfl
/-- A smaller ring. -/
theorem shrunk {r : Ri} {W : List UInt8} (h : r.Has W) {n : Nat} (h1 : 1 ≤ n) (hn : n ≤ r.len) {D : List UInt8}
    (hD : D = (r.data.drop (r.at' (r.len - n)) ++ r.data.take (r.at' (r.len - n))).take n) :
    (Ri.mk D (r.e - n) r.e 0).Has (last n W) := by
  have hsz : r.data.length = r.size := rfl
  have hl := h.len
  have hf := h.fit
  have ha := at_lt h (r.len - n)
  have hle : r.len = r.e - r.b := rfl
  have hW : W.drop (W.length - n) = D := by
    rw [hD, hl]
    by_cases hc : r.at' (r.len - n) + (W.length - (r.len - n)) ≤ r.size
    · rw [← rest_one h hc, hl, show r.len - (r.len - n) = n by omega, List.take_append_of_le_length (by rw [List.length_drop]; omega)]
    · have e1 : (r.data.drop (r.at' (r.len - n))).take n = r.data.drop (r.at' (r.len - n)) := List.take_of_length_le (by rw [List.length_drop]; omega)
      have e2 : min (n - (r.data.drop (r.at' (r.len - n))).length) (r.at' (r.len - n)) = r.at' (r.len - n) + n - r.size := by rw [List.length_drop]; omega
      rw [← rest_two h (Nat.lt_of_not_le hc), hl, show r.len - (r.len - n) = n by omega, List.take_append (l₁ := r.data.drop (r.at' (r.len - n))), e1, List.take_take, e2]
  have hDl : D.length = n := by rw [← hW, List.length_drop]; omega
  have hs : (Ri.mk D (r.e - n) r.e 0).size = n := hDl
  have hll : (Ri.mk D (r.e - n) r.e 0).len = n := by show r.e - (r.e - n) = n; omega
  have hb : (Ri.mk D (r.e - n) r.e 0).base = 0 := by unfold base; split <;> rfl
  refine ⟨by rw [hs]; exact h1, Nat.sub_le _ _, by rw [last_length, hll]; omega, by rw [hs, hll]; exact Nat.le_refl _, by rw [hs]; exact h1, fun hc => absurd hc (by rw [hs, hll]; exact Nat.lt_irrefl _), fun k hk => ?_⟩
  rw [last_length] at hk
  rw [hb, hs, Nat.zero_add, Nat.mod_eq_of_lt (by omega)]
  show D[k]? = (W.drop (W.length - n))[k]?
  rw [hW]
/-- A ring in which nothing is. -/
theorem empty_has {r : Ri} (h1 : 1 ≤ r.size) (h2 : r.b = r.e) (h3 : r.ix = 0) : r.Has [] :=
  ⟨h1, Nat.le_of_eq h2, by simp [len, h2], by simp [len, h2], by omega, fun _ => by simp [len, h2, h3], fun k hk => by simp at hk⟩
/-- What lies below or above a piece that was written is as it was. -/
theorem splice_low {l m : List UInt8} {i s n : Nat} (h : s + n ≤ i) (hi : i ≤ l.length) :
    ((l.take i ++ m ++ l.drop (i + m.length)).drop s).take n = (l.drop s).take n := by
  apply List.ext_getElem?
  intro j
  rw [List.getElem?_take, List.getElem?_take]
  split
  · rw [List.getElem?_drop, List.getElem?_drop, List.append_assoc, List.getElem?_append_left (by rw [List.length_take]; omega), List.getElem?_take, if_pos (by omega)]
  · rfl
theorem splice_high {l m : List UInt8} {i s : Nat} (h : i + m.length ≤ s) (hi : i ≤ l.length) :
    (l.take i ++ m ++ l.drop (i + m.length)).drop s = l.drop s := by
  apply List.ext_getElem?
  intro j
  have hl : (l.take i ++ m).length = i + m.length := by rw [List.length_append, List.length_take]; omega
  rw [List.getElem?_drop, List.getElem?_drop, List.getElem?_append_right (by omega), hl, List.getElem?_drop]
  congr 1
  omega
/-- To move what lies at the index is to go on without a word. -/
theorem moved_same {r : Ri} {W : List UInt8} (h : r.Has W) {k n : Nat} (hk : k + n ≤ W.length) (ha : r.at' k = r.ix) :
    r.puts ((W.drop k).take n) = ⟨r.data, max r.b (r.e + n - r.size), r.e + n, (r.ix + n) % r.size⟩ := by
  obtain ⟨U, hU, hq, hp⟩ := skips (r := r) h.ix h.fit n
  have : (W.drop k).take n = U := by
    apply List.ext_getElem?
    intro i
    rw [List.getElem?_take, List.getElem?_drop]
    split
    · rename_i hi
      rw [hq i hi, ← ha, ← at_add]
      exact (h.get (k + i) (by omega)).symm
    · exact (List.getElem?_eq_none (by omega)).symm
  rw [this, hp]
/-- What is moved lies in one piece, or in two. -/
theorem piece_one {r : Ri} {W : List UInt8} (h : r.Has W) {k n : Nat} (hk : k + n ≤ W.length) (hf : r.at' k + n ≤ r.size) :
    (W.drop k).take n = (r.data.drop (r.at' k)).take n := by
  apply List.ext_getElem?
  intro i
  rw [List.getElem?_take, List.getElem?_take, List.getElem?_drop, List.getElem?_drop]
  split
  · have h1 := h.get (k + i) (by omega)
    rw [show (r.base + (k + i)) % r.size = r.at' k + i from (at_add r k i).trans (Nat.mod_eq_of_lt (by omega))] at h1
    exact h1.symm
  · rfl
theorem piece_two {r : Ri} {W : List UInt8} (h : r.Has W) {k n : Nat} (hk : k + n ≤ W.length) (hf : r.size < r.at' k + n) :
    (W.drop k).take n = r.data.drop (r.at' k) ++ r.data.take (r.at' k + n - r.size) := by
  have hsz : r.data.length = r.size := rfl
  have hl := at_lt h k
  have h1 := h.len
  have h2 := h.fit
  apply List.ext_getElem?
  intro i
  rw [List.getElem?_append, List.length_drop, hsz, List.getElem?_take, List.getElem?_drop, List.getElem?_drop, List.getElem?_take]
  by_cases hi : i < n
  · rw [if_pos hi, ← h.get (k + i) (by omega)]
    by_cases hs : i < r.size - r.at' k
    · rw [if_pos hs, show (r.base + (k + i)) % r.size = r.at' k + i from (at_add r k i).trans (Nat.mod_eq_of_lt (by omega))]
    · rw [if_neg hs, if_pos (by omega), show (r.base + (k + i)) % r.size = i - (r.size - r.at' k) from (at_add r k i).trans (by rw [show r.at' k + i = r.size + (i - (r.size - r.at' k)) by omega, Nat.add_mod_left, Nat.mod_eq_of_lt (by omega)])]
  · rw [if_neg hi, if_neg (by omega), if_neg (by omega)]
end Ri
end Go.Vil
end
section
set_option linter.unusedVariables false
namespace Go.Vil
theorem splice_app {α : Type} (l sl : List α) (i : Nat) (xs : List α) (h : i + xs.length ≤ l.length) : splice (l ++ sl) i xs = splice l i xs ++ sl := by
  unfold splice
  rw [List.take_append_of_le_length (by omega), List.drop_append_of_le_length h]
  simp [List.append_assoc]
namespace Ri
theorem puts_ix (l : List UInt8) : ∀ {r : Ri}, r.ix < r.size → (r.puts l).ix < r.size := by
  induction l with
  | nil => exact fun h => h
  | cons c l ih =>
    intro r h
    have h1 : (r.put c).ix < (r.put c).size := by
      rw [put_size]
      show (if r.ix + 1 = r.size then 0 else r.ix + 1) < r.size
      split <;> omega
    have h2 := ih h1
    rw [put_size] at h2
    exact h2
/-- What one copy of a Write does. -/
theorem puts_step (r : Ri) (p : List UInt8) (j n : Nat) (hn : 1 ≤ n) (hj : j + n ≤ p.length) (hf : (r.puts (p.take j)).ix + n ≤ r.size) :
    (r.puts (p.take (j + n))).data = splice (r.puts (p.take j)).data (r.puts (p.take j)).ix ((p.drop j).take n) ∧ (r.puts (p.take (j + n))).e = (r.puts (p.take j)).e + n ∧
    (r.puts (p.take (j + n))).ix = if (r.puts (p.take j)).ix + n = r.size then 0 else (r.puts (p.take j)).ix + n := by
  have e1 : p.take (j + n) = p.take j ++ (p.drop j).take n := List.take_add
  have hl : ((p.drop j).take n).length = n := by rw [List.length_take, List.length_drop]; omega
  rw [e1, puts_append, puts_chunk _ (r.puts (p.take j)) (by intro e; rw [e] at hl; simp at hl; omega) (by rw [hl, puts_size]; exact hf), hl, puts_size]
  refine ⟨?_, rfl, rfl⟩
  show _ = splice _ _ _
  unfold splice
  rw [hl]
theorem puts_nil (r : Ri) : r.puts [] = r := rfl
/-- What goes in at one copy. -/
theorem puts_one (r : Ri) (l : List UInt8) (hf : r.ix + l.length < r.size) (hb : r.e - r.b ≤ r.size) :
    r.puts l = ⟨splice r.data r.ix l, max r.b (r.e + l.length - r.size), r.e + l.length, r.ix + l.length⟩ := by
  by_cases h : l = []
  · subst h
    rw [splice_nil]
    show r = _
    rw [List.length_nil, Nat.add_zero, Nat.add_zero, Nat.max_eq_left (by omega)]
  · rw [puts_chunk l r h (by omega), if_neg (by omega)]
    rfl
/-- What goes in at two. -/
theorem puts_two (r : Ri) (l : List UInt8) (hl : l.length ≤ r.size) (hx : r.ix < r.size) (hf : r.size ≤ r.ix + l.length) :
    r.puts l = ⟨splice (splice r.data r.ix (l.take (r.size - r.ix))) 0 (l.drop (r.size - r.ix)), max r.b (r.e + l.length - r.size), r.e + l.length, r.ix + l.length - r.size⟩ := by
  have h1 : (l.take (r.size - r.ix)).length = r.size - r.ix := by rw [List.length_take]; omega
  have e := puts_append r (l.take (r.size - r.ix)) (l.drop (r.size - r.ix))
  rw [List.take_append_drop] at e
  have hne : l.take (r.size - r.ix) ≠ [] := by intro h; rw [h] at h1; simp at h1; omega
  rw [e, puts_chunk _ r hne (by omega), h1, if_pos (by omega)]
  by_cases h2 : l.drop (r.size - r.ix) = []
  · have h3 : l.length = r.size - r.ix := by
      have := congrArg List.length h2
      rw [List.length_drop, List.length_nil] at this; omega
    rw [h2, splice_nil]
    show Ri.mk _ _ _ _ = _
    rw [h3, show r.ix + (r.size - r.ix) - r.size = 0 by omega]
    unfold splice
    rw [h1]
  · have h3 : (l.drop (r.size - r.ix)).length = r.ix + l.length - r.size := by rw [List.length_drop]; omega
    have hd : r.data.length = r.size := rfl
    have hsz : (Ri.mk (r.data.take r.ix ++ l.take (r.size - r.ix) ++ r.data.drop (r.ix + (r.size - r.ix))) (max r.b (r.e + (r.size - r.ix) - r.size)) (r.e + (r.size - r.ix)) 0).size = r.size := by
      show (r.data.take r.ix ++ l.take (r.size - r.ix) ++ r.data.drop (r.ix + (r.size - r.ix))).length = r.size
      rw [List.length_append, List.length_append, List.length_take, h1, List.length_drop]; omega
    rw [puts_chunk _ _ h2 (by rw [hsz, h3]; show 0 + _ ≤ _; omega), hsz, h3]
    show Ri.mk _ _ _ _ = _
    congr 1
    · unfold splice
      rw [h1, h3]
    · show max (max r.b (r.e + (r.size - r.ix) - r.size)) (r.e + (r.size - r.ix) + _ - r.size) = _; omega
    · show r.e + (r.size - r.ix) + _ = _; omega
    · show (if 0 + (r.ix + l.length - r.size) = r.size then 0 else 0 + (r.ix + l.length - r.size)) = _
      rw [if_neg (by omega)]; omega
theorem at_zero {r : Ri} {W : List UInt8} (h : r.Has W) : r.at' 0 = r.base := by
  have h2 := h.ix
  unfold at'
  rw [Nat.add_zero]
  exact Nat.mod_eq_of_lt (by unfold base; split <;> omega)
/-- Where what is moved lies, if not at the index. -/
theorem evac_low {r : Ri} {W : List UInt8} (h : r.Has W) {k n : Nat} (hk : k + n ≤ W.length) (ha : r.at' k < r.ix) : r.at' k + n ≤ r.ix := by
  have h1 := h.len
  have h2 := h.fit
  have h3 := at_calc h (k := k) (by omega)
  by_cases hf : r.len < r.size
  · have hb : r.base = 0 := if_pos hf
    have hp := h.part hf
    rw [hb] at h3
    split at h3 <;> omega
  · have hb : r.base = r.ix := if_neg hf
    rw [hb] at h3
    split at h3 <;> omega
theorem evac_high {r : Ri} {W : List UInt8} (h : r.Has W) {k n : Nat} (hk : k + n ≤ W.length) (ha : r.ix < r.at' k) : r.len = r.size ∧ r.at' k = r.ix + k ∧ r.ix + k < r.size ∧ r.at' k + n ≤ r.size + r.ix := by
  have h1 := h.len
  have h2 := h.fit
  have h3 := at_calc h (k := k) (by omega)
  have h4 := h.ix
  by_cases hf : r.len < r.size
  · have hb : r.base = 0 := if_pos hf
    have hp := h.part hf
    rw [hb] at h3
    split at h3 <;> omega
  · have hb : r.base = r.ix := if_neg hf
    rw [hb] at h3
    split at h3 <;> omega
/-- What the reads of a piece in a ring give, the room behind it in mind. -/
theorem piece_in {r : Ri} {W : List UInt8} (h : r.Has W) (sl : List UInt8) {k n : Nat} (hk : k + n ≤ W.length) (hf : r.at' k + n ≤ r.size) :
    ((r.data ++ sl).drop (r.at' k)).take n = (W.drop k).take n := by
  rw [piece_one h hk hf, List.drop_append_of_le_length (by have : r.data.length = r.size := rfl; omega), List.take_append_of_le_length (by rw [List.length_drop]; have : r.data.length = r.size := rfl; omega)]
/-- WriteAt in one piece, and in two. -/
theorem overs_one (r : Ri) (k : Nat) (l : List UInt8) (hf : r.at' k + l.length ≤ r.size) : r.overs k l = ⟨splice r.data (r.at' k) l, r.b, r.e, r.ix⟩ := overs_chunk l r k hf
theorem overs_two {r : Ri} {W : List UInt8} (h : r.Has W) (k : Nat) (l : List UInt8) (hl : k + l.length ≤ W.length) (hf : r.size ≤ r.at' k + l.length) :
    r.overs k l = ⟨splice (splice r.data (r.at' k) (l.take (r.size - r.at' k))) 0 (l.drop (r.size - r.at' k)), r.b, r.e, r.ix⟩ := by
  have ha := at_lt h k
  have hw := h.len
  have hfit := h.fit
  have h1 : (l.take (r.size - r.at' k)).length = r.size - r.at' k := by rw [List.length_take]; omega
  have e := overs_append (l.take (r.size - r.at' k)) (l.drop (r.size - r.at' k)) r k
  rw [List.take_append_drop, h1] at e
  rw [e, overs_chunk _ r k (by rw [h1]; omega), h1]
  have hd : r.data.length = r.size := rfl
  have hsz : (Ri.mk (r.data.take (r.at' k) ++ l.take (r.size - r.at' k) ++ r.data.drop (r.at' k + (r.size - r.at' k))) r.b r.e r.ix).size = r.size := by
    show (r.data.take (r.at' k) ++ l.take (r.size - r.at' k) ++ r.data.drop (r.at' k + (r.size - r.at' k))).length = r.size
    rw [List.length_append, List.length_append, List.length_take, h1, List.length_drop]; omega
  have hat : (Ri.mk (r.data.take (r.at' k) ++ l.take (r.size - r.at' k) ++ r.data.drop (r.at' k + (r.size - r.at' k))) r.b r.e r.ix).at' (k + (r.size - r.at' k)) = 0 := by
    have hbase : (Ri.mk (r.data.take (r.at' k) ++ l.take (r.size - r.at' k) ++ r.data.drop (r.at' k + (r.size - r.at' k))) r.b r.e r.ix).base = r.base := by
      unfold base
      rw [hsz]
      rfl
    have e2 := at_add r k (r.size - r.at' k)
    rw [show r.at' k + (r.size - r.at' k) = r.size by omega, Nat.mod_self] at e2
    show (Ri.base _ + _) % Ri.size _ = 0
    rw [hsz, hbase]
    exact e2
  rw [overs_chunk _ _ _ (by rw [hat, hsz, List.length_drop]; omega), hat]
  show Ri.mk _ _ _ _ = _
  congr 1
  unfold splice
  rw [h1]
/-- Evacuate of what lies below the index. -/
theorem evac_two_src {r : Ri} {W : List UInt8} (h : r.Has W) {k n : Nat} (hk : k + n ≤ W.length) (ha : r.at' k < r.ix) (sl : List UInt8) (hf : r.size ≤ r.ix + n) :
    ((splice (r.data ++ sl) r.ix (((W.drop k).take n).take (r.size - r.ix))).drop (r.at' k + (r.size - r.ix))).take (n - (r.size - r.ix)) = ((W.drop k).take n).drop (r.size - r.ix) := by
  have h1 := evac_low h hk ha
  have hd : r.data.length = r.size := rfl
  have hix := h.ix
  have := splice_low (l := r.data ++ sl) (m := ((W.drop k).take n).take (r.size - r.ix)) (i := r.ix) (s := r.at' k + (r.size - r.ix)) (n := n - (r.size - r.ix)) (by omega) (by rw [List.length_append]; omega)
  unfold splice
  rw [this, ← piece_in h sl hk (by omega), List.drop_take, List.drop_drop]
/-- Evacuate of what lies above it, and goes on at the beginning. -/
theorem evac_wrap {r : Ri} {W : List UInt8} (h : r.Has W) {k n : Nat} (hk : k + n ≤ W.length) (ha : r.ix < r.at' k) (hf : r.size < r.at' k + n) :
    r.data.drop (r.at' k) ++ r.data.take (r.at' k + n - r.size) = (W.drop k).take n := (piece_two h hk hf).symm
/-- To go on without a word. -/
def skip (r : Ri) (n : Nat) : Ri := ⟨r.data, max r.b (r.e + n - r.size), r.e + n, (r.ix + n) % r.size⟩
theorem skip_puts {r : Ri} {W : List UInt8} (h : r.Has W) (n : Nat) : ∃ U : List UInt8, U.length = n ∧ r.puts U = r.skip n := by
  obtain ⟨U, h1, _, h3⟩ := skips (r := r) h.ix h.fit n
  exact ⟨U, h1, h3⟩
theorem dump_has {r : Ri} {W : List UInt8} (h : r.Has W) : ∀ i, i < W.length → r.data[(r.base + i) % r.size]? = W[i]? := h.get
end Ri
end Go.Vil
end
section
namespace Go.Vil
open Go Go.RowKit
set_option linter.unusedSimpArgs false
set_option linter.unusedVariables false

theorem toList_loop (a : ByteArray) : ∀ (m i : Nat) (r : List UInt8), a.size - i = m → ByteArray.toList.loop a i r = r.reverse ++ a.data.toList.drop i := by
  intro m
  induction m with
  | zero =>
    intro i r h
    unfold ByteArray.toList.loop
    rw [if_neg (by omega), List.drop_eq_nil_of_le (by simp; omega)]; simp
  | succ m ih =>
    intro i r h
    have hi : i < a.size := by omega
    unfold ByteArray.toList.loop
    rw [if_pos hi, ih (i + 1) _ (by omega)]
    have hi' : i < a.data.toList.length := by simpa using hi
    rw [List.drop_eq_getElem_cons hi']
    have : a.get! i = a.data.toList[i] := by
      simp [ByteArray.get!, Array.getElem_toList]
      rw [getElem!_pos a.data i (by simpa using hi)]
    rw [this]; simp
theorem toList_data (a : ByteArray) : a.toList = a.data.toList := by
  have := toList_loop a _ 0 [] rfl
  simpa [ByteArray.toList] using this

/-- The closure that is deferred does nothing where nothing panics. -/
def Idle (P : Program) (G : FuncId) (cap : Array Value) : Prop := ∀ w, CallsD P G cap .returning w fun e u' w' => e = .returned (.tuple #[]) ∧ u' = .returning ∧ w' = w

theorem door_idle {P : Program} {fn : Func} {tmps : Array Value} {R : Ending → World → Prop} {G : FuncId} {cap : Array Value} {w : World} (hi : Idle P G cap) (hinv : (invoke (.fn (.func G) cap) #[]).run P w = .ok (.enter G cap) w) (v : Value) (hr : (results fn tmps).run P w = .ok v w) (hR : R (.returned v) w) :
    bodyPostD P fn R Exit.ret ⟨tmps, [{ target := .fn (.func G) cap, args := #[] }]⟩ w := by
  refine leaves_cons (by simp) hinv ?_
  refine (hi w).mono ?_
  rintro e u' w'' ⟨rfl, rfl, rfl⟩
  exact ⟨v, hr, hR⟩

theorem results_cells2 {P : Program} {fn : Func} {tmps : Array Value} {w : World} {i j : Nat} {t u : TypeId} [h1 : TOne P t] [h2 : TOne P u] {a b : Addr} {x y : Value} (h : fn.results = #[.cell i t, .cell j u]) (hi : tmps.toList[i]? = some (.pointer (some a))) (hj : tmps.toList[j]? = some (.pointer (some b)))
    (ha : w.cell? a = some x) (hb : w.cell? b = some y) : (results fn tmps).run P w = .ok (.tuple #[x, y]) w := by
  simp only [Array.getElem?_toList] at hi hj
  simp [results, h, hi, hj, asAddr, loadVar, h1.agg, h2.agg, ha, hb]
theorem St.cell {w0 : World} {bs : List Nat} {w : World} {L F : List Res} (S : St w0 bs w L) {b i : Nat} {c : List Value} {T : TypeId} {fr : Nat × Nat} {v : Value} (hp : Pull (.blk b (.cells c.toArray T fr)) L F := by repeat (first | exact Pull.head | apply Pull.tail)) (hi : c[i]? = some v := by rfl) : w.cell? ⟨b, i, none⟩ = some v :=
  (cell_at (S.blk hp)).trans (by simpa using hi)
/-- The door of a function that defers a closure, with two results that live in variables. -/
theorem door2 {P : Program} {fn : Func} {l : List Value} {R : Ending → World → Prop} {G : FuncId} {cap : Array Value} {w w0 : World} {bs : List Nat} {L F F' : List Res} (S : St w0 bs w L) (hi : Idle P G cap) {i j p q : Nat} {t u T U : TypeId} {x y : Value}
    (hR : R (.returned (.tuple #[x, y])) w) (hinv : (invoke (.fn (.func G) cap) #[]).run P w = .ok (.enter G cap) w := by simp [go_sem])
    (h : fn.results = #[.cell i t, .cell j u] := by rfl) (h1 : TOne P t := by infer_instance) (h2 : TOne P u := by infer_instance)
    (hti : l[i]? = some (.pointer (some ⟨p, 0, none⟩)) := by rfl) (htj : l[j]? = some (.pointer (some ⟨q, 0, none⟩)) := by rfl)
    (hp : Pull (.blk p (.cells [x].toArray T (0, 0))) L F := by repeat (first | exact Pull.head | apply Pull.tail)) (hq : Pull (.blk q (.cells [y].toArray U (0, 0))) L F' := by repeat (first | exact Pull.head | apply Pull.tail)) :
    bodyPostD P fn R Exit.ret ⟨l.toArray, [{ target := .fn (.func G) cap, args := #[] }]⟩ w :=
  door_idle hi hinv _ (results_cells2 h (by simpa using hti) (by simpa using htj) ((cell_at (S.blk hp)).trans rfl) ((cell_at (S.blk hq)).trans rfl)) hR
end Go.Vil
end
section
namespace Go.Vil
open Go Go.RowKit
set_option linter.unusedSimpArgs false
set_option linter.unusedVariables false

theorem run_loadVarA {P : Program} {w w0 : World} {bs : List Nat} {L F : List Res} (S : St w0 bs w L) {t : TypeId} {n : Nat} [h : TAgg P t n] {b : Nat} {c : List Value} {T : TypeId} {fr : Nat × Nat} (hp : Pull (.blk b (.cells c.toArray T fr)) L F) (hn : c.length = n) :
    (loadVar t ⟨b, 0, none⟩).run P w = .ok (.agg c.toArray) w := by
  have := run_loadCells_list (P := P) w ⟨b, 0, none⟩ c (fun j v hv => by
    rw [Addr.add_lit, cell_at (S.blk hp)]
    simpa using hv)
  rw [hn] at this
  simp [loadVar, h.agg, h.size, this]

theorem results_c {P : Program} {fn : Func} {l : List Value} {w w0 : World} {bs : List Nat} {L F : List Res} (S : St w0 bs w L) {i b : Nat} {t T : TypeId} {n : Nat} {c : List Value} (h : fn.results = #[.cell i t] := by rfl) (h1 : TAgg P t n := by infer_instance)
    (hi : l[i]? = some (.pointer (some ⟨b, 0, none⟩)) := by rfl) (hp : Pull (.blk b (.cells c.toArray T (0, 0))) L F := by repeat (first | exact Pull.head | apply Pull.tail)) (hn : c.length = n := by rfl) :
    (results fn l.toArray).run P w = .ok (.agg c.toArray) w := by
  have hl := run_loadVarA (P := P) (t := t) S hp hn
  simp [results, h, hi, asAddr, hl]
theorem results_cc {P : Program} {fn : Func} {l : List Value} {w w0 : World} {bs : List Nat} {L F F' : List Res} (S : St w0 bs w L) {i j b b' : Nat} {t T t' T' : TypeId} {n n' : Nat} {c c' : List Value} (h : fn.results = #[.cell i t, .cell j t'] := by rfl) (h1 : TAgg P t n := by infer_instance) (h2 : TAgg P t' n' := by infer_instance)
    (hi : l[i]? = some (.pointer (some ⟨b, 0, none⟩)) := by rfl) (hj : l[j]? = some (.pointer (some ⟨b', 0, none⟩)) := by rfl) (hp : Pull (.blk b (.cells c.toArray T (0, 0))) L F := by repeat (first | exact Pull.head | apply Pull.tail)) (hp' : Pull (.blk b' (.cells c'.toArray T' (0, 0))) L F' := by repeat (first | exact Pull.head | apply Pull.tail)) (hn : c.length = n := by rfl) (hn' : c'.length = n' := by rfl) :
    (results fn l.toArray).run P w = .ok (.tuple #[.agg c.toArray, .agg c'.toArray]) w := by
  have hl := run_loadVarA (P := P) (t := t) S hp hn
  have hl' := run_loadVarA (P := P) (t := t') S hp' hn'
  simp [results, h, hi, hj, asAddr, hl, hl']
theorem results_ttc {P : Program} {fn : Func} {l : List Value} {w w0 : World} {bs : List Nat} {L F : List Res} (S : St w0 bs w L) {i j k b : Nat} {t T : TypeId} {n : Nat} {c : List Value} {x y : Value} (h : fn.results = #[.tmp i, .tmp j, .cell k t] := by rfl) (h1 : TAgg P t n := by infer_instance)
    (hi : l[i]? = some x := by rfl) (hj : l[j]? = some y := by rfl) (hk : l[k]? = some (.pointer (some ⟨b, 0, none⟩)) := by rfl) (hp : Pull (.blk b (.cells c.toArray T (0, 0))) L F := by repeat (first | exact Pull.head | apply Pull.tail)) (hn : c.length = n := by rfl) :
    (results fn l.toArray).run P w = .ok (.tuple #[x, y, .agg c.toArray]) w := by
  have hl := run_loadVarA (P := P) (t := t) S hp hn
  simp [results, h, hi, hj, hk, asAddr, hl]
theorem results_ct {P : Program} {fn : Func} {l : List Value} {w w0 : World} {bs : List Nat} {L F : List Res} (S : St w0 bs w L) {i k b : Nat} {t T : TypeId} {n : Nat} {c : List Value} {x : Value} (h : fn.results = #[.cell k t, .tmp i] := by rfl) (h1 : TAgg P t n := by infer_instance)
    (hi : l[i]? = some x := by rfl) (hk : l[k]? = some (.pointer (some ⟨b, 0, none⟩)) := by rfl) (hp : Pull (.blk b (.cells c.toArray T (0, 0))) L F := by repeat (first | exact Pull.head | apply Pull.tail)) (hn : c.length = n := by rfl) :
    (results fn l.toArray).run P w = .ok (.tuple #[.agg c.toArray, x]) w := by
  have hl := run_loadVarA (P := P) (t := t) S hp hn
  simp [results, h, hi, hk, asAddr, hl]
theorem results_tttt {P : Program} {fn : Func} {l : List Value} {w : World} {i j k m : Nat} {x y z u : Value} (h : fn.results = #[.tmp i, .tmp j, .tmp k, .tmp m] := by rfl)
    (hi : l[i]? = some x := by rfl) (hj : l[j]? = some y := by rfl) (hk : l[k]? = some z := by rfl) (hm : l[m]? = some u := by rfl) :
    (results fn l.toArray).run P w = .ok (.tuple #[x, y, z, u]) w := by
  simp [results, h, hi, hj, hk, hm]
/-- The end of a function whose results are reckoned like this. -/
theorem ret_of {P : Program} {fn : Func} {l : List Value} {w : World} {R : Ending → World → Prop} {v : Value} (hr : (results fn l.toArray).run P w = .ok v w) (h : R (.returned v) w) : bodyPost P fn R Exit.ret ⟨l.toArray, []⟩ w :=
  bodyPost_ret hr rfl h
/-- The door of a function that defers a closure that recovers, where nothing panics. -/
theorem door_of {P : Program} {fn : Func} {l : List Value} {w : World} {R : Ending → World → Prop} {v : Value} {G : FuncId} {cap : Array Value} (hr : (results fn l.toArray).run P w = .ok v w) (hi : Idle P G cap) (h : R (.returned v) w)
    (hinv : (invoke (.fn (.func G) cap) #[]).run P w = .ok (.enter G cap) w := by simp [go_sem]) : bodyPostD P fn R Exit.ret ⟨l.toArray, [{ target := .fn (.func G) cap, args := #[] }]⟩ w :=
  door_idle hi hinv v hr h
section
variable {P : Program} {ops : Array Oper} {Q : Exit → Act → World → Prop} {rest : List Oper} {o : Oper} {a : Act} {w w' : World}
/-- append(nil, y...), of bytes. -/
theorem wpList_appN {w0 : World} {bs : List Nat} {L : List Res} (S : St w0 bs w L) {sv : Value} {m : Nat} {news : List UInt8} (hs : Src w 1 sv m (u8s news)) {a' : Value → Act} {x y : Operand} {t tx e : TypeId} {z : Value} {bytes : Nat}
    (k : ∀ v' w', (v' = .slice none 0 0 ↔ m = 0) → St w0 bs w' (.row e 1 v' m (u8s news) :: L) → wpList P ops Q rest (a' v') w')
    (hw : Region.wanted o (yielded ops a.tmps) = true := by rfl) (ho : o.op = .call { callee := .builtin .append, args := #[x, y], argTypes := #[t, tx] } := by rfl)
    (ht : TSlice P t e := by infer_instance) (htx : TRow P tx := by infer_instance) (he : TElem P e z 1 bytes := by infer_instance)
    (hx : slot a x = some (.slice none 0 0) := by rfl) (hy : slot a y = some sv := by rfl)
    (h63 : m ≤ maxLen := by (unfold maxLen; first | omega | (simp; omega))) (hb : m * bytes ≤ 140737488355328 := by first | omega | (simp; omega))
    (hput : ∀ v', Put a o.dst v' (a' v') := by (intro _; exact put_of (by conv => lhs; simp only [List.set_cons_succ, List.set_cons_zero]))) : wpList P ops Q (o :: rest) a w :=
  wpList_app (n := 0) (xs := []) (S.nilRow e 1) hs (fun v' w' h S' => k v' w' (by simpa using h) (by rwa [Nat.zero_add, List.nil_append] at S')) hw ho ht htx he hx hy .head (by decide) (by rwa [Nat.zero_add]) (by rwa [Nat.zero_add]) hput
end
end Go.Vil
end
section
namespace Go.Vil
open Go.RowKit
section
variable {P : Program} {ops : Array Oper} {Q : Exit → Act → World → Prop} {rest : List Oper} {o : Oper} {a : Act} {w w' : World}
/-- copy into a part of a block: as many bytes as both have. -/
theorem wpList_copyM {w0 : World} {bs : List Nat} {L L' : List Res} (S : St w0 bs w L) {sv : Value} {src : List UInt8} {n : Nat} (hs : Src w 1 sv n (u8s src)) (k0 : Nat) {x y : Operand} {t tx e : TypeId} {z : Value} {bytes : Nat} {b i dLen dCap : Nat} {l : List UInt8} {T : TypeId} {a' : Act}
    (k : ∀ w', St w0 bs w' L' → wpList P ops Q rest a' w')
    (hw : Region.wanted o (yielded ops a.tmps) = true := by rfl) (ho : o.op = .call { callee := .builtin .copy, args := #[x, y], argTypes := #[t, tx] } := by rfl)
    (ht : TSlice P t e := by infer_instance) (he : TElem P e z 1 bytes := by infer_instance)
    (hx : slot a x = some (.slice (some ⟨b, i, none⟩) dLen dCap) := by rfl) (hy : slot a y = some sv := by rfl)
    (hA : At (.blk b (.cells (u8s l).toArray T (0, 0))) (.blk b (.cells (u8s (splice l i (src.take k0))).toArray T (0, 0))) L L' := by repeat (first | exact At.head | apply At.tail))
    (hfit : i + dLen ≤ l.length := by (first | omega | (simp; done) | (simp; omega))) (hn : min n dLen = k0 := by omega)
    (hput : Put a o.dst (.int .i64 (k0 : Nat)) a' := by exact put_of (by conv => lhs; simp only [List.set_cons_succ, List.set_cons_zero])) : wpList P ops Q (o :: rest) a w := by
  have hln : src.length = n := hs.len8
  have hm : Nat.min src.length dLen = k0 := by show min src.length dLen = k0; omega
  exact wpList_copy8 S hs k hw ho ht he hx hy (by rw [hm]; exact hA) hfit (by rw [hm]; exact hput)
/-- A load of a cell that was there ahead of all and does not lie in what turns. -/
theorem wpList_ldE {w0 : World} {bs : List Nat} {L : List Res} (S : St w0 bs w L) {a' : Act} {ty : TypeId} {x : Operand} {ad : Addr} {v : Value}
    (hc : w0.cell? ad = some v) (hn : ad.block ∉ bs)
    (k : wpList P ops Q rest a' w)
    (hw : Region.wanted o (yielded ops a.tmps) = true := by rfl) (ho : o.op = .load ty x := by rfl) (hT0 : TOne P ty := by infer_instance) (ha : a.eval x = .pointer (some ad) := by rfl)
    (hput : Put a o.dst v a' := by exact put_of (by conv => lhs; simp only [List.set_cons_succ, List.set_cons_zero])) : wpList P ops Q (o :: rest) a w :=
  wpList_run hw (run_ld ty x ho ha (S.chg.cell hc hn)) (hput.is ▸ k)
theorem quiet_ldE {w0 wc : World} {bs : List Nat} {L : List Res} (S : St w0 bs wc L) {K : Act → Prop} {a' : Act} {ty : TypeId} {x : Operand} {ad : Addr} {v : Value}
    (hc : w0.cell? ad = some v) (hn : ad.block ∉ bs)
    (k : K a')
    (ho : o.op = .load ty x := by rfl) (hT0 : TOne P ty := by infer_instance) (ha : a.eval x = .pointer (some ad) := by rfl)
    (hput : Put a o.dst v a' := by exact put_of (by conv => lhs; simp only [List.set_cons_succ, List.set_cons_zero])) : o.quiet P a (fun w' => ∃ p : StW wc w0 bs L, w' = p.w) K :=
  quiet_run (fun _ hS => run_ld ty x ho ha ((S.of hS).chg.cell hc hn)) (hput.is ▸ k)
end
theorem retT2 {k : IntKind} {a b : Int} {v : Value} (h : a = b) : Ending.returned (.tuple #[.int k a, v]) = .returned (.tuple #[.int k b, v]) := by rw [h]
theorem take_minl {α : Type} {l : List α} {p n : Nat} (h : l.length = n) : l.take (min p n) = l.take p := by
  subst h
  exact (List.take_eq_take_min).symm
theorem cutN_low {i o c : Nat} (h : o < c) : cutN i o c = i + o := if_neg (by omega)
end Go.Vil
namespace Go.Proofs.YtbklhnpnkinadaaDoor
open Go Go.RowKit Go.Vil
set_option linter.unusedSimpArgs false
set_option linter.unusedVariables false
set_option maxRecDepth 100000

/-- A ring buffer as it lies in memory, perhaps with other cells behind it; its bytes, with room behind them. -/
abbrev rHead (q m : Nat) (T : TypeId) (b e : Int) (n c : Nat) (ix : Int) (post : List Value) : Res :=
  .blk q (.cells (.int .i64 b :: .int .i64 e :: .slice (some ⟨m, 0, none⟩) n c :: .int .i64 ix :: post).toArray T (0, 0))
abbrev rBlk (m : Nat) (l sl : List UInt8) : Res := .blk m (.cells (u8s (l ++ sl)).toArray 5 (0, 0))
abbrev rMem (q m : Nat) (T : TypeId) (r : Ri) (sl : List UInt8) (post : List Value) : List Res := [rHead q m T r.b r.e r.data.length (r.data ++ sl).length r.ix post, rBlk m r.data sl]
theorem _root_.Go.Vil.St.head {w w' : World} {bs : List Nat} {L : List Res} {q m n c : Nat} {T : TypeId} {b e ix b' e' ix' : Int} {post : List Value} (S : St w bs w' (rHead q m T b e n c ix post :: L)) (hb : b = b') (he : e = e') (hi : ix = ix') : St w bs w' (rHead q m T b' e' n c ix' post :: L) := by
  subst hb he hi
  exact S
/-- A ring within bounds. -/
structure Snug (r : Ri) (W : List UInt8) (c : Nat) : Prop where
  has : r.Has W
  e : r.e ≤ 1152921504606846976
  size : r.data.length ≤ 1073741824
  cap : r.data.length ≤ c

theorem _root_.Go.Vil.Src.bare {w : World} {n c : Nat} {oa : Option Addr} {xs : List UInt8} (h : Src w 1 (.slice oa n c) n (u8s xs)) (hn : 0 < n) : ∃ ad, oa = some ad := by
  cases oa with
  | some ad => exact ⟨ad, rfl⟩
  | none =>
    have h1 := (h.2.2 : n = n ∧ u8s xs = []).2
    have h2 := h.len8
    simp [u8s] at h1; subst h1; simp at h2; omega
set_option maxHeartbeats 800000 in
theorem ringOff (q m : Nat) (T : TypeId) (r : Ri) (W : List UInt8) (c k : Nat) (post : List Value) (z : Int) (w : World) (hz : z = r.b + k)
    (hM : Mem w [rHead q m T r.b r.e r.data.length c r.ix post]) (h : Snug r W c) (hk : k ≤ W.length) :
    Calls Tryd.prog 74 #[.pointer (some ⟨q, 0, none⟩), .int .i64 z] w fun e w' => e = .returned (.int .i64 (r.at' k : Nat)) ∧ St w [q] w' [rHead q m T r.b r.e r.data.length c r.ix post] := by
  subst hz
  have S : St w [q] w _ := St.start hM
  clear hM
  obtain ⟨hh, h2, h3, h4⟩ := h
  have h5 := hh.le
  have h6 := hh.len
  have h7 := hh.fit
  have h8 := hh.ix
  have hsz : r.size = r.data.length := rfl
  have hle : r.len = r.e - r.b := rfl
  have hat := Ri.at_calc hh (k := k) (by omega)
  rw [hsz] at h7 h8 hat
  have hk2 : k ≤ r.e - r.b := by omega
  refine Calls.cps ?_; intro R hR
  go_enter Tryd.func74, Tryd.ntmps74
  by_cases hf : r.len < r.data.length
  · have hb : r.base = 0 := if_pos hf
    rw [hb, if_neg (by omega), Nat.zero_add] at hat
    replace hat := hidden hat
    clear hb h6
    go_wp2_with (first | ((with_reducible show Code.wp _ (Code.region _ _ true) _ _ _); refine St.regionLast S ?_; (repeat (first | (go_big_quiet_step (fail)) | (go_big_quiet_want; (refine quiet_ld S ?_); go_big_quiet_on))); refine wpQuiet_nil ?_; clear S; intro wq S) | (refine wpList_ld S ?_))
    ((first | go_ret | go_ret2 | go_ret3 | go_end0 | skip); refine hR.out _ _ ?_)
    refine ⟨retI (by rw [hat.out]; omega), S⟩
  · have hb : r.base = r.ix := if_neg hf
    rw [hb] at hat
    clear hb h6
    by_cases hg : r.data.length ≤ r.ix + k
    · rw [if_pos hg] at hat
      replace hat := hidden hat
      go_wp2_with (first | ((with_reducible show Code.wp _ (Code.region _ _ true) _ _ _); refine St.regionLast S ?_; (repeat (first | (go_big_quiet_step (fail)) | (go_big_quiet_want; (refine quiet_ld S ?_); go_big_quiet_on))); refine wpQuiet_nil ?_; clear S; intro wq S) | (refine wpList_ld S ?_))
      ((first | go_ret | go_ret2 | go_ret3 | go_end0 | skip); refine hR.out _ _ ?_)
      refine ⟨retI (by rw [hat.out]; omega), S⟩
    · rw [if_neg hg] at hat
      replace hat := hidden hat
      go_wp2_with (first | ((with_reducible show Code.wp _ (Code.region _ _ true) _ _ _); refine St.regionLast S ?_; (repeat (first | (go_big_quiet_step (fail)) | (go_big_quiet_want; (refine quiet_ld S ?_); go_big_quiet_on))); refine wpQuiet_nil ?_; clear S; intro wq S) | (refine wpList_ld S ?_))
      ((first | go_ret | go_ret2 | go_ret3 | go_end0 | skip); refine hR.out _ _ ?_)
      refine ⟨retI (by rw [hat.out]; omega), S⟩
/-- What lies in a block of bytes, as a source. -/
theorem _root_.Go.Vil.St.srcIn {w0 w : World} {bs : List Nat} {L F : List Res} (S : St w0 bs w L) {b o n c : Nat} {l xs : List UInt8} {T : TypeId} {fr : Nat × Nat} (hp : Pull (.blk b (.cells (u8s l).toArray T fr)) L F) (hl : o + n ≤ l.length) (hx : (l.drop o).take n = xs) :
    Src w 1 (.slice (some ⟨b, o, none⟩) n c) n (u8s xs) := by
  have := S.src8 (b := b) (o := o) (m := n) (c := c) (l := l) hp hl
  rwa [hx] at this
theorem low_src {l sl x : List UInt8} {i s n : Nat} (h : s + n ≤ i) (hi : i + x.length ≤ l.length) : ((splice l i x ++ sl).drop s).take n = (l.drop s).take n := by
  have hl : (splice l i x).length = l.length := splice_length _ _ _ hi
  rw [List.drop_append_of_le_length (by omega), List.take_append_of_le_length (by rw [List.length_drop]; omega)]
  exact Ri.splice_low h (by omega)

/-- A package-level variable that holds an error, apart from what turns. -/
def GErr (w : World) (bs : List Nat) (g : Nat) (v : Value) : Prop := w.cell? ⟨g, 0, none⟩ = some v ∧ g ∉ bs

set_option maxHeartbeats 1600000 in
theorem ringRead (q m pb : Nat) (T TB : TypeId) (r : Ri) (W sl l : List UInt8) (k i0 pn pc : Nat) (post : List Value) (z : Int) (ev : Value) (w : World) (hz : z = r.b + k)
    (hM : Mem w [rHead q m T r.b r.e r.data.length (r.data ++ sl).length r.ix post, rBlk m r.data sl, .blk pb (.cells (u8s l).toArray TB (0, 0))]) (h : Snug r W (r.data ++ sl).length) (hk : k ≤ W.length)
    (hp : i0 + pn ≤ l.length) (hpc : pn ≤ pc) (hpl : pn ≤ 1073741824) (hE : W.length - k < pn → GErr w [q, m, pb] 1 ev) :
    Calls Tryd.prog 49 #[.pointer (some ⟨q, 0, none⟩), .slice (some ⟨pb, i0, none⟩) pn pc, .int .i64 z] w fun e w' =>
      e = .returned (.tuple #[.int .i64 (min pn (W.length - k) : Nat), if W.length - k < pn then ev else .nilIface]) ∧ St w [q, m, pb] w' [rHead q m T r.b r.e r.data.length (r.data ++ sl).length r.ix post, rBlk m r.data sl, .blk pb (.cells (u8s (splice l i0 ((W.drop k).take pn))).toArray TB (0, 0))] := by
  subst hz
  have S : St w [q, m, pb] w _ := St.start hM
  clear hM
  have hs := hidden h
  obtain ⟨hh, h2, h3, h4⟩ := h
  have h5 := hh.le
  have h6 := hh.len
  have h7 := hh.fit
  have hat := Ri.at_lt hh k
  have hsz : r.size = r.data.length := rfl
  have hle : r.len = r.e - r.b := rfl
  have hwk : W.length - k = r.e - (r.b + k) := by omega
  have hk2 : r.b + k ≤ r.e := by omega
  have hb1 : decide ((r.e : Int) < (r.b : Int) + (k : Int)) = false := decide_eq_false (by omega)
  rw [hsz] at h7 hat
  have hcl : (r.data ++ sl).length = r.data.length + sl.length := List.length_append
  generalize hC : (r.data ++ sl).length = C at *
  have hone := @Ri.rest_one r W hh k
  have htwo := @Ri.rest_two r W hh k
  rw [hsz] at hone htwo
  replace hone := hidden hone
  replace htwo := hidden htwo
  replace hE := hidden hE
  replace hh := hidden hh
  replace hk := hidden hk
  clear hle hsz
  refine Calls.cps ?_; intro R hR
  go_enter Tryd.func49, Tryd.ntmps49
  go_wp2_with ((refine wpList_ld S ?_))
  refine Calls.mono (ringOff q m T r W C k post _ _ rfl S.sel1 hs.out hk.out) ?_
  rintro e w2 ⟨rfl, C1⟩
  have S2 := S.call C1; clear S C1; simp only [List.cons_append, List.nil_append] at S2; have S := S2; clear S2
  generalize r.at' k = at0 at *
  go_upto_if 42 with ((refine wpList_ld S ?_))
  go_cut [6] (fun n w' => n = .int .i64 (min pn (W.length - k) : Nat) ∧ St w [q, m, pb] w' [rHead q m T r.b r.e r.data.length C r.ix post, rBlk m r.data sl, .blk pb (.cells (u8s (splice l i0 ((W.drop k).take pn))).toArray TB (0, 0))])
  case first =>
    by_cases c1 : at0 + (W.length - k) ≤ r.data.length
    · obtain ⟨re, hre⟩ : ∃ re, re = at0 + (W.length - k) := ⟨_, rfl⟩
      have hsrc : Src w2 1 (.slice (some ⟨m, at0, none⟩) (re - at0) (C - at0)) (re - at0) (u8s (W.drop k)) := by
        have := S.src8 (b := m) (o := at0) (m := re - at0) (c := C - at0) (l := r.data ++ sl) (by repeat (first | exact Pull.head | apply Pull.tail)) (by omega)
        rwa [List.drop_append_of_le_length (by omega), List.take_append_of_le_length (by rw [List.length_drop]; omega), show re - at0 = W.length - k by omega, hone.out c1, show W.length - k = re - at0 by omega] at this
      replace hsrc := hidden hsrc
      go_wp2_with (first | (refine wpList_slcBH at0 re ?_; rw [cutN_low (by omega), Nat.zero_add]) | (refine wpList_copyM S hsrc.out (min pn (re - at0)) ?_; (clear S; intro ws S)) | (refine wpList_ld S ?_))
      go_meet
      refine ⟨by rw [show re - at0 = W.length - k by omega], ?_⟩
      rw [show min pn (re - at0) = min pn (W.length - k) by omega] at S
      rw [take_minl List.length_drop] at S
      exact S
    · obtain ⟨re, hre⟩ : ∃ re, re = at0 + (W.length - k) := ⟨_, rfl⟩
      have htw := htwo.out (by omega)
      have hsrc : Src w2 1 (.slice (some ⟨m, at0, none⟩) (r.data.length - at0) (C - at0)) (r.data.length - at0) (u8s (r.data.drop at0)) := by
        have := S.src8 (b := m) (o := at0) (m := r.data.length - at0) (c := C - at0) (l := r.data ++ sl) (by repeat (first | exact Pull.head | apply Pull.tail)) (by omega)
        rwa [List.drop_append_of_le_length (by omega), List.take_append_of_le_length (Nat.le_of_eq List.length_drop.symm), List.take_of_length_le (Nat.le_of_eq List.length_drop)] at this
      replace hsrc := hidden hsrc
      by_cases c2 : pn ≤ r.data.length - at0
      · go_wp2_with (first | (refine wpList_slcB at0 ?_; rw [cutN_low (by omega), Nat.zero_add]) | (refine wpList_copyM S hsrc.out pn ?_; (clear S; intro ws S)) | (refine wpList_ld S ?_))
        go_meet
        refine ⟨by rw [show min pn (W.length - k) = pn by omega], ?_⟩
        rw [← htw, List.take_append_of_le_length (by rw [List.length_drop]; omega)]
        exact S
      · go_upto_region 9 with (first | (refine wpList_slcB at0 ?_; rw [cutN_low (by omega), Nat.zero_add]) | (refine wpList_copyM S hsrc.out (r.data.length - at0) ?_; (clear S; intro ws S)) | (refine wpList_ld S ?_))
        rw [List.take_of_length_le (by rw [List.length_drop]; omega)] at S
        have hyl : (splice l i0 (r.data.drop at0)).length = l.length := splice_length _ _ _ (by rw [List.length_drop]; omega)
        refine St.regionC S [rHead q m T r.b r.e r.data.length C r.ix post, rBlk m r.data sl] 19 [([0, 1, 2, 3, 4, 5, 6, 7, 8, 9, 10, 11, 12, 13, 14, 15], 16)] [17, 18] ?_
        clear S; intro wr Cr S Sc; simp only [walkC, pick, List.getElem?_cons_succ, List.getElem?_cons_zero, List.drop_succ_cons, List.drop_zero]
        (repeat (first | (go_big_quiet_want; (first | (refine quiet_slcB (r.data.length - at0) ?_; rw [cutN_low (by omega)]) | refine quiet_slcH (re - r.data.length) ?_); go_big_quiet_on) | (first | (go_big_quiet_step (fail)) | (go_big_quiet_want; (refine quiet_ld Sc ?_); go_big_quiet_on))))
        refine wpQuiet_nil ?_
        have hsrc2 : Src wr 1 (.slice (some ⟨m, 0, none⟩) (re - r.data.length) C) (re - r.data.length) (u8s (r.data.take (re - r.data.length))) := by
          have := S.src8 (b := m) (o := 0) (m := re - r.data.length) (c := C) (l := r.data ++ sl) (by repeat (first | exact Pull.head | apply Pull.tail)) (by omega)
          rwa [List.drop_zero, List.take_append_of_le_length (by omega)] at this
        refine wpList_copyM S hsrc2 (min (re - r.data.length) (pn - (r.data.length - at0))) ?_
        clear S; intro ws2 S
        refine ⟨(S.sel (by repeat (first | exact Sel.nil | (apply Sel.cons; (repeat (first | exact Pull.head | apply Pull.tail)))))).inSt _, ?_⟩; (repeat ((go_big_quiet_step (fail)))); refine wpQuiet_nil ?_
        go_wp2_with (fail)
        go_meet
        have hk1 : (r.data.drop at0).length = r.data.length - at0 := List.length_drop
        have e3 : splice (splice l i0 (r.data.drop at0)) (i0 + (r.data.length - at0)) ((r.data.take (re - r.data.length)).take (min (re - r.data.length) (pn - (r.data.length - at0)))) = splice l i0 ((W.drop k).take pn) := by
          have hk2 : ((r.data.take (re - r.data.length)).take (min (re - r.data.length) (pn - (r.data.length - at0)))).length = min (re - r.data.length) (pn - (r.data.length - at0)) := by
            rw [List.length_take, List.length_take]; omega
          have := splice_splice l i0 (r.data.drop at0) ((r.data.take (re - r.data.length)).take (min (re - r.data.length) (pn - (r.data.length - at0)))) (by rw [hk1, hk2]; omega)
          rw [hk1] at this
          have e4 : (r.data.take (re - r.data.length)).take (min (re - r.data.length) (pn - (r.data.length - at0))) = (r.data.take (re - r.data.length)).take (pn - (r.data.length - at0)) := by
            rw [Nat.min_comm]; exact take_minl (by rw [List.length_take]; omega)
          have e5 : (r.data.drop at0).take pn = r.data.drop at0 := List.take_of_length_le (by rw [hk1]; omega)
          rw [this, ← htw, List.take_append, hk1, e4, e5, hre]
        rw [e3] at S
        refine ⟨?_, S⟩
        rw [show min pn (W.length - k) = r.data.length - at0 + min (re - r.data.length) (pn - (r.data.length - at0)) by omega]
        go_num
  case rest =>
    obtain ⟨rfl, S⟩ := hcut
    by_cases c1 : W.length - k < pn
    · have hEE := hE.out c1
      replace hE := hidden hEE
      have hbb : decide (((min pn (W.length - k) : Nat) : Int) < pn) = true := decide_eq_true (by omega)
      go_wp2_with ((refine wpList_ldE S hE.out.1 hE.out.2 ?_))
      ((first | go_ret | go_ret2 | go_ret3 | go_end0 | skip); refine hR.out _ _ ?_)
      exact ⟨by rw [if_pos c1]; rfl, S⟩
    · have hbb : decide (((min pn (W.length - k) : Nat) : Int) < pn) = false := decide_eq_false (by omega)
      go_wp2_with (fail)
      ((first | go_ret | go_ret2 | go_ret3 | go_end0 | skip); refine hR.out _ _ ?_)
      exact ⟨by rw [if_neg c1]; rfl, S⟩
end Go.Proofs.YtbklhnpnkinadaaDoor
end
section
namespace Go.Proofs.YtbklhnpnkinadaaDoor
open Go Go.RowKit Go.Vil Go.ChangeShapes Go.WideShapes Go.ChangeAt
set_option linter.unusedSimpArgs false
set_option linter.unusedVariables false
set_option maxRecDepth 100000

/-- What a segment holds behind its ring. -/
structure Hd where
  miss : Int
  hit : Int
  ec : Int
  tc : Int
  tt : Int
  timer : Value
  tev : Int
  tex : Int
  ov : Int
  tou : Int
  vac : Int
  lens : List Nat
  cap : Nat
  sb : Nat
namespace Hd
def cell (n : Nat) : Value := .int .i32 n
def tail (h : Hd) : List Value := h.lens.map cell ++ [.int .i32 h.cap, .slice (some ⟨h.sb, 0, none⟩) (256 * h.cap) (256 * h.cap)]
abbrev post (h : Hd) : List Value := .int .i64 0 :: .int .u32 0 :: .int .i64 h.miss :: .int .i64 h.hit :: .int .i64 h.ec :: .int .i64 h.tc :: .int .i64 h.tt :: h.timer :: .int .i64 h.tev :: .int .i64 h.tex :: .int .i64 h.ov :: .int .i64 h.tou :: .int .i64 h.vac :: h.tail
theorem tail_len {h : Hd} {s n : Nat} (hl : h.lens[s]? = some n) : h.tail[s]? = some (.int .i32 n) := by
  have hs := (List.getElem?_eq_some_iff.1 hl).1
  unfold tail
  rw [List.getElem?_append_left (by simpa using hs), List.getElem?_map, hl]; rfl
theorem tail_cap {h : Hd} (hl : h.lens.length = 256) : h.tail[256]? = some (.int .i32 h.cap) := by
  unfold tail
  rw [List.getElem?_append_right (by simp [hl])]; simp [hl]
theorem tail_sb {h : Hd} (hl : h.lens.length = 256) : h.tail[257]? = some (.slice (some ⟨h.sb, 0, none⟩) (256 * h.cap) (256 * h.cap)) := by
  unfold tail
  rw [List.getElem?_append_right (by simp [hl])]; simp [hl]
abbrev cells (h : Hd) (m : Nat) (b e : Int) (N C : Nat) (ix : Int) : List Value := .int .i64 b :: .int .i64 e :: .slice (some ⟨m, 0, none⟩) N C :: .int .i64 ix :: h.post
theorem at_len {h : Hd} {m : Nat} {b e : Int} {N C : Nat} {ix : Int} {s n : Nat} (hl : h.lens[s]? = some n) : (h.cells m b e N C ix)[17 + s]? = some (.int .i32 n) := by
  rw [Nat.add_comm]
  exact tail_len hl
theorem at_cap {h : Hd} {m : Nat} {b e : Int} {N C : Nat} {ix : Int} (hl : h.lens.length = 256) : (h.cells m b e N C ix)[273]? = some (.int .i32 h.cap) := tail_cap hl
theorem at_sb {h : Hd} {m : Nat} {b e : Int} {N C : Nat} {ix : Int} (hl : h.lens.length = 256) : (h.cells m b e N C ix)[274]? = some (.slice (some ⟨h.sb, 0, none⟩) (256 * h.cap) (256 * h.cap)) := tail_sb hl
end Hd

set_option maxHeartbeats 800000 in
theorem getSlot (q m : Nat) (T : TypeId) (b e : Int) (N C : Nat) (ix : Int) (h : Hd) (s n : Nat) (w : World) (hM : Mem w [rHead q m T b e N C ix h.post]) (hl : h.lens.length = 256) (hs : h.lens[s]? = some n) (hn : n ≤ h.cap) (hc : h.cap ≤ 65536) (hc1 : 1 ≤ h.cap) :
    Calls Tryd.prog 86 #[.pointer (some ⟨q, 0, none⟩), .int .u8 s] w fun e' w' => e' = .returned (.slice (some ⟨h.sb, s * h.cap * 4, none⟩) n h.cap) ∧ St w [q] w' [rHead q m T b e N C ix h.post] := by
  have S : St w [q] w _ := St.start hM
  clear hM
  have q1 := Hd.at_len (m := m) (b := b) (e := e) (N := N) (C := C) (ix := ix) hs
  have q2 := Hd.at_cap (m := m) (b := b) (e := e) (N := N) (C := C) (ix := ix) hl
  have q3 := Hd.at_sb (m := m) (b := b) (e := e) (N := N) (C := C) (ix := ix) hl
  have hs256 : s < 256 := by have := (List.getElem?_eq_some_iff.1 hs).1; omega
  refine Calls.cps ?_; intro R hR
  go_enter Tryd.func86, Tryd.ntmps86
  have hmul : s * h.cap ≤ 255 * 65536 := Nat.mul_le_mul (by omega) hc
  go_upto_region 2 with ((refine wpList_ld S ?_ (hi := q2)))
  obtain ⟨o, ho⟩ : ∃ o, s * h.cap = o := ⟨_, rfl⟩
  have hmu2 : s * h.cap ≤ 255 * h.cap := Nat.mul_le_mul (by omega) (Nat.le_refl _)
  have hoi : (s : Int) * (h.cap : Int) = (o : Int) := by rw [← ho]; simp
  rw [hoi]
  rw [ho] at hmul hmu2 hR
  have hoi := hidden hoi
  refine St.regionG S 21 [] [0, 1, 2, 3, 4, 5, 6, 7, 8, 9, 10, 11, 12, 13, 14, 15, 16, 17, 18, 19, 20] ?_
  clear S; intro wr S; simp only [walkSt, pick, List.getElem?_cons_succ, List.getElem?_cons_zero, List.drop_succ_cons, List.drop_zero]
  (repeat (first | (go_big_quiet_want; (first | (refine quiet_ld S ?_ (hi := q1)) | (refine quiet_ld S ?_ (hi := q2)) | (refine quiet_ld S ?_ (hi := q3)) | (refine quiet_slcLHM o (o + n) (o + h.cap) ?_)); go_big_quiet_on) | ((go_big_quiet_step (fail)))))
  refine wpQuiet_nil ?_
  go_wp2_with (fail)
  ((first | go_ret | go_ret2 | go_ret3 | go_end0 | skip); refine hR.out _ _ ?_)
  refine ⟨?_, S⟩
  show Ending.returned (.slice (some (cutAt ⟨h.sb, 0, none⟩ o (o + h.cap) 4)) (o + n - o) (o + h.cap - o)) = _
  unfold cutAt
  rw [if_neg (by omega), Addr.add_lit, Nat.zero_add, Nat.add_sub_cancel_left, Nat.add_sub_cancel_left]
end Go.Proofs.YtbklhnpnkinadaaDoor
end
section
namespace Go.Proofs.YtbklhnpnkinadaaDoor
open Go Go.RowKit Go.Vil Go.ChangeShapes Go.WideShapes Go.ChangeAt
set_option linter.unusedSimpArgs false
set_option linter.unusedVariables false

structure Slots (h : Hd) (cs : List Value) (L : List (List Pt)) : Prop where
  n : L.length = 256
  lens : h.lens = L.map List.length
  len : cs.length = 256 * h.cap * 4
  fit : ∀ ps ∈ L, ps.length ≤ h.cap
  pos : 1 ≤ h.cap
  cap : h.cap ≤ 65536
  at' : ∀ (s : Nat) (ps : List Pt), L[s]? = some ps → Pts cs (s * h.cap * 4) ps
  rise : ∀ ps ∈ L, RiseP ps
  one : ∀ u ∈ cs, u.oneCell' = true
namespace Slots
variable {h : Hd} {cs : List Value} {L : List (List Pt)}
theorem lens_len (k : Slots h cs L) : h.lens.length = 256 := by rw [k.lens, List.length_map, k.n]
theorem lens_at (k : Slots h cs L) {s : Nat} {ps : List Pt} (hs : L[s]? = some ps) : h.lens[s]? = some ps.length := by rw [k.lens, List.getElem?_map, hs]; rfl
theorem lt (k : Slots h cs L) {s : Nat} {ps : List Pt} (hs : L[s]? = some ps) : s < 256 := by have := (List.getElem?_eq_some_iff.1 hs).1; have := k.n; omega
theorem room (k : Slots h cs L) {s : Nat} {ps : List Pt} (hs : L[s]? = some ps) : s * h.cap * 4 + h.cap * 4 ≤ cs.length := by
  have h1 := k.lt hs
  have h2 := k.len
  have h3 : (s + 1) * h.cap ≤ 256 * h.cap := Nat.mul_le_mul_right _ (by omega)
  rw [Nat.succ_mul] at h3
  omega
theorem has (k : Slots h cs L) {s : Nat} (hs : s < 256) : ∃ ps, L[s]? = some ps := ⟨_, List.getElem?_eq_getElem (by rw [k.n]; exact hs)⟩
/-- One slot is changed. -/
theorem chunk (k : Slots h cs L) {h' : Hd} {cs' : List Value} {s : Nat} {ps ps' : List Pt} (hs : L[s]? = some ps) (hl : h'.lens = h.lens.set s ps'.length) (hc : h'.cap = h.cap) (hn : cs'.length = cs.length)
    (h1 : ∀ u ∈ cs', u.oneCell' = true) (hf : ps'.length ≤ h.cap) (hp : Pts cs' (s * h.cap * 4) ps') (hr : RiseP ps')
    (ho : ∀ i, i < s * h.cap * 4 ∨ s * h.cap * 4 + h.cap * 4 ≤ i → cs'[i]? = cs[i]?) : Slots h' cs' (L.set s ps') := by
  refine ⟨by rw [List.length_set, k.n], by rw [hl, k.lens, List.map_set], by rw [hn, hc, k.len], ?_, by rw [hc]; exact k.pos, by rw [hc]; exact k.cap, ?_, ?_, h1⟩
  · intro x hx
    rw [hc]
    rcases List.mem_or_eq_of_mem_set hx with h | rfl
    · exact k.fit x h
    · exact hf
  · intro t x hx
    rw [hc]
    rw [List.getElem?_set] at hx
    by_cases e : s = t
    · subst e
      rw [if_pos rfl] at hx
      split at hx
      · cases hx; exact hp
      · cases hx
    · rw [if_neg e] at hx
      have hb := k.fit x (List.mem_of_getElem? hx)
      intro j p hj
      have hj2 := (List.getElem?_eq_some_iff.1 hj).1
      obtain ⟨q0, q1, q2, v, q3⟩ := k.at' t x hx j p hj
      have hd : ∀ i, i < 4 → cs'[t * h.cap * 4 + j * 4 + i]? = cs[t * h.cap * 4 + j * 4 + i]? := by
        intro i hi
        refine ho _ ?_
        rcases Nat.lt_or_gt_of_ne e with c | c
        · right
          have h3 : (s + 1) * h.cap ≤ t * h.cap := Nat.mul_le_mul_right _ (by omega)
          rw [Nat.succ_mul] at h3
          omega
        · left
          have h3 : (t + 1) * h.cap ≤ s * h.cap := Nat.mul_le_mul_right _ (by omega)
          rw [Nat.succ_mul] at h3
          omega
      refine ⟨?_, ?_, ?_, v, ?_⟩
      · have := hd 0 (by omega); rw [Nat.add_zero] at this; rw [this]; exact q0
      · rw [hd 1 (by omega)]; exact q1
      · rw [hd 2 (by omega)]; exact q2
      · rw [hd 3 (by omega)]; exact q3
  · intro x hx
    rcases List.mem_or_eq_of_mem_set hx with h | rfl
    · exact k.rise x h
    · exact hr
end Slots

theorem rise_erase {ps : List Pt} (h : RiseP ps) (i : Nat) : RiseP (ps.eraseIdx i) := by
  intro a b x y hab hx hy
  rw [List.getElem?_eraseIdx] at hx hy
  split at hx <;> split at hy
  · exact h a b x y hab hx hy
  · exact h a (b + 1) x y (by omega) hx hy
  · omega
  · exact h (a + 1) (b + 1) x y (by omega) hx hy
theorem splice_one {cs xs : List Value} {i : Nat} (h : ∀ u ∈ cs, u.oneCell' = true) (hx : ∀ u ∈ xs, u.oneCell' = true) : ∀ u ∈ splice cs i xs, u.oneCell' = true := by
  intro u hu
  unfold splice at hu
  rcases List.mem_append.1 hu with h2 | h2
  · rcases List.mem_append.1 h2 with h3 | h3
    · exact h u (List.mem_of_mem_take h3)
    · exact hx u h3
  · exact h u (List.mem_of_mem_drop h2)
theorem Pts.erase {cs : List Value} {o : Nat} {ps : List Pt} (h : Pts cs o ps) {i : Nat} (hi : i < ps.length) (hl : o + ps.length * 4 ≤ cs.length) :
    Pts (splice cs (o + i * 4) ((cs.drop (o + (i + 1) * 4)).take ((ps.length - (i + 1)) * 4))) o (ps.eraseIdx i) := by
  have e0 : ((cs.drop (o + (i + 1) * 4)).take ((ps.length - (i + 1)) * 4)).length = (ps.length - (i + 1)) * 4 := by simp; omega
  have key : ∀ j t, t < 4 → j < ps.length - 1 → (splice cs (o + i * 4) ((cs.drop (o + (i + 1) * 4)).take ((ps.length - (i + 1)) * 4)))[o + j * 4 + t]? = cs[o + (if j < i then j else j + 1) * 4 + t]? := by
    intro j t ht hj
    rw [splice_get? _ _ _ (by rw [e0]; omega), e0]
    by_cases hji : j < i
    · rw [if_pos (by omega), if_pos hji]
    · rw [if_neg (by omega), if_pos (by omega), if_neg hji, List.getElem?_take, if_pos (by omega), List.getElem?_drop]
      congr 1; omega
  intro j p hj
  have hj2 := (List.getElem?_eq_some_iff.1 hj).1
  rw [List.length_eraseIdx_of_lt hi] at hj2
  rw [List.getElem?_eraseIdx] at hj
  have hq : ps[if j < i then j else j + 1]? = some p := by
    by_cases c : j < i
    · rw [if_pos c] at hj ⊢; exact hj
    · rw [if_neg c] at hj ⊢; exact hj
  obtain ⟨q0, q1, q2, v, q3⟩ := h _ _ hq
  exact ⟨by rw [← Nat.add_zero (o + j * 4), key j 0 (by omega) hj2]; exact q0, by rw [key j 1 (by omega) hj2]; exact q1, by rw [key j 2 (by omega) hj2]; exact q2, v, by rw [key j 3 (by omega) hj2]; exact q3⟩
/-- A pointer is taken out of a slot. -/
theorem Slots.erase {h h' : Hd} {cs : List Value} {L : List (List Pt)} (k : Slots h cs L) {s i : Nat} {ps : List Pt} (hs : L[s]? = some ps) (hi : i < ps.length)
    (hl : h'.lens = h.lens.set s (ps.length - 1)) (hc : h'.cap = h.cap) {cs' : List Value} (he : cs' = splice cs (s * h.cap * 4 + i * 4) ((cs.drop (s * h.cap * 4 + (i + 1) * 4)).take ((ps.length - (i + 1)) * 4))) : Slots h' cs' (L.set s (ps.eraseIdx i)) := by
  have hr := k.room hs
  have hf := k.fit ps (List.mem_of_getElem? hs)
  have e0 : ((cs.drop (s * h.cap * 4 + (i + 1) * 4)).take ((ps.length - (i + 1)) * 4)).length = (ps.length - (i + 1)) * 4 := by simp; omega
  subst he
  refine k.chunk hs (by rw [hl, List.length_eraseIdx_of_lt hi]) hc (splice_length _ _ _ (by rw [e0]; omega)) (splice_one k.one fun u hu => k.one u (List.mem_of_mem_drop (List.mem_of_mem_take hu))) (by rw [List.length_eraseIdx_of_lt hi]; omega)
    ((k.at' s ps hs).erase hi (by omega)) (rise_erase (k.rise ps (List.mem_of_getElem? hs)) i) ?_
  intro t ht
  rw [splice_get? _ _ _ (by rw [e0]; omega), e0]
  rcases ht with h1 | h1
  · rw [if_pos (by omega)]
  · rw [if_neg (by omega), if_neg (by omega)]

theorem rise_insert {ps : List Pt} (h : RiseP ps) (i : Nat) (p : Pt) (hi : i ≤ ps.length) (h1 : ∀ (j : Nat) (x : Pt), j < i → ps[j]? = some x → x.hash ≤ p.hash) (h2 : ∀ (j : Nat) (x : Pt), i ≤ j → ps[j]? = some x → p.hash ≤ x.hash) : RiseP (ps.insertIdx i p) := by
  intro a b x y hab hx hy
  rw [List.getElem?_insertIdx] at hx hy
  by_cases ha : a < i
  · rw [if_pos ha] at hx
    by_cases hb : b < i
    · rw [if_pos hb] at hy; exact h a b x y hab hx hy
    · rw [if_neg hb] at hy
      by_cases hb2 : b = i
      · subst hb2; rw [if_pos rfl, if_pos hi] at hy; cases hy; exact h1 a x ha hx
      · rw [if_neg hb2] at hy; exact h a (b - 1) x y (by omega) hx hy
  · rw [if_neg ha] at hx
    rw [if_neg (show ¬ b < i by omega)] at hy
    by_cases ha2 : a = i
    · subst ha2; rw [if_pos rfl, if_pos hi] at hx; cases hx
      by_cases hb2 : b = a
      · subst hb2; rw [if_pos rfl, if_pos hi] at hy; cases hy; exact Nat.le_refl _
      · rw [if_neg hb2] at hy; exact h2 (b - 1) y (by omega) hy
    · rw [if_neg ha2] at hx
      rw [if_neg (show b ≠ i by omega)] at hy
      exact h (a - 1) (b - 1) x y (by omega) hx hy
/-- The cells of a slot behind an insertion. -/
def insCells (cs : List Value) (o i n : Nat) (p : Pt) : List Value :=
  (((splice cs (o + (i + 1) * 4) ((cs.drop (o + i * 4)).take ((n - i) * 4))).set (o + i * 4) (.int .i64 p.off)).set (o + i * 4 + 1) (.int .u16 p.hash)).set (o + i * 4 + 2) (.int .u16 p.klen)
theorem insCells_get {cs : List Value} {o i n : Nat} (p : Pt) (hi : i ≤ n) (hl : o + (n + 1) * 4 ≤ cs.length) (t : Nat) :
    (insCells cs o i n p)[t]? = if t = o + i * 4 + 2 then some (.int .u16 p.klen) else if t = o + i * 4 + 1 then some (.int .u16 p.hash) else if t = o + i * 4 then some (.int .i64 p.off) else if t < o + (i + 1) * 4 then cs[t]? else if t < o + (n + 1) * 4 then cs[t - 4]? else cs[t]? := by
  have e0 : ((cs.drop (o + i * 4)).take ((n - i) * 4)).length = (n - i) * 4 := by simp; omega
  have e1 : (splice cs (o + (i + 1) * 4) ((cs.drop (o + i * 4)).take ((n - i) * 4))).length = cs.length := splice_length _ _ _ (by rw [e0]; omega)
  unfold insCells
  rw [List.getElem?_set, List.length_set, List.length_set, e1]
  by_cases h2 : o + i * 4 + 2 = t
  · rw [if_pos h2, if_pos (by omega), if_pos h2.symm]
  rw [if_neg h2, if_neg (fun e => h2 e.symm), List.getElem?_set, List.length_set, e1]
  by_cases h3 : o + i * 4 + 1 = t
  · rw [if_pos h3, if_pos (by omega), if_pos h3.symm]
  rw [if_neg h3, if_neg (fun e => h3 e.symm), List.getElem?_set, e1]
  by_cases h4 : o + i * 4 = t
  · rw [if_pos h4, if_pos (by omega), if_pos h4.symm]
  rw [if_neg h4, if_neg (fun e => h4 e.symm), splice_get? _ _ _ (by rw [e0]; omega), e0]
  by_cases h5 : t < o + (i + 1) * 4
  · rw [if_pos h5, if_pos h5]
  rw [if_neg h5, if_neg h5]
  by_cases h6 : t < o + (n + 1) * 4
  · rw [if_pos (by omega), if_pos h6, List.getElem?_take, if_pos (by omega), List.getElem?_drop]
    congr 1; omega
  · rw [if_neg (by omega), if_neg h6]
theorem insCells_len {cs : List Value} {o i n : Nat} (p : Pt) (hi : i ≤ n) (hl : o + (n + 1) * 4 ≤ cs.length) : (insCells cs o i n p).length = cs.length := by
  have e0 : ((cs.drop (o + i * 4)).take ((n - i) * 4)).length = (n - i) * 4 := by simp; omega
  unfold insCells
  rw [List.length_set, List.length_set, List.length_set, splice_length _ _ _ (by rw [e0]; omega)]
theorem set_one' {cs : List Value} {i : Nat} {v : Value} (h : ∀ u ∈ cs, u.oneCell' = true) (hv : v.oneCell' = true) : ∀ u ∈ cs.set i v, u.oneCell' = true := by
  intro u hu
  rcases List.mem_or_eq_of_mem_set hu with h2 | rfl
  · exact h u h2
  · exact hv
theorem Pts.insert {cs : List Value} {o : Nat} {ps : List Pt} (h : Pts cs o ps) {i : Nat} (hi : i ≤ ps.length) (p : Pt) (hl : o + (ps.length + 1) * 4 ≤ cs.length) : Pts (insCells cs o i ps.length p) o (ps.insertIdx i p) := by
  intro j x hj
  have hj2 := (List.getElem?_eq_some_iff.1 hj).1
  rw [List.length_insertIdx_of_le_length hi] at hj2
  rw [List.getElem?_insertIdx] at hj
  by_cases h1 : j < i
  · rw [if_pos h1] at hj
    obtain ⟨q0, q1, q2, v, q3⟩ := h _ _ hj
    refine ⟨?_, ?_, ?_, v, ?_⟩
    all_goals (rw [insCells_get p hi hl, if_neg (by omega), if_neg (by omega), if_neg (by omega), if_pos (by omega)]; assumption)
  · rw [if_neg h1] at hj
    by_cases h2 : j = i
    · subst h2
      rw [if_pos rfl, if_pos hi] at hj
      cases hj
      refine ⟨?_, ?_, ?_, ?_⟩
      · rw [insCells_get _ hi hl, if_neg (by omega), if_neg (by omega), if_pos rfl]
      · rw [insCells_get _ hi hl, if_neg (by omega), if_pos rfl]
      · rw [insCells_get _ hi hl, if_pos rfl]
      · rw [insCells_get _ hi hl, if_neg (by omega), if_neg (by omega), if_neg (by omega), if_pos (by omega)]
        exact ⟨_, List.getElem?_eq_getElem (by omega)⟩
    · rw [if_neg h2] at hj
      obtain ⟨q0, q1, q2, v, q3⟩ := h _ _ hj
      refine ⟨?_, ?_, ?_, v, ?_⟩
      all_goals (rw [insCells_get p hi hl, if_neg (by omega), if_neg (by omega), if_neg (by omega), if_neg (by omega), if_pos (by omega)])
      · rw [← q0]; congr 1; omega
      · rw [← q1]; congr 1; omega
      · rw [← q2]; congr 1; omega
      · rw [← q3]; congr 1; omega
/-- A pointer is put into a slot. -/
theorem Slots.insert {h h' : Hd} {cs : List Value} {L : List (List Pt)} (k : Slots h cs L) {s i : Nat} {ps : List Pt} (hs : L[s]? = some ps) (hi : i ≤ ps.length) (hc1 : ps.length + 1 ≤ h.cap) (p : Pt)
    (h1 : ∀ (j : Nat) (x : Pt), j < i → ps[j]? = some x → x.hash ≤ p.hash) (h2 : ∀ (j : Nat) (x : Pt), i ≤ j → ps[j]? = some x → p.hash ≤ x.hash)
    (hl : h'.lens = h.lens.set s (ps.length + 1)) (hc : h'.cap = h.cap) : Slots h' (insCells cs (s * h.cap * 4) i ps.length p) (L.set s (ps.insertIdx i p)) := by
  have hr := k.room hs
  have hb : s * h.cap * 4 + (ps.length + 1) * 4 ≤ cs.length := by omega
  refine k.chunk hs (by rw [hl, List.length_insertIdx_of_le_length hi]) hc (insCells_len p hi hb) ?_ (by rw [List.length_insertIdx_of_le_length hi]; exact hc1)
    ((k.at' s ps hs).insert hi p hb) (rise_insert (k.rise ps (List.mem_of_getElem? hs)) i p hi h1 h2) ?_
  · exact set_one' (set_one' (set_one' (splice_one k.one fun u hu => k.one u (List.mem_of_mem_drop (List.mem_of_mem_take hu))) rfl) rfl) rfl
  · intro t ht
    rw [insCells_get p hi hb]
    rcases ht with h3 | h3
    · rw [if_neg (by omega), if_neg (by omega), if_neg (by omega), if_pos (by omega)]
    · rw [if_neg (by omega), if_neg (by omega), if_neg (by omega), if_neg (by omega), if_neg (by omega)]
theorem set_self : ∀ (l : List Nat) (i v : Nat), l[i]? = some v → l = l.set i v
  | [], i, v, h => by cases h
  | a :: l, 0, v, h => by cases h; rfl
  | a :: l, i + 1, v, h => by rw [List.set_cons_succ, ← set_self l i v h]
/-- A pointer is given another offset. -/
theorem Slots.moved {h : Hd} {cs : List Value} {L : List (List Pt)} (k : Slots h cs L) {s i : Nat} {ps : List Pt} (hs : L[s]? = some ps) {p : Pt} (hi : ps[i]? = some p) (new : Nat) :
    Slots h (cs.set (s * h.cap * 4 + i * 4) (.int .i64 new)) (L.set s (ps.set i { p with off := new })) := by
  have hr := k.room hs
  have hf := k.fit ps (List.mem_of_getElem? hs)
  have hil := (List.getElem?_eq_some_iff.1 hi).1
  have hla := k.lens_at hs
  refine k.chunk hs (by rw [List.length_set]; exact set_self _ _ _ hla) rfl (by rw [List.length_set]) (set_one' k.one rfl) (by rw [List.length_set]; exact hf) ?_ ?_ ?_
  · intro j x hj
    rw [List.getElem?_set] at hj
    by_cases e : i = j
    · subst e
      rw [if_pos rfl, if_pos hil] at hj
      cases hj
      obtain ⟨q0, q1, q2, v, q3⟩ := k.at' s ps hs i p hi
      refine ⟨?_, ?_, ?_, v, ?_⟩
      · rw [List.getElem?_set, if_pos rfl, if_pos (by omega)]
      all_goals (rw [List.getElem?_set, if_neg (by omega)]; assumption)
    · rw [if_neg e] at hj
      obtain ⟨q0, q1, q2, v, q3⟩ := k.at' s ps hs j x hj
      refine ⟨?_, ?_, ?_, v, ?_⟩
      all_goals (rw [List.getElem?_set, if_neg (by omega)]; assumption)
  · intro a b x y hab hx hy
    have hrr := k.rise ps (List.mem_of_getElem? hs)
    have key : ∀ (a : Nat) (x : Pt), (ps.set i { p with off := new })[a]? = some x → ∃ z, ps[a]? = some z ∧ z.hash = x.hash := by
      intro a x hx
      rw [List.getElem?_set] at hx
      by_cases e : i = a
      · subst e; rw [if_pos rfl, if_pos hil] at hx; cases hx; exact ⟨p, hi, rfl⟩
      · rw [if_neg e] at hx; exact ⟨x, hx, rfl⟩
    obtain ⟨x', hx', ex⟩ := key a x hx
    obtain ⟨y', hy', ey⟩ := key b y hy
    rw [← ex, ← ey]
    exact hrr a b x' y' hab hx' hy'
  · intro t ht
    rw [List.getElem?_set, if_neg (by omega)]
end Go.Proofs.YtbklhnpnkinadaaDoor
end
section
namespace Go.Proofs.YtbklhnpnkinadaaDoor
open Go.Vil Go.Vil.Ri
set_option linter.unusedVariables false

namespace En
def ok (e : En) : Prop := e.key.length ≤ 65535 ∧ e.value.length ≤ e.room ∧ 1 ≤ e.room ∧ e.room ≤ 1073741824 ∧ e.access < 4294967296 ∧ e.expire < 4294967296 ∧ e.hash < 65536 ∧ e.slot < 256
def hdr (e : En) : List UInt8 := hdrBytes e.access e.expire e.key.length e.hash e.value.length e.room e.gone e.slot 0
def pt (e : En) (o : Nat) : Pt := ⟨o, e.hash, e.key.length⟩
theorem hdr_length (e : En) : (hdr e).length = 24 := by
  unfold hdr hdrBytes
  simp
end En
/-- An entry lies at an offset. -/
structure EnAt (W : List UInt8) (b o : Nat) (e : En) : Prop where
  low : b ≤ o
  fit : o - b + e.len ≤ W.length
  hdr : (W.drop (o - b)).take 24 = En.hdr e
  key : (W.drop (o - b + 24)).take e.key.length = e.key
  val : (W.drop (o - b + 24 + e.key.length)).take e.value.length = e.value
  ok : En.ok e
theorem part_low {l m : List UInt8} {i s n : Nat} (h : s + n ≤ i) (hi : i ≤ l.length) : ((splice l i m).drop s).take n = (l.drop s).take n := Ri.splice_low h hi
theorem part_high {l m : List UInt8} {i s n : Nat} (h : i + m.length ≤ s) (hi : i ≤ l.length) : ((splice l i m).drop s).take n = (l.drop s).take n := by
  unfold splice
  rw [Ri.splice_high h hi]
theorem part_at {l m : List UInt8} {i n : Nat} (hn : n = m.length) (hi : i + m.length ≤ l.length) : ((splice l i m).drop i).take n = m := by
  subst hn
  exact splice_at l i m hi
namespace EnAt
variable {W : List UInt8} {b o : Nat} {e : En}
theorem len (h : EnAt W b o e) : e.len = 24 + e.key.length + e.room := rfl
/-- What is written elsewhere. -/
theorem beside (h : EnAt W b o e) {k : Nat} {p : List UInt8} (hk : k + p.length ≤ W.length) (hd : k + p.length ≤ o - b ∨ o - b + e.len ≤ k) : EnAt (splice W k p) b o e := by
  have hl := h.len
  have hv := h.ok.2.1
  have hlen := splice_length W k p hk
  refine ⟨h.low, by rw [hlen]; exact h.fit, ?_, ?_, ?_, h.ok⟩
  · rcases hd with hd | hd
    · rw [part_high (by omega) (by omega)]; exact h.hdr
    · rw [part_low (by omega) (by omega)]; exact h.hdr
  · rcases hd with hd | hd
    · rw [part_high (by omega) (by omega)]; exact h.key
    · rw [part_low (by omega) (by omega)]; exact h.key
  · rcases hd with hd | hd
    · rw [part_high (by omega) (by omega)]; exact h.val
    · rw [part_low (by omega) (by omega)]; exact h.val
/-- Its header is written over. -/
theorem header (h : EnAt W b o e) {e' : En} (hk : e'.key = e.key) (hv : e'.value = e.value) (hr : e'.room = e.room) (ho : En.ok e') : EnAt (splice W (o - b) (En.hdr e')) b o e' := by
  have hl := h.len
  have hfit := h.fit
  have h24 := En.hdr_length e'
  have hlen := splice_length W (o - b) (En.hdr e') (by omega)
  have hv := h.ok.2.1
  refine ⟨h.low, by rw [hlen]; unfold En.len; rw [hk, hr]; exact h.fit, part_at h24.symm (by omega), ?_, ?_, ho⟩
  · rw [hk, part_high (by omega) (by omega)]; exact h.key
  · rw [‹e'.value = e.value›, hk, part_high (by omega) (by omega)]; exact h.val
/-- Its header and its value are written over. -/
theorem over (h : EnAt W b o e) {e' : En} (hk : e'.key = e.key) (hr : e'.room = e.room) (ho : En.ok e') : EnAt (splice (splice W (o - b) (En.hdr e')) (o - b + 24 + e.key.length) e'.value) b o e' := by
  have hl := h.len
  have hfit := h.fit
  have h24 := En.hdr_length e'
  have hlen := splice_length W (o - b) (En.hdr e') (by omega)
  have hv := ho.2.1
  rw [hr] at hv
  have hlen2 := splice_length (splice W (o - b) (En.hdr e')) (o - b + 24 + e.key.length) e'.value (by omega)
  refine ⟨h.low, by rw [hlen2, hlen]; unfold En.len; rw [hk, hr]; exact h.fit, ?_, ?_, ?_, ho⟩
  · rw [part_low (by omega) (by omega)]; exact part_at h24.symm (by omega)
  · rw [hk, part_low (by omega) (by omega), part_high (by omega) (by omega)]; exact h.key
  · rw [hk]; exact part_at rfl (by omega)
/-- The window goes on. -/
theorem shift (h : EnAt W b o e) {p : List UInt8} {n b' : Nat} (hb : b' = b + (W.length + p.length - n)) (hlow : b' ≤ o) : EnAt (Ri.last n (W ++ p)) b' o e := by
  have hl := h.len
  have hfit := h.fit
  have hv := h.ok.2.1
  have hlow' := h.low
  have key : ∀ i m : Nat, i + m ≤ e.len → ((Ri.last n (W ++ p)).drop (o - b' + i)).take m = (W.drop (o - b + i)).take m := by
    intro i m hi
    unfold Ri.last
    rw [List.drop_drop]
    apply List.ext_getElem?
    intro j
    rw [List.getElem?_take, List.getElem?_take]
    split
    · rw [List.getElem?_drop, List.getElem?_drop, List.length_append, List.getElem?_append_left (by omega)]
      congr 1; omega
    · rfl
  refine ⟨hlow, by rw [Ri.last_length, List.length_append]; omega, ?_, ?_, ?_, h.ok⟩
  · have := key 0 24 (by omega); rw [Nat.add_zero, Nat.add_zero] at this; rw [this]; exact h.hdr
  · rw [key 24 _ (by omega)]; exact h.key
  · rw [Nat.add_assoc, key (24 + e.key.length) _ (by omega), ← Nat.add_assoc]; exact h.val
end EnAt
/-- A new entry at the end. -/
theorem EnAt.fresh {W pad : List UInt8} {b n b' : Nat} {e : En} (ho : En.ok e) (hp : pad.length = e.room - e.value.length) (hn : e.len ≤ n) (hb : b' = b + (W.length + e.len - n)) : EnAt (Ri.last n (W ++ (En.hdr e ++ e.key ++ e.value ++ pad))) b' (b + W.length) e := by
  have hv := ho.2.1
  have h24 := En.hdr_length e
  have hl : e.len = 24 + e.key.length + e.room := rfl
  have hP : (En.hdr e ++ e.key ++ e.value ++ pad).length = e.len := by simp only [List.length_append]; omega
  have key : ∀ i m : Nat, i + m ≤ e.len → ((Ri.last n (W ++ (En.hdr e ++ e.key ++ e.value ++ pad))).drop (b + W.length - b' + i)).take m = ((En.hdr e ++ e.key ++ e.value ++ pad).drop i).take m := by
    intro i m hi
    unfold Ri.last
    rw [List.drop_drop]
    apply List.ext_getElem?
    intro j
    rw [List.getElem?_take, List.getElem?_take]
    split
    · rw [List.getElem?_drop, List.getElem?_drop, List.length_append, hP, List.getElem?_append_right (by omega)]
      congr 1; omega
    · rfl
  refine ⟨by omega, by rw [Ri.last_length, List.length_append, hP]; omega, ?_, ?_, ?_, ho⟩
  · have := key 0 24 (by omega)
    rw [Nat.add_zero, List.drop_zero] at this
    rw [this, List.append_assoc, List.append_assoc, ← h24, List.take_left]
  · rw [key 24 _ (by omega), List.append_assoc, List.append_assoc, ← h24, List.drop_left, List.take_left]
  · rw [Nat.add_assoc, key (24 + e.key.length) _ (by omega), List.append_assoc, show 24 + e.key.length = (En.hdr e ++ e.key).length by simp [h24], List.drop_left, List.take_left]

/-! ### Where the entries of a list lie -/
def pos (o : Nat) (l : List En) (i : Nat) : Nat := o + Sg.used (l.take i)
theorem used_append (a b : List En) : Sg.used (a ++ b) = Sg.used a + Sg.used b := by unfold Sg.used; rw [List.map_append, List.sum_append]
theorem used_cons (e : En) (l : List En) : Sg.used (e :: l) = e.len + Sg.used l := rfl
theorem used_take {l : List En} {i j : Nat} {e : En} (h : l[i]? = some e) (hij : i < j) : Sg.used (l.take i) + e.len ≤ Sg.used (l.take j) := by
  have h1 : l.take j = l.take i ++ (l.drop i).take (j - i) := by
    rw [← List.take_append_drop i (l.take j), List.take_take, Nat.min_eq_left (by omega), List.drop_take]
  have hi := (List.getElem?_eq_some_iff.1 h).1
  have h2 : (l.drop i).take (j - i) = e :: ((l.drop (i + 1)).take (j - i - 1)) := by
    rw [List.drop_eq_getElem_cons hi, show j - i = (j - i - 1) + 1 by omega, List.take_succ_cons]
    rw [(List.getElem?_eq_some_iff.1 h).2]; rfl
  rw [h1, used_append, h2, used_cons]
  omega
theorem pos_lt {o : Nat} {l : List En} {i j : Nat} {e : En} (h : l[i]? = some e) (hij : i < j) : pos o l i + e.len ≤ pos o l j := by
  have := used_take h hij
  unfold pos; omega
theorem pos_end {o : Nat} {l : List En} {i : Nat} {e : En} (h : l[i]? = some e) : pos o l i + e.len ≤ o + Sg.used l := by
  have : Sg.used (l.take i) + e.len ≤ Sg.used (l.take (i + 1)) := used_take h (Nat.lt_succ_self i)
  have h2 : l = l.take (i + 1) ++ l.drop (i + 1) := (List.take_append_drop _ _).symm
  have h3 : Sg.used l = Sg.used (l.take (i + 1)) + Sg.used (l.drop (i + 1)) := by rw [← used_append, ← h2]
  unfold pos; omega
theorem en_len_pos (e : En) : 24 ≤ e.len := by unfold En.len; omega
theorem pos_inj {o : Nat} {l : List En} {i j : Nat} {e f : En} (hi : l[i]? = some e) (hj : l[j]? = some f) (h : pos o l i = pos o l j) : i = j := by
  have h1 := en_len_pos e
  have h2 := en_len_pos f
  rcases Nat.lt_trichotomy i j with c | c | c
  · have := pos_lt (o := o) hi c; omega
  · exact c
  · have := pos_lt (o := o) hj c; omega
/-- Two entries do not meet. -/
theorem pos_apart {o : Nat} {l : List En} {i j : Nat} {e f : En} (hi : l[i]? = some e) (hj : l[j]? = some f) (h : i ≠ j) : pos o l i + e.len ≤ pos o l j ∨ pos o l j + f.len ≤ pos o l i := by
  rcases Nat.lt_or_gt_of_ne h with c | c
  · exact .inl (pos_lt hi c)
  · exact .inr (pos_lt hj c)
theorem used_modify (f : En → En) (hf : ∀ e, (f e).len = e.len) : ∀ (l : List En) (i : Nat), Sg.used (l.modify i f) = Sg.used l
  | [], i => by simp
  | e :: l, 0 => by
    show Sg.used (f e :: l) = _
    rw [used_cons, used_cons, hf]
  | e :: l, i + 1 => by
    show Sg.used (e :: l.modify i f) = _
    rw [used_cons, used_cons, used_modify f hf l i]
theorem pos_modify (f : En → En) (hf : ∀ e, (f e).len = e.len) (o : Nat) (l : List En) (i j : Nat) : pos o (l.modify i f) j = pos o l j := by
  unfold pos
  by_cases h : i < j
  · rw [List.take_modify, used_modify f hf]
  · rw [List.take_modify, used_modify f hf]
theorem pos_append {o : Nat} {l : List En} {i : Nat} (m : List En) (h : i ≤ l.length) : pos o (l ++ m) i = pos o l i := by
  unfold pos
  rw [List.take_append_of_le_length h]
theorem pos_cons (o : Nat) (e : En) (l : List En) (i : Nat) : pos o (e :: l) (i + 1) = pos (o + e.len) l i := by
  unfold pos
  rw [List.take_succ_cons, used_cons]; omega
end Go.Proofs.YtbklhnpnkinadaaDoor
end
section
namespace Go.Vil
open Go Go.RowKit
set_option linter.unusedSimpArgs false
set_option linter.unusedVariables false

/-- Two lists, element by element. -/
def Each {α β : Type} (R : α → β → Prop) : List α → List β → Prop
  | [], [] => True
  | a :: l, b :: m => R a b ∧ Each R l m
  | _, _ => False
theorem Each.length {α β : Type} {R : α → β → Prop} : ∀ {l : List α} {m : List β}, Each R l m → l.length = m.length
  | [], [], _ => rfl
  | a :: l, b :: m, h => by simp [Each.length h.2]
theorem Each.get {α β : Type} {R : α → β → Prop} : ∀ {l : List α} {m : List β}, Each R l m → ∀ (i : Nat) (a : α), l[i]? = some a → ∃ b, m[i]? = some b ∧ R a b
  | [], [], _, i, a, h => by simp at h
  | x :: l, y :: m, h, 0, a, ha => by simp at ha; subst ha; exact ⟨y, rfl, h.1⟩
  | x :: l, y :: m, h, i + 1, a, ha => Each.get h.2 i a (by simpa using ha)
theorem Each.mono {α β : Type} {R R' : α → β → Prop} (hR : ∀ a b, R a b → R' a b) : ∀ {l : List α} {m : List β}, Each R l m → Each R' l m
  | [], [], _ => trivial
  | a :: l, b :: m, h => ⟨hR _ _ h.1, Each.mono hR h.2⟩
theorem Each.append {α β : Type} {R : α → β → Prop} : ∀ {l l' : List α} {m m' : List β}, Each R l m → Each R l' m' → Each R (l ++ l') (m ++ m')
  | [], _, [], _, _, h' => h'
  | a :: l, _, b :: m, _, h, h' => ⟨h.1, Each.append h.2 h'⟩
theorem Each.of_get {α β : Type} {R : α → β → Prop} : ∀ {l : List α} {m : List β}, l.length = m.length → (∀ (i : Nat) (a : α) (b : β), l[i]? = some a → m[i]? = some b → R a b) → Each R l m
  | [], [], _, _ => trivial
  | a :: l, b :: m, hl, h => ⟨h 0 a b rfl rfl, Each.of_get (by simpa using hl) fun i x y hx hy => h (i + 1) x y (by simpa using hx) (by simpa using hy)⟩
theorem Each.take {α β : Type} {R : α → β → Prop} : ∀ {l : List α} {m : List β} (n : Nat), Each R l m → Each R (l.take n) (m.take n)
  | [], [], n, _ => by simp [Each]
  | a :: l, b :: m, 0, h => trivial
  | a :: l, b :: m, n + 1, h => ⟨h.1, Each.take n h.2⟩
theorem Each.drop {α β : Type} {R : α → β → Prop} : ∀ {l : List α} {m : List β} (n : Nat), Each R l m → Each R (l.drop n) (m.drop n)
  | [], [], n, _ => by simp [Each]
  | a :: l, b :: m, 0, h => h
  | a :: l, b :: m, n + 1, h => Each.drop n h.2

theorem flat_get {α : Type} {size : Nat} : ∀ {css : List (List α)} (_ : ∀ cs ∈ css, cs.length = size) (i : Nat) (cs : List α) (j : Nat), css[i]? = some cs → j < size → css.flatten[i * size + j]? = cs[j]?
  | [], _, i, cs, j, h, _ => by simp at h
  | c :: css, hs, 0, cs, j, h, hj => by
    simp at h; subst h
    rw [List.flatten_cons, Nat.zero_mul, Nat.zero_add, List.getElem?_append_left (by rw [hs c List.mem_cons_self]; exact hj)]
  | c :: css, hs, i + 1, cs, j, h, hj => by
    have hc := hs c List.mem_cons_self
    rw [List.flatten_cons, List.getElem?_append_right (by rw [hc, Nat.add_mul]; omega), hc, show (i + 1) * size + j - size = i * size + j by rw [Nat.add_mul]; omega]
    exact flat_get (fun x hx => hs x (List.mem_cons_of_mem _ hx)) i cs j (by simpa using h) hj
theorem flat_len {α : Type} {size : Nat} : ∀ {css : List (List α)} (_ : ∀ cs ∈ css, cs.length = size), css.flatten.length = css.length * size
  | [], _ => by simp
  | c :: css, hs => by
    rw [List.flatten_cons, List.length_append, flat_len (fun x hx => hs x (List.mem_cons_of_mem _ hx)), hs c List.mem_cons_self, List.length_cons, Nat.add_mul]; omega

/-- A slice whose elements, of so many cells each, read as such values. -/
def Arr {α : Type} (R : World → α → List Value → Prop) (size : Nat) (w : World) (v : Value) (xs : List α) : Prop :=
  ∃ (oa : Option Addr) (c : Nat) (css : List (List Value)), v = .slice oa xs.length c ∧ xs.length ≤ c ∧ Each (fun x cs => R w x cs ∧ cs.length = size) xs css ∧ Src w size (.slice oa xs.length c) xs.length css.flatten

theorem Arr.on {α : Type} {R : World → α → List Value → Prop} {size : Nat} {w w' : World} {v : Value} {xs : List α} (h : Arr R size w v xs) (C : Chg [] w w') (hR : ∀ x cs, R w x cs → R w' x cs) : Arr R size w' v xs := by
  obtain ⟨oa, c, css, h1, h2, h3, h4⟩ := h
  exact ⟨oa, c, css, h1, h2, h3.mono (fun x cs hx => ⟨hR _ _ hx.1, hx.2⟩), h4.on C⟩

theorem Each.sizes {α : Type} {R : α → List Value → Prop} {size : Nat} {xs : List α} {css : List (List Value)} (h : Each (fun x cs => R x cs ∧ cs.length = size) xs css) : ∀ cs ∈ css, cs.length = size := by
  intro cs hc
  obtain ⟨i, hi⟩ := List.getElem?_of_mem hc
  have hlt := (List.getElem?_eq_some_iff.1 hi).1
  have hl := h.length
  obtain ⟨b, hb, _, hb2⟩ := h.get i xs[i] (List.getElem?_eq_getElem (by omega))
  rw [hi] at hb
  cases hb
  exact hb2

theorem add_add (a : Addr) (i j : Nat) : (a.add i).add j = a.add (i + j) := by
  unfold Addr.add
  by_cases h1 : i = 0
  · subst h1; simp
  · by_cases h2 : j = 0
    · subst h2; simp
    · simp [h1, h2]; omega

/-- The cells of an element. -/
theorem Arr.get {α : Type} {R : World → α → List Value → Prop} {size : Nat} {w : World} {ad : Addr} {n c : Nat} {xs : List α} (h : Arr R size w (.slice (some ad) n c) xs) (k : Nat) (x : α) (hk : xs[k]? = some x) :
    ∃ cs, R w x cs ∧ cs.length = size ∧ ∀ j v, cs[j]? = some v → w.cell? ((ad.add (k * size)).add j) = some v := by
  obtain ⟨oa, c', css, h1, h2, h3, h4⟩ := h
  cases h1
  obtain ⟨cs, hcs, hR, hl⟩ := h3.get k x hk
  refine ⟨cs, hR, hl, fun j v hv => ?_⟩
  rw [add_add]
  have hj := (List.getElem?_eq_some_iff.1 hv).1
  exact h4.2.2.2 _ _ ((flat_get h3.sizes k cs j hcs (by omega)).trans hv)
theorem Arr.shape {α : Type} {R : World → α → List Value → Prop} {size : Nat} {w : World} {v : Value} {xs : List α} (h : Arr R size w v xs) : ∃ oa c, v = .slice oa xs.length c ∧ xs.length ≤ c := by
  obtain ⟨oa, c, css, h1, h2, h3, h4⟩ := h
  exact ⟨oa, c, h1, h2⟩
theorem Arr.some {α : Type} {R : World → α → List Value → Prop} {size : Nat} {w : World} {oa : Option Addr} {n c : Nat} {xs : List α} (h : Arr R size w (.slice oa n c) xs) (hsz : 0 < size) (hn : 0 < xs.length) : ∃ ad, oa = .some ad := by
  obtain ⟨oa', c', css, h1, h2, h3, h4⟩ := h
  cases h1
  cases oa with
  | some ad => exact ⟨ad, rfl⟩
  | none =>
    have h5 := h4.2.2.2
    have h6 := h4.1
    rw [h5] at h6
    have : 0 < xs.length * size := Nat.mul_pos hn hsz
    simp at h6; omega
theorem Arr.nil {α : Type} (R : World → α → List Value → Prop) (size : Nat) (w : World) : Arr R size w (.slice none 0 0) [] := ⟨none, 0, [], rfl, Nat.le_refl _, trivial, Src.nil w size 0⟩

/-- A list that another one ends with. -/
inductive Suf (T : List Res) : List Res → Prop
  | refl : Suf T T
  | cons {p : Res} {l : List Res} : Suf T l → Suf T (p :: l)
theorem Sel.refl : ∀ (l : List Res), Sel l l
  | [] => .nil
  | _ :: l => .cons .head (Sel.refl l)
theorem Sel.weaken {p : Res} {rs l : List Res} (h : Sel rs l) : Sel rs (p :: l) := by
  induction h with
  | nil => exact .nil
  | cons hp _ ih => exact .cons (.tail hp) ih
theorem Suf.sel {T l : List Res} (h : Suf T l) : Sel T l := by
  induction h with
  | refl => exact Sel.refl _
  | cons _ ih => exact ih.weaken
/-- Some things and a list of others, out of a list that ends with those. -/
inductive SelT : List Res → List Res → Prop
  | nil {T l : List Res} (h : Suf T l) : SelT T l
  | cons {r : Res} {rs l l' : List Res} : Pull r l l' → SelT rs l' → SelT (r :: rs) l
theorem SelT.sel {rs l : List Res} (h : SelT rs l) : Sel rs l := by
  induction h with
  | nil h => exact h.sel
  | cons hp _ ih => exact .cons hp ih
theorem St.selT {w0 : World} {bs : List Nat} {w : World} {rs l : List Res} (S : St w0 bs w l) (h : SelT rs l) : St w0 bs w rs := S.sel h.sel

/-- The shape of a row. -/
theorem row_shape {w : World} {e : TypeId} {size n : Nat} {v : Value} {xs : List Value} (hsz : 0 < size) (h : (Res.row e size v n xs).holds w) : ∃ oa c, v = .slice oa n c ∧ n ≤ c ∧ n ≤ maxLen := by
  have h' : w.ownsRow 0 e size v n xs := h
  rcases h'.2 with ⟨rfl, h1⟩ | ⟨g, cap, cur, rfl, _, hg, h1, h2, _⟩
  · subst h1; exact ⟨none, 0, rfl, Nat.le_refl _, by simp [maxLen]⟩
  · exact ⟨_, _, rfl, h1, Nat.le_trans h1 h2⟩
/-- A row of structs, as a slice that is read. -/
theorem row_arr {α : Type} {R : World → α → List Value → Prop} {size : Nat} {w : World} {e : TypeId} {v : Value} {xs : List α} {css : List (List Value)} (hsz : 0 < size) (h : (Res.row e size v xs.length css.flatten).holds w) (he : Each (fun x cs => R w x cs ∧ cs.length = size) xs css)
    (h1 : ∀ cs ∈ css, ∀ u ∈ cs, u.oneCell' = true) : Arr R size w v xs := by
  obtain ⟨oa, c, rfl, hc, _⟩ := row_shape hsz h
  refine ⟨oa, c, css, rfl, hc, he, Src.row h fun u hu => ?_⟩
  obtain ⟨cs, hcs, hu⟩ := List.mem_flatten.1 hu
  exact h1 cs hcs u hu

section
variable {P : Program} {ops : Array Oper} {Q : Exit → Act → World → Prop} {rest : List Oper} {o : Oper} {a : Act} {w w' : World}
/-- A load of a struct that was there ahead of all. -/
theorem wpList_ldAc {w0 : World} {L : List Res} (S : St w0 [] w L) {a' : Act} {ty : TypeId} {x : Operand} {ad : Addr} {n : Nat} {cs : List Value}
    (k : wpList P ops Q rest a' w) (hl : cs.length = n) (hc : ∀ j v, cs[j]? = some v → w0.cell? (ad.add j) = some v)
    (hw : Region.wanted o (yielded ops a.tmps) = true := by rfl) (ho : o.op = .load ty x := by rfl) (hT0 : TAgg P ty n := by infer_instance) (ha : slot a x = some (.pointer (some ad)) := by rfl)
    (hput : Put a o.dst (.agg cs.toArray) a' := by exact put_of (by conv => lhs; simp only [List.set_cons_succ, List.set_cons_zero])) : wpList P ops Q (o :: rest) a w :=
  wpList_run hw (run_ldA ty x ho (eval_slot ha) hl fun j v hv => S.chg.cell (hc j v hv) (by simp)) (hput.is ▸ k)
end
end Go.Vil
end
