/- Regions that draw their order by a plan, some of whose operations turn what is there. -/
import Derived.Test.YtikjncdomgkcjaaDoorPlan
namespace Go.Vil
open Go Go.RowKit
set_option linter.unusedVariables false
section
variable {P : Program}
/-- The walk over a class of worlds that stays, by a plan. -/
def walkPC (P : Program) (l : List Oper) (C : World → Prop) (Q : Act → World → Prop) : Plan → Act → World → Prop
  | .done last, a, w => wpQuiet P l.toArray C (fun a' => Q a' w) (pick l last) a
  | .one h g p, a, w => wpQuiet P l.toArray C
      (fun a' => wpList P l.toArray (Qn fun a'' w'' => C w'' ∧ walkPC P l C Q p a'' w'') (pick l [g]) a' w) (pick l h) a
  | .two h g1 p1 g2 p2, a, w => wpQuiet P l.toArray C
      (fun a' => wpList P l.toArray (Qn fun a'' w'' => C w'' ∧ walkPC P l C Q p1 a'' w'') (pick l [g1]) a' w ∧
        wpList P l.toArray (Qn fun a'' w'' => C w'' ∧ walkPC P l C Q p2 a'' w'') (pick l [g2]) a' w) (pick l h) a
theorem walkP_of_walkPC {l : List Oper} {C : World → Prop} {Q : Act → World → Prop} : ∀ (p : Plan) (a : Act) (w : World), fitsP l p = true → walkPC P l C Q p a w → walkP P l.toArray Q p C a w := by
  intro p
  induction p with
  | done last =>
    intro a w hf h
    simp only [fitsP, Bool.and_eq_true] at hf
    exact qI_of_wpQuiet _ _ hf.1 hf.2 h
  | one q g p ih =>
    intro a w hf h
    simp only [fitsP, Bool.and_eq_true, decide_eq_true_eq] at hf
    obtain ⟨⟨⟨h1, h2⟩, h3⟩, h4⟩ := hf
    have hg : l[g]? = some l[g] := List.getElem?_eq_getElem h3
    refine qI_of_wpQuiet _ _ h1 h2 (wpQuiet_mono (fun a' hk => ?_) _ _ h)
    simp only [pick, hg] at hk
    refine stepG_mono (fun a'' w'' ⟨hC, hrest⟩ => ?_) (stepG_of_wpList (o := l[g]) (by simp [hg]) hk)
    exact ⟨C, hC, fun _ h => h, ih a'' w'' h4 hrest⟩
  | two q g1 p1 g2 p2 ih1 ih2 =>
    intro a w hf h
    simp only [fitsP, Bool.and_eq_true, decide_eq_true_eq] at hf
    obtain ⟨⟨⟨⟨⟨h1, h2⟩, h3⟩, h3'⟩, h4⟩, h5⟩ := hf
    have hg1 : l[g1]? = some l[g1] := List.getElem?_eq_getElem h3
    have hg2 : l[g2]? = some l[g2] := List.getElem?_eq_getElem h3'
    refine qI_of_wpQuiet _ _ h1 h2 (wpQuiet_mono (fun a' hk => ?_) _ _ h)
    simp only [pick, hg1, hg2] at hk
    refine ⟨stepG_mono (fun a'' w'' ⟨hC, hrest⟩ => ?_) (stepG_of_wpList (o := l[g1]) (by simp [hg1]) hk.1), stepG_mono (fun a'' w'' ⟨hC, hrest⟩ => ?_) (stepG_of_wpList (o := l[g2]) (by simp [hg2]) hk.2)⟩
    · exact ⟨C, hC, fun _ h => h, ih1 a'' w'' h4 hrest⟩
    · exact ⟨C, hC, fun _ h => h, ih2 a'' w'' h5 hrest⟩
/-- A region that draws, by a plan; what only reads does so in the things of Lc. -/
theorem St.regionPC {id : Nat} {Q : Exit → Act → World → Prop} {a : Act} {w w0 : World} {bs : List Nat} {L : List Res} {l : List Oper} (S : St w0 bs w L) (Lc : List Res) (n : Nat) (p : Plan)
    (h : ∀ w', Chg [] w w' → St w0 bs w' L → St w0 bs w' Lc → walkPC P l (fun w'' => ∃ p : StW w' w0 bs Lc, w'' = p.w) (fun a w => wpList P l.toArray Q (l.drop n) a w) p a w')
    (hs : Sel Lc L := by repeat (first | exact Sel.nil | (apply Sel.cons; (repeat (first | exact Pull.head | apply Pull.tail)))))
    (hf : fitsP l p = true := by kernel_rfl)
    (hm : P.follows .mixedOrders = true := by kernel_rfl)
    (hB : (Region.noSelect l.toArray && tailB .any l.toArray n && planB .any l.toArray n p (Array.replicate l.length false) && decide (p.len = n)) = true := by kernel_rfl) : (Code.region id l.toArray true).wp P Q a w :=
  wp_regionP (C := fun w' => ∃ p : StW w.drew w0 bs Lc, w' = p.w) n p hm hB ⟨⟨w.drew, .inl rfl⟩, rfl⟩ (walkP_of_walkPC p a w.drew hf (h _ ⟨rfl, rfl, rfl, Nat.le_refl _, fun _ _ _ => rfl⟩ S.drew (S.drew.sel hs)))
end
end Go.Vil
