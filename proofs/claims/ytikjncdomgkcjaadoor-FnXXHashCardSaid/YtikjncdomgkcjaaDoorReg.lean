/- Regions that draw their order, some of whose operations turn what is there: what only reads does so in what stays. -/
import Derived.Test.YtikjncdomgkcjaaDoorGrow
namespace Go.Vil
open Go Go.RowKit
set_option linter.unusedVariables false
/-- What is to be shown of the end, behind a name: the walk does not open it. -/
theorem Calls.cps {P : Program} {f : FuncId} {args : Array Value} {w : World} {R : Ending → World → Prop} (h : ∀ R' : Ending → World → Prop, Hid (∀ e w', R e w' → R' e w') → Calls P f args w R') : Calls P f args w R :=
  h R (show ∀ e w', R e w' → R e w' from fun _ _ h => h)
section
variable {P : Program}

/-- The walk over a class of worlds that stays. -/
def walkC (P : Program) (l : List Oper) (C : World → Prop) (Q : Act → World → Prop) : List (List Nat × Nat) → List Nat → Act → World → Prop
  | [], last, a, w => wpQuiet P l.toArray C (fun a' => Q a' w) (pick l last) a
  | (h, g) :: segs, last, a, w => wpQuiet P l.toArray C
      (fun a' => wpList P l.toArray (Qn fun a'' w'' => C w'' ∧ walkC P l C Q segs last a'' w'') (pick l [g]) a' w) (pick l h) a

theorem walkG_of_walkC {l : List Oper} {C : World → Prop} {Q : Act → World → Prop} : ∀ (segs : List (List Nat × Nat)) (last : List Nat) (a : Act) (w : World), fitsSt l segs last = true →
    walkC P l C Q segs last a w → walkG P l.toArray Q segs last C a w
  | [], last, a, w, hf, h => by
    simp only [fitsSt, Bool.and_eq_true] at hf
    exact qI_of_wpQuiet _ _ hf.1 hf.2 h
  | (q, g) :: segs, last, a, w, hf, h => by
    simp only [fitsSt, Bool.and_eq_true, decide_eq_true_eq] at hf
    obtain ⟨⟨⟨h1, h2⟩, h3⟩, h4⟩ := hf
    have hg : l[g]? = some l[g] := List.getElem?_eq_getElem h3
    refine qI_of_wpQuiet _ _ h1 h2 (wpQuiet_mono (fun a' hk => ?_) _ _ h)
    simp only [pick, hg] at hk
    refine stepG_mono (fun a'' w'' ⟨hC, hrest⟩ => ?_) (stepG_of_wpList (o := l[g]) (by simp [hg]) hk)
    exact ⟨C, hC, fun _ h => h, walkG_of_walkC segs last a'' w'' h4 hrest⟩

/-- A region that draws: what only reads does so in the things of Lc; what turns others, or makes memory, comes up alone. -/
theorem St.regionC {id : Nat} {Q : Exit → Act → World → Prop} {a : Act} {w w0 : World} {bs : List Nat} {L : List Res} {l : List Oper} (S : St w0 bs w L) (Lc : List Res) (n : Nat) (segs : List (List Nat × Nat)) (last : List Nat)
    (h : ∀ w', Chg [] w w' → St w0 bs w' L → St w0 bs w' Lc → walkC P l (fun w'' => ∃ p : StW w' w0 bs Lc, w'' = p.w) (fun a w => wpList P l.toArray Q (l.drop n) a w) segs last a w')
    (hs : Sel Lc L := by repeat (first | exact Sel.nil | (apply Sel.cons; (repeat (first | exact Pull.head | apply Pull.tail)))))
    (hf : fitsSt l segs last = true := by kernel_rfl)
    (hm : P.follows .mixedOrders = true := by kernel_rfl)
    (hB : (Region.noSelect l.toArray && tailB .any l.toArray n && orderB .any l.toArray n segs last (Array.replicate l.length false) && decide (lengthG segs last = n)) = true := by kernel_rfl) : (Code.region id l.toArray true).wp P Q a w :=
  wp_regionG (C := fun w' => ∃ p : StW w.drew w0 bs Lc, w' = p.w) n segs last hm hB ⟨⟨w.drew, .inl rfl⟩, rfl⟩ (walkG_of_walkC segs last a w.drew hf (h _ ⟨rfl, rfl, rfl, Nat.le_refl _, fun _ _ _ => rfl⟩ S.drew (S.drew.sel hs)))
end
end Go.Vil
