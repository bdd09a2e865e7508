/- For every input the law FnRingStep returns true; its arguments read behind the call as before it; the two listed variables hold the errors that the program's text lays. -/
import Derived.Test.YtbklhnpnkinadaaDoorRows
import Derived.Test.YtbklhnpnkinadaaDoorTie
import Derived.Test.YtbklhnpnkinadaaDoorCards
import Derived.Test.YtbklhnpnkinadaaDoorTt
import Derived.WalkKit
import Derived.ProofKit
import Derived.OpenShut
import Derived.ShutString
import Derived.ChangeOld
import Derived.Below
import Derived.SizedLaws
import Derived.Carry
import Derived.LaidMore
import Derived.LaidLaws
import Derived.Stop.LaidErr
import Derived.Stop.Joined
import Derived.SevenTiedAt
namespace Go.Proofs.YtbklhnpnkinadaaDoor.fnRingStep
open Go.ChangeShapes Go.WideShapes Go.ChangeAt Go.RowKit Go.Vil
open Go.ChangeMaps (open_string shut_string)
set_option linter.unusedVariables false
theorem own : ownKnob Tryd.prog.godebug = none := by kernel_rfl
theorem laidOut : laidOutB Tryd.prog = true := by kernel_rfl
theorem gl0 : Tryd.prog.globalNamed "io.EOF" = some 1 := by kernel_rfl
theorem gt0 : (Tryd.prog.globals[1]?).map (·.type) = some 112 := by kernel_rfl
theorem gl1 : Tryd.prog.globalNamed "given.example/pub-villanelle/pub/freecache.ErrOutOfRange" = some 0 := by kernel_rfl
theorem gt1 : (Tryd.prog.globals[0]?).map (·.type) = some 112 := by kernel_rfl
theorem star : "*" ++ "errors.errorString" = "*errors.errorString" := by decide
theorem rowE (u : TypeId) (h : Tryd.prog.typeName? 3 u = some "*errors.errorString") : u = 180 :=
  typeName_ptr_named (nm := "errors.errorString") (by rw [star]; kernel_rfl) (by kernel_rfl) (by decide) u (by rw [star]; exact h)
theorem cellsE : Tryd.prog.cellsOf 197 = 1 := by kernel_rfl
theorem cellsS : Tryd.prog.cellsOf 9 = 1 := by kernel_rfl
/-- The door's own heap meets the condition. -/
theorem door_met (os : Os) (args : Array Value) : laidMetH Tryd.prog Rows.fnRingStepRow.laid ((World.doorLaid Tryd.prog 108 os).forCall (fun _ _ => 0) ⟨#[], args, []⟩).memory :=
  laidMetH_of_parts3 (fuel := 8) (laidMet_of_run' 8 (by kernel_rfl) (by kernel_rfl)) (by kernel_rfl) (by kernel_rfl)
set_option maxRecDepth 100000 in
theorem lifted (os : Os) (started : os.Started) (H : Type) (enc : TypeId × Value → H) :
    ReturnsInHanded {} Tryd.checked os 3 .any (fun w args => (Rows.fnRingStepSpec.pre enc Tryd.prog Tryd.f3 [] false w args ∧ laidMetH Tryd.prog Rows.fnRingStepRow.laid w) ∧ sizedMet enc Tryd.prog Tryd.f3 (OpenSpec.ofChange Rows.fnRingStepSpec) false w args)
      (Rows.fnRingStepSpec.post enc Tryd.prog Tryd.f3 false true false false) := by
  refine returnsInHanded_of_change_and (C := Tryd.checked) (X := fun w _ => laidMetH Tryd.prog Rows.fnRingStepRow.laid w) (fun _ _ _ hh h => h.of_heap hh) own started (by kernel_rfl) Tryd.func3
    (ChangeSpec.witness_shaped (enc := enc) (C := Tryd.checked) (os := os) (X := fun w _ => laidMetH Tryd.prog Rows.fnRingStepRow.laid w) false (World.doorLaid Tryd.prog 108 os) #[.agg #[.slice none 0 0, .int .i64 0, .int .i64 0, .int .i64 0], .agg #[.int .i64 0, .slice none 0 0, .int .i64 0, .int .i64 0]] 8 rfl (World.shaped_of_RefB (by kernel_rfl) (by kernel_rfl)) (by kernel_rfl) (by kernel_rfl) (by kernel_rfl) (door_met os _)) ?_
  intro W base args ds gs before hval0 hW _ _ hL _
  have hval : ∀ (j : Nat) t v, Tryd.f3.params[j]? = some t → args[j]? = some v → Value.okWide Tryd.prog W .any base t v := hval0
  have hW' := hW
  obtain ⟨p, q, hA0, hV0, rfl, hfz, hnd⟩ := hW
  have hA : DataW.TrodAll enc Tryd.prog W 0 (fun _ => true) true Tryd.f3.params.toList args.toList ds p := hA0
  have hV : DataW.TrodVars enc Tryd.prog W (fun _ => true) ["given.example/pub-villanelle/pub/freecache.ErrOutOfRange"] gs q := hV0
  rw [Tryd.params3] at hA hval
  replace hL : laidMet Tryd.prog Rows.fnRingStepRow.laid W := by
    have h := hL
    rw [MakeChecks.laidMetH_plain _ _ _ (by kernel_rfl)] at h
    exact h
  obtain ⟨v0, vs0, d0, ds0, p0, q0, hargs, rfl, rfl, h0, r0⟩ := trodAll_cons hA
  obtain ⟨v1, vs1, d1, ds1, p1, q1, rfl, rfl, rfl, h1, r1⟩ := trodAll_cons r0
  obtain ⟨rfl, rfl, rfl⟩ := trodAll_nil r1
  obtain rfl : args = #[v0, v1] := by cases args; simp_all
  obtain ⟨x0, s0, hv0, _, _, _⟩ := laid_sentinel hL gl0 gt0 Tryd.underlying112 rowE Tryd.underlying180 Tryd.underlying197 rfl rfl Tryd.underlying9 cellsE cellsS
  have hc0 : W.cell? ⟨1, 0, none⟩ = some (.iface 180 (.pointer (some x0))) := by simpa using World.var?_cell gl0 hv0 0
  obtain ⟨x1, s1, hv1, _, _, _⟩ := laid_sentinel hL.tail gl1 gt1 Tryd.underlying112 rowE Tryd.underlying180 Tryd.underlying197 rfl rfl Tryd.underlying9 cellsE cellsS
  have hc1 : W.cell? ⟨0, 0, none⟩ = some (.iface 180 (.pointer (some x1))) := by simpa using World.var?_cell gl1 hv1 0
  have vread : ∀ (W2 : World) (sp : Nat → Bool), W2.var? Tryd.prog "given.example/pub-villanelle/pub/freecache.ErrOutOfRange" = some #[.iface 180 (.pointer (some x1))] → DataW.TrodVars enc Tryd.prog W2 sp ["given.example/pub-villanelle/pub/freecache.ErrOutOfRange"] [tok enc (.iface 180 (.pointer (some x1)))] [.cell 0 0] := fun W2 sp g1 => ⟨0, 112, _, 1, _, _, gl1, gt1, g1, trod_held Tryd.underlying112 (by trivial) 0, rfl, rfl⟩
  obtain ⟨rfl, rfl⟩ := hV.unique (vread W _ hv1)
  have lt0 : ∀ x ∈ p0, x.block < W.heap.size := fun x hx => by simpa using hW'.lt x (by simp [hx])
  have lt1 : ∀ x ∈ p1, x.block < W.heap.size := fun x hx => by simpa using hW'.lt x (by simp [hx])
  clear hA0 hval0
  refine (rowRingStep v0 v1 W (hval 0 24 v0 rfl rfl) h0 lt0 (hval 1 26 v1 rfl rfl) h1 lt1 hc0 hc1).mono fun e W' ⟨he, bel⟩ => ?_
  subst he
  have keptV : ∀ {n : String} {cs : Array Value}, W.var? Tryd.prog n = some cs → W'.var? Tryd.prog n = some cs := fun h => var_below h bel
  exact ⟨_, rfl, _, _, _, [], _, _, hW', trodAll_mk1 (shut_bool Tryd.underlying4 _), (trodAll_cons_mk (Below.trod laidOut (by kernel_rfl) (of_decide_eq_true (by kernel_rfl)) h0 bel lt0) (trodAll_cons_mk (Below.trod laidOut (by kernel_rfl) (of_decide_eq_true (by kernel_rfl)) h1 bel lt1) trodAll_mk0)), (vread _ _ (keptV hv1)), bel.frame _, fun h => by cases h⟩
theorem over : Rows.fnRingStepRow.holds Tryd.pinned (OpenSpec.ofChange Rows.fnRingStepSpec) :=
  OpenClaim.holds_of_wide 3 Tryd.f3 rfl rfl rfl rfl rfl rfl rfl ⟨rfl, rfl, rfl, rfl, rfl⟩ rfl rfl rfl rfl rfl (by kernel_rfl) Tryd.func3 (by kernel_rfl)
    (of_decide_eq_true (by kernel_rfl)) (by unfold Func.isWrapper; first | (rw [if_pos (by decide +kernel)]; kernel_rfl) | (rw [if_neg (by decide +kernel)]; exact ⟨rfl, rfl⟩))
    (fun os started H enc _ => lifted os started H enc)
theorem proved : Rows.FnRingStepSaid := over
theorem card : Claim7.holds Tryd.pinned (.plain (OpenSpec.ofChange Rows.fnRingStepSpec)) Rows.fnRingStepCard :=
  Claim7.holds_tied_plain_at .later [] [.sentinel, .sentinel] true (true, "5905c0a58b0f78e5f56f250754152f51b9d4c911d35d7e96b1aa5c4ea2adcae2") false
    proved (fun _ h => by cases h) (by kernel_rfl) (fun _ h => by cases h) fnRingStep_row_tie rfl ⟨rfl, rfl⟩ (by kernel_rfl) rfl
    (fun f fn hf hfn => by
      obtain rfl : f = 3 := Option.some.inj ((show Tryd.prog.funcNamed "given.example/pub-villanelle/laws.FnRingStep" = some 3 by kernel_rfl).symm.trans hf) |>.symm
      obtain rfl : fn = Tryd.f3 := (Option.some.inj (Tryd.func3.symm.trans hfn)).symm
      exact ⟨by kernel_rfl, fun j t ht => by
        rw [Tryd.params3] at ht
        have hm : t ∈ [24, 26] := by simpa using Array.mem_of_getElem? ht
        have hall : ([24, 26].all fun u => !Tryd.prog.wantsStandIn u) = true := by kernel_rfl
        exact (show Tryd.prog.wantsStandIn t = false by simpa using List.all_eq_true.1 hall t hm)⟩)
    (by kernel_rfl)
#print axioms card
end Go.Proofs.YtbklhnpnkinadaaDoor.fnRingStep
namespace Go.Proofs.YtbklhnpnkinadaaDoor
/-- The card, under a short name, for the claim. -/
theorem fnRingStepCard_holds : Rows.FnRingStepCardSaid := fnRingStep.card
end Go.Proofs.YtbklhnpnkinadaaDoor
