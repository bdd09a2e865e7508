/- For every key the law FnXXHash returns true: the library's hash of it is XXH64 with the seed 0; the listed variable holds the number that the program's text lays. -/
import Derived.Test.YtikjncdomgkcjaaDoorRows
import Derived.Test.YtikjncdomgkcjaaDoorTie
import Derived.Test.YtikjncdomgkcjaaDoorCards
import Derived.Test.YtikjncdomgkcjaaDoorXl
import Derived.WalkKit
import Derived.ProofKit
import Derived.OpenShut
import Derived.ShutString
import Derived.ChangeOld
import Derived.Below
import Derived.SizedLaws
import Derived.Carry
import Derived.LaidMore
import Derived.LaidLaws
import Derived.Stop.LaidErr
import Derived.Stop.Joined
import Derived.SevenTiedAt
namespace Go.Proofs.YtikjncdomgkcjaaDoor.fnXXHash
open Go.ChangeShapes Go.WideShapes Go.ChangeAt Go.RowKit Go.Vil
open Go.ChangeMaps (open_string shut_string)
set_option linter.unusedVariables false
theorem own : ownKnob Tryd.prog.godebug = none := by kernel_rfl
theorem laidOut : laidOutB Tryd.prog = true := by kernel_rfl
theorem gl0 : Tryd.prog.globalNamed "given.example/pub-villanelle/pub/xxhash.prime1v" = some 0 := by kernel_rfl
theorem gt0 : (Tryd.prog.globals[0]?).map (·.type) = some 23 := by kernel_rfl
/-- The door's own heap meets the condition. -/
theorem door_met (os : Os) (args : Array Value) : laidMetH Tryd.prog Rows.fnXXHashRow.laid ((World.doorLaid Tryd.prog 13 os).forCall (fun _ _ => 0) ⟨#[], args, []⟩).memory :=
  laidMetH_of_parts3 (fuel := 8) (laidMet_of_run' 8 (by kernel_rfl) (by kernel_rfl)) (by kernel_rfl) (by kernel_rfl)
set_option maxRecDepth 100000 in
theorem lifted (os : Os) (started : os.Started) (H : Type) (enc : TypeId × Value → H) :
    ReturnsInHanded {} Tryd.checked os 3 .any (fun w args => (Rows.fnXXHashSpec.pre enc Tryd.prog Tryd.f3 [] false w args ∧ laidMetH Tryd.prog Rows.fnXXHashRow.laid w) ∧ sizedMet enc Tryd.prog Tryd.f3 (OpenSpec.ofChange Rows.fnXXHashSpec) false w args)
      (Rows.fnXXHashSpec.post enc Tryd.prog Tryd.f3 false true false false) := by
  refine returnsInHanded_of_change_and (C := Tryd.checked) (X := fun w _ => laidMetH Tryd.prog Rows.fnXXHashRow.laid w) (fun _ _ _ hh h => h.of_heap hh) own started (by kernel_rfl) Tryd.func3
    (ChangeSpec.witness_shaped (enc := enc) (C := Tryd.checked) (os := os) (X := fun w _ => laidMetH Tryd.prog Rows.fnXXHashRow.laid w) false (World.doorLaid Tryd.prog 13 os) #[.slice none 0 0] 8 rfl (World.shaped_of_RefB (by kernel_rfl) (by kernel_rfl)) (by kernel_rfl) (by kernel_rfl) (by kernel_rfl) (door_met os _)) ?_
  intro W base args ds gs before hval0 hW _ _ hL _
  have hval : ∀ (j : Nat) t v, Tryd.f3.params[j]? = some t → args[j]? = some v → Value.okWide Tryd.prog W .any base t v := hval0
  have hW' := hW
  obtain ⟨p, q, hA0, hV0, rfl, hfz, hnd⟩ := hW
  have hA : DataW.TrodAll enc Tryd.prog W 0 (fun _ => true) true Tryd.f3.params.toList args.toList ds p := hA0
  have hV : DataW.TrodVars enc Tryd.prog W (fun _ => true) ["given.example/pub-villanelle/pub/xxhash.prime1v"] gs q := hV0
  rw [Tryd.params3] at hA hval
  replace hL : laidMet Tryd.prog Rows.fnXXHashRow.laid W := by
    have h := hL
    rw [MakeChecks.laidMetH_plain _ _ _ (by kernel_rfl)] at h
    exact h
  obtain ⟨v0, vs0, d0, ds0, p0, q0, hargs, rfl, rfl, h0, r0⟩ := trodAll_cons hA
  obtain ⟨rfl, rfl, rfl⟩ := trodAll_nil r0
  obtain rfl : args = #[v0] := by cases args; simp_all
  have hv0 := laid_u64 hL gl0 gt0 Tryd.underlying23
  have hc0 : W.cell? ⟨0, 0, none⟩ = some (.int .u64 11400714785074694791) := by simpa using World.var?_cell gl0 hv0 0
  have vread : ∀ (W2 : World) (sp : Nat → Bool), W2.var? Tryd.prog "given.example/pub-villanelle/pub/xxhash.prime1v" = some #[.int .u64 11400714785074694791] → DataW.TrodVars enc Tryd.prog W2 sp ["given.example/pub-villanelle/pub/xxhash.prime1v"] [.lit (.int .u64 11400714785074694791)] [.cell 0 0] := fun W2 sp g0 => ⟨0, 23, _, 1, _, _, gl0, gt0, g0, (trod_u64 Tryd.underlying23 (by decide)), rfl, rfl⟩
  obtain ⟨rfl, rfl⟩ := hV.unique (vread W _ hv0)
  have lt0 : ∀ x ∈ p0, x.block < W.heap.size := fun x hx => by simpa using hW'.lt x (by simp [hx])
  clear hA0 hval0
  refine (rowXXHash v0 W (hval 0 22 v0 rfl rfl) h0 lt0 hc0).mono fun e W' ⟨he, bel⟩ => ?_
  subst he
  have keptV : ∀ {n : String} {cs : Array Value}, W.var? Tryd.prog n = some cs → W'.var? Tryd.prog n = some cs := fun h => var_below h bel
  exact ⟨_, rfl, _, _, _, [], _, _, hW', trodAll_mk1 (shut_bool Tryd.underlying4 _), (trodAll_cons_mk (Below.trod laidOut (by kernel_rfl) (of_decide_eq_true (by kernel_rfl)) h0 bel lt0) trodAll_mk0), (vread _ _ (keptV hv0)), bel.frame _, fun h => by cases h⟩
theorem over : Rows.fnXXHashRow.holds Tryd.pinned (OpenSpec.ofChange Rows.fnXXHashSpec) :=
  OpenClaim.holds_of_wide 3 Tryd.f3 rfl rfl rfl rfl rfl rfl rfl ⟨rfl, rfl, rfl, rfl, rfl⟩ rfl rfl rfl rfl rfl (by kernel_rfl) Tryd.func3 (by kernel_rfl)
    (of_decide_eq_true (by kernel_rfl)) (by unfold Func.isWrapper; first | (rw [if_pos (by decide +kernel)]; kernel_rfl) | (rw [if_neg (by decide +kernel)]; exact ⟨rfl, rfl⟩))
    (fun os started H enc _ => lifted os started H enc)
theorem proved : Rows.FnXXHashSaid := over
theorem card : Claim7.holds Tryd.pinned (.plain (OpenSpec.ofChange Rows.fnXXHashSpec)) Rows.fnXXHashCard :=
  Claim7.holds_tied_plain_at .later [] [.data] true (true, "827fcd0b72b87aac385476d0a364a76a2866fe1746215d6ecfd15479bcc63b28") false
    proved (fun _ h => by cases h) (by kernel_rfl) (fun _ h => by cases h) fnXXHash_row_tie rfl ⟨rfl, rfl⟩ (by kernel_rfl) rfl
    (fun f fn hf hfn => by
      obtain rfl : f = 3 := Option.some.inj ((show Tryd.prog.funcNamed "given.example/pub-villanelle/laws.FnXXHash" = some 3 by kernel_rfl).symm.trans hf) |>.symm
      obtain rfl : fn = Tryd.f3 := (Option.some.inj (Tryd.func3.symm.trans hfn)).symm
      exact ⟨by kernel_rfl, fun j t ht => by
        rw [Tryd.params3] at ht
        have hm : t ∈ [22] := by simpa using Array.mem_of_getElem? ht
        have hall : ([22].all fun u => !Tryd.prog.wantsStandIn u) = true := by kernel_rfl
        exact (show Tryd.prog.wantsStandIn t = false by simpa using List.all_eq_true.1 hall t hm)⟩)
    (by kernel_rfl)
#print axioms card
end Go.Proofs.YtikjncdomgkcjaaDoor.fnXXHash
namespace Go.Proofs.YtikjncdomgkcjaaDoor
/-- The card, under a short name, for the claim. -/
theorem fnXXHashCard_holds : Rows.FnXXHashCardSaid := fnXXHash.card
end Go.Proofs.YtikjncdomgkcjaaDoor
