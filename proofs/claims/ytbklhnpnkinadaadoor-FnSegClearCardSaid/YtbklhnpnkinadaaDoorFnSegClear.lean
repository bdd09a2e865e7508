/- For every input the law FnSegClear returns true; its arguments read behind the call as before it; the listed variables hold what the program's text lays. -/
import Derived.Test.YtbklhnpnkinadaaDoorRows
import Derived.Test.YtbklhnpnkinadaaDoorTie
import Derived.Test.YtbklhnpnkinadaaDoorCards
import Derived.Test.YtbklhnpnkinadaaDoorK14
import Derived.WalkKit
import Derived.ProofKit
import Derived.OpenShut
import Derived.ShutString
import Derived.ChangeOld
import Derived.Below
import Derived.SizedLaws
import Derived.Carry
import Derived.LaidMore
import Derived.LaidLaws
import Derived.Stop.LaidErr
import Derived.Stop.Joined
import Derived.SevenTiedAt
namespace Go.Proofs.YtbklhnpnkinadaaDoor.fnSegClear
open Go.ChangeShapes Go.WideShapes Go.ChangeAt Go.RowKit Go.Vil
open Go.ChangeMaps (open_string shut_string)
set_option linter.unusedVariables false
theorem own : ownKnob Tryd.prog.godebug = none := by kernel_rfl
theorem laidOut : laidOutB Tryd.prog = true := by kernel_rfl
theorem gl0 : Tryd.prog.globalNamed "io.EOF" = some 1 := by kernel_rfl
theorem gt0 : (Tryd.prog.globals[1]?).map (·.type) = some 112 := by kernel_rfl
theorem gl1 : Tryd.prog.globalNamed "given.example/pub-villanelle/pub/xxhash.prime1v" = some 5 := by kernel_rfl
theorem gt1 : (Tryd.prog.globals[5]?).map (·.type) = some 64 := by kernel_rfl
theorem gl2 : Tryd.prog.globalNamed "given.example/pub-villanelle/pub/freecache.ErrOutOfRange" = some 0 := by kernel_rfl
theorem gt2 : (Tryd.prog.globals[0]?).map (·.type) = some 112 := by kernel_rfl
theorem gl3 : Tryd.prog.globalNamed "given.example/pub-villanelle/pub/freecache.ErrLargeKey" = some 2 := by kernel_rfl
theorem gt3 : (Tryd.prog.globals[2]?).map (·.type) = some 112 := by kernel_rfl
theorem gl4 : Tryd.prog.globalNamed "given.example/pub-villanelle/pub/freecache.ErrLargeEntry" = some 3 := by kernel_rfl
theorem gt4 : (Tryd.prog.globals[3]?).map (·.type) = some 112 := by kernel_rfl
theorem gl5 : Tryd.prog.globalNamed "given.example/pub-villanelle/pub/freecache.ErrNotFound" = some 4 := by kernel_rfl
theorem gt5 : (Tryd.prog.globals[4]?).map (·.type) = some 112 := by kernel_rfl
theorem star : "*" ++ "errors.errorString" = "*errors.errorString" := by decide
theorem rowE (u : TypeId) (h : Tryd.prog.typeName? 3 u = some "*errors.errorString") : u = 180 :=
  typeName_ptr_named (nm := "errors.errorString") (by rw [star]; kernel_rfl) (by kernel_rfl) (by decide) u (by rw [star]; exact h)
theorem cellsE : Tryd.prog.cellsOf 197 = 1 := by kernel_rfl
theorem cellsS : Tryd.prog.cellsOf 9 = 1 := by kernel_rfl
/-- The door's own heap meets the condition. -/
theorem door_met (os : Os) (args : Array Value) : laidMetH Tryd.prog Rows.fnSegClearRow.laid ((World.doorLaid Tryd.prog 108 os).forCall (fun _ _ => 0) ⟨#[], args, []⟩).memory :=
  laidMetH_of_parts3 (fuel := 8) (laidMet_of_run' 8 (by kernel_rfl) (by kernel_rfl)) (by kernel_rfl) (by kernel_rfl)
set_option maxRecDepth 100000 in
theorem lifted (os : Os) (started : os.Started) (H : Type) (enc : TypeId × Value → H) :
    ReturnsInHanded {} Tryd.checked os 6 .any (fun w args => (Rows.fnSegClearSpec.pre enc Tryd.prog Tryd.f6 [] false w args ∧ laidMetH Tryd.prog Rows.fnSegClearRow.laid w) ∧ sizedMet enc Tryd.prog Tryd.f6 (OpenSpec.ofChange Rows.fnSegClearSpec) false w args)
      (Rows.fnSegClearSpec.post enc Tryd.prog Tryd.f6 false true false false) := by
  refine returnsInHanded_of_change_and (C := Tryd.checked) (X := fun w _ => laidMetH Tryd.prog Rows.fnSegClearRow.laid w) (fun _ _ _ hh h => h.of_heap hh) own started (by kernel_rfl) Tryd.func6
    (ChangeSpec.witness_shaped (enc := enc) (C := Tryd.checked) (os := os) (X := fun w _ => laidMetH Tryd.prog Rows.fnSegClearRow.laid w) false (World.doorLaid Tryd.prog 108 os) #[.int .i64 0, .slice none 0 0, .slice none 0 0] 8 rfl (World.shaped_of_RefB (by kernel_rfl) (by kernel_rfl)) (by kernel_rfl) (by kernel_rfl) (by kernel_rfl) (door_met os _)) ?_
  intro W base args ds gs before hval0 hW _ _ hL _
  have hval : ∀ (j : Nat) t v, Tryd.f6.params[j]? = some t → args[j]? = some v → Value.okWide Tryd.prog W .any base t v := hval0
  have hW' := hW
  obtain ⟨p, q, hA0, hV0, rfl, hfz, hnd⟩ := hW
  have hA : DataW.TrodAll enc Tryd.prog W 0 (fun _ => true) true Tryd.f6.params.toList args.toList ds p := hA0
  have hV : DataW.TrodVars enc Tryd.prog W (fun _ => true) ["given.example/pub-villanelle/pub/xxhash.prime1v", "given.example/pub-villanelle/pub/freecache.ErrLargeKey", "given.example/pub-villanelle/pub/freecache.ErrLargeEntry", "given.example/pub-villanelle/pub/freecache.ErrOutOfRange", "given.example/pub-villanelle/pub/freecache.ErrNotFound"] gs q := hV0
  rw [Tryd.params6] at hA hval
  replace hL : laidMet Tryd.prog Rows.fnSegClearRow.laid W := by
    have h := hL
    rw [MakeChecks.laidMetH_plain _ _ _ (by kernel_rfl)] at h
    exact h
  obtain ⟨v0, vs0, d0, ds0, p0, q0, hargs, rfl, rfl, h0, r0⟩ := trodAll_cons hA
  obtain ⟨v1, vs1, d1, ds1, p1, q1, rfl, rfl, rfl, h1, r1⟩ := trodAll_cons r0
  obtain ⟨v2, vs2, d2, ds2, p2, q2, rfl, rfl, rfl, h2, r2⟩ := trodAll_cons r1
  obtain ⟨rfl, rfl, rfl⟩ := trodAll_nil r2
  obtain rfl : args = #[v0, v1, v2] := by cases args; simp_all
  obtain ⟨x0, s0, hv0, _, _, _⟩ := laid_sentinel hL gl0 gt0 Tryd.underlying112 rowE Tryd.underlying180 Tryd.underlying197 rfl rfl Tryd.underlying9 cellsE cellsS
  have hc0 : W.cell? ⟨1, 0, none⟩ = some (.iface 180 (.pointer (some x0))) := by simpa using World.var?_cell gl0 hv0 0
  have hv1 := laid_u64 hL.tail gl1 gt1 Tryd.underlying64
  have hc1 : W.cell? ⟨5, 0, none⟩ = some (.int .u64 11400714785074694791) := by simpa using World.var?_cell gl1 hv1 0
  obtain ⟨x2, s2, hv2, _, _, _⟩ := laid_sentinel hL.tail.tail gl2 gt2 Tryd.underlying112 rowE Tryd.underlying180 Tryd.underlying197 rfl rfl Tryd.underlying9 cellsE cellsS
  have hc2 : W.cell? ⟨0, 0, none⟩ = some (.iface 180 (.pointer (some x2))) := by simpa using World.var?_cell gl2 hv2 0
  obtain ⟨x3, s3, hv3, _, _, _⟩ := laid_sentinel hL.tail.tail.tail gl3 gt3 Tryd.underlying112 rowE Tryd.underlying180 Tryd.underlying197 rfl rfl Tryd.underlying9 cellsE cellsS
  have hc3 : W.cell? ⟨2, 0, none⟩ = some (.iface 180 (.pointer (some x3))) := by simpa using World.var?_cell gl3 hv3 0
  obtain ⟨x4, s4, hv4, _, _, _⟩ := laid_sentinel hL.tail.tail.tail.tail gl4 gt4 Tryd.underlying112 rowE Tryd.underlying180 Tryd.underlying197 rfl rfl Tryd.underlying9 cellsE cellsS
  have hc4 : W.cell? ⟨3, 0, none⟩ = some (.iface 180 (.pointer (some x4))) := by simpa using World.var?_cell gl4 hv4 0
  obtain ⟨x5, s5, hv5, _, _, _⟩ := laid_sentinel hL.tail.tail.tail.tail.tail gl5 gt5 Tryd.underlying112 rowE Tryd.underlying180 Tryd.underlying197 rfl rfl Tryd.underlying9 cellsE cellsS
  have hc5 : W.cell? ⟨4, 0, none⟩ = some (.iface 180 (.pointer (some x5))) := by simpa using World.var?_cell gl5 hv5 0
  have vread : ∀ (W2 : World) (sp : Nat → Bool), W2.var? Tryd.prog "given.example/pub-villanelle/pub/xxhash.prime1v" = some #[.int .u64 11400714785074694791] → W2.var? Tryd.prog "given.example/pub-villanelle/pub/freecache.ErrLargeKey" = some #[.iface 180 (.pointer (some x3))] → W2.var? Tryd.prog "given.example/pub-villanelle/pub/freecache.ErrLargeEntry" = some #[.iface 180 (.pointer (some x4))] → W2.var? Tryd.prog "given.example/pub-villanelle/pub/freecache.ErrOutOfRange" = some #[.iface 180 (.pointer (some x2))] → W2.var? Tryd.prog "given.example/pub-villanelle/pub/freecache.ErrNotFound" = some #[.iface 180 (.pointer (some x5))] → DataW.TrodVars enc Tryd.prog W2 sp ["given.example/pub-villanelle/pub/xxhash.prime1v", "given.example/pub-villanelle/pub/freecache.ErrLargeKey", "given.example/pub-villanelle/pub/freecache.ErrLargeEntry", "given.example/pub-villanelle/pub/freecache.ErrOutOfRange", "given.example/pub-villanelle/pub/freecache.ErrNotFound"] [.lit (.int .u64 11400714785074694791), tok enc (.iface 180 (.pointer (some x3))), tok enc (.iface 180 (.pointer (some x4))), tok enc (.iface 180 (.pointer (some x2))), tok enc (.iface 180 (.pointer (some x5)))] [.cell 5 0, .cell 2 0, .cell 3 0, .cell 0 0, .cell 4 0] := fun W2 sp g1 g3 g4 g2 g5 => ⟨5, 64, _, 1, _, _, gl1, gt1, g1, (trod_u64 Tryd.underlying64 (by decide)), ⟨2, 112, _, 1, _, _, gl3, gt3, g3, trod_held Tryd.underlying112 (by trivial) 0, ⟨3, 112, _, 1, _, _, gl4, gt4, g4, trod_held Tryd.underlying112 (by trivial) 0, ⟨0, 112, _, 1, _, _, gl2, gt2, g2, trod_held Tryd.underlying112 (by trivial) 0, ⟨4, 112, _, 1, _, _, gl5, gt5, g5, trod_held Tryd.underlying112 (by trivial) 0, rfl, rfl⟩, rfl⟩, rfl⟩, rfl⟩, rfl⟩
  obtain ⟨rfl, rfl⟩ := hV.unique (vread W _ hv1 hv3 hv4 hv2 hv5)
  have lt1 : ∀ x ∈ p1, x.block < W.heap.size := fun x hx => by simpa using hW'.lt x (by simp [hx])
  have lt2 : ∀ x ∈ p2, x.block < W.heap.size := fun x hx => by simpa using hW'.lt x (by simp [hx])
  obtain ⟨a0, rfl, rfl, rfl, w0⟩ := open_int Tryd.underlying3 (hval 0 3 v0 rfl rfl) h0
  clear hA0 hval0
  refine (rowSegClear a0 v1 v2 W w0 (hval 1 60 v1 rfl rfl) h1 lt1 (hval 2 60 v2 rfl rfl) h2 lt2 hc0 hc1 hc2 hc3 hc4 hc5).mono fun e W' ⟨he, bel⟩ => ?_
  subst he
  have keptV : ∀ {n : String} {cs : Array Value}, W.var? Tryd.prog n = some cs → W'.var? Tryd.prog n = some cs := fun h => var_below h bel
  exact ⟨_, rfl, _, _, _, [], _, _, hW', trodAll_mk1 (shut_bool Tryd.underlying4 _), (trodAll_cons_mk (shut_int Tryd.underlying3 w0) (trodAll_cons_mk (Below.trod laidOut (by kernel_rfl) (of_decide_eq_true (by kernel_rfl)) h1 bel lt1) (trodAll_cons_mk (Below.trod laidOut (by kernel_rfl) (of_decide_eq_true (by kernel_rfl)) h2 bel lt2) trodAll_mk0))), (vread _ _ (keptV hv1) (keptV hv3) (keptV hv4) (keptV hv2) (keptV hv5)), bel.frame _, fun h => by cases h⟩
theorem over : Rows.fnSegClearRow.holds Tryd.pinned (OpenSpec.ofChange Rows.fnSegClearSpec) :=
  OpenClaim.holds_of_wide 6 Tryd.f6 rfl rfl rfl rfl rfl rfl rfl ⟨rfl, rfl, rfl, rfl, rfl⟩ rfl rfl rfl rfl rfl (by kernel_rfl) Tryd.func6 (by kernel_rfl)
    (of_decide_eq_true (by kernel_rfl)) (by unfold Func.isWrapper; first | (rw [if_pos (by decide +kernel)]; kernel_rfl) | (rw [if_neg (by decide +kernel)]; exact ⟨rfl, rfl⟩))
    (fun os started H enc _ => lifted os started H enc)
theorem proved : Rows.FnSegClearSaid := over
theorem card : Claim7.holds Tryd.pinned (.plain (OpenSpec.ofChange Rows.fnSegClearSpec)) Rows.fnSegClearCard :=
  Claim7.holds_tied_plain_at .later [] [.sentinel, .data, .sentinel, .sentinel, .sentinel, .sentinel] true (true, "5905c0a58b0f78e5f56f250754152f51b9d4c911d35d7e96b1aa5c4ea2adcae2") false
    proved (fun _ h => by cases h) (by kernel_rfl) (fun _ h => by cases h) fnSegClear_row_tie rfl ⟨rfl, rfl⟩ (by kernel_rfl) rfl
    (fun f fn hf hfn => by
      obtain rfl : f = 6 := Option.some.inj ((show Tryd.prog.funcNamed "given.example/pub-villanelle/laws.FnSegClear" = some 6 by kernel_rfl).symm.trans hf) |>.symm
      obtain rfl : fn = Tryd.f6 := (Option.some.inj (Tryd.func6.symm.trans hfn)).symm
      exact ⟨by kernel_rfl, fun j t ht => by
        rw [Tryd.params6] at ht
        have hm : t ∈ [3, 60, 60] := by simpa using Array.mem_of_getElem? ht
        have hall : ([3, 60, 60].all fun u => !Tryd.prog.wantsStandIn u) = true := by kernel_rfl
        exact (show Tryd.prog.wantsStandIn t = false by simpa using List.all_eq_true.1 hall t hm)⟩)
    (by kernel_rfl)
#print axioms card
end Go.Proofs.YtbklhnpnkinadaaDoor.fnSegClear
namespace Go.Proofs.YtbklhnpnkinadaaDoor
/-- The card, under a short name, for the claim. -/
theorem fnSegClearCard_holds : Rows.FnSegClearCardSaid := fnSegClear.card
end Go.Proofs.YtbklhnpnkinadaaDoor
