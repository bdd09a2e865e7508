/- Bytes that are put behind a wrapped entry one after the other are there as if they had been put there together: for keys of less than 65518 bytes (of others, and of more than 2147483647 bytes, nothing is asked). -/
import Derived.Test.YtkfkcinkkgdebaaRows
import Derived.Test.YtkfkcinkkgdebaaWe
import Derived.Test.YtkfkcinkkgdebaaOpen
import Derived.WalkKit
import Derived.ProofKit
import Derived.OpenShut
import Derived.ShutString
import Derived.ChangeOld
import Derived.Below
import Derived.SizedLaws
import Derived.Carry
namespace Go.Proofs.Ytkfkcinkkgdebaa.fnWrapTwice
open Go.ChangeShapes Go.WideShapes Go.ChangeAt Go.RowKit Go.Vil
open Go.ChangeMaps (open_string shut_string)
set_option linter.unusedVariables false
theorem own : ownKnob Try.prog.godebug = none := by kernel_rfl
theorem laidOut : laidOutB Try.prog = true := by kernel_rfl
set_option maxRecDepth 100000 in
theorem lifted (os : Os) (started : os.Started) (H : Type) (enc : TypeId × Value → H) :
    ReturnsInHanded {} Try.checked os 12 .any (Rows.fnWrapTwiceSpec.pre6 enc Try.prog Try.f12 Rows.fnWrapTwiceRow.domain false) (Rows.fnWrapTwiceSpec.post enc Try.prog Try.f12 false true false false) := by
  refine returnsInHanded_of_change_sized (C := Try.checked) own started (by kernel_rfl) Try.func12
    (ChangeSpec.witness6 (enc := enc) (C := Try.checked) false ⟨#[], #[.int .u64 0, .int .u64 0, .string ⟨#[]⟩, .slice none 0 0, .slice none 0 0, .slice none 0 0, .int .u64 0], []⟩ 8 (by kernel_rfl) (by kernel_rfl) (by kernel_rfl) (by kernel_rfl)) ?_
  intro W base args ds gs before hval0 hW hcnd hsz0 _
  have hsz : (DataW.weightsEach Try.prog (Try.f12.params.toList ++ Rows.fnWrapTwiceSpec.plain.varTypes Try.prog) (ds ++ gs)).all (· ≤ reachBytes) = true := hsz0
  have hval : ∀ (j : Nat) t v, Try.f12.params[j]? = some t → args[j]? = some v → Value.okWide Try.prog W .any base t v := hval0
  have hW' := hW
  obtain ⟨p, q, hA0, hV, rfl, hfz, hnd⟩ := hW
  have hA : DataW.TrodAll enc Try.prog W 0 (fun _ => true) true Try.f12.params.toList args.toList ds p := hA0
  rw [Try.params12] at hA hval hsz
  obtain ⟨v0, vs0, d0, ds0, p0, q0, hargs, rfl, rfl, h0, r0⟩ := trodAll_cons hA
  obtain ⟨v1, vs1, d1, ds1, p1, q1, rfl, rfl, rfl, h1, r1⟩ := trodAll_cons r0
  obtain ⟨v2, vs2, d2, ds2, p2, q2, rfl, rfl, rfl, h2, r2⟩ := trodAll_cons r1
  obtain ⟨v3, vs3, d3, ds3, p3, q3, rfl, rfl, rfl, h3, r3⟩ := trodAll_cons r2
  obtain ⟨v4, vs4, d4, ds4, p4, q4, rfl, rfl, rfl, h4, r4⟩ := trodAll_cons r3
  obtain ⟨v5, vs5, d5, ds5, p5, q5, rfl, rfl, rfl, h5, r5⟩ := trodAll_cons r4
  obtain ⟨v6, vs6, d6, ds6, p6, q6, rfl, rfl, rfl, h6, r6⟩ := trodAll_cons r5
  obtain ⟨rfl, rfl, rfl⟩ := trodAll_nil r6
  obtain rfl : args = #[v0, v1, v2, v3, v4, v5, v6] := by cases args; simp_all
  obtain ⟨rfl, rfl⟩ := trodVars_none hV
  have lt3 : ∀ x ∈ p3, x.block < W.heap.size := fun x hx => by simpa using hW'.lt x (by simp [hx])
  have lt4 : ∀ x ∈ p4, x.block < W.heap.size := fun x hx => by simpa using hW'.lt x (by simp [hx])
  have lt5 : ∀ x ∈ p5, x.block < W.heap.size := fun x hx => by simpa using hW'.lt x (by simp [hx])
  obtain ⟨a0, rfl, rfl, rfl, w0⟩ := open_int Try.underlying44 (hval 0 44 v0 rfl rfl) h0
  obtain ⟨a1, rfl, rfl, rfl, w1⟩ := open_int Try.underlying44 (hval 1 44 v1 rfl rfl) h1
  obtain ⟨a2, rfl, rfl, rfl, w2⟩ := open_string Try.underlying9 (hval 2 9 v2 rfl rfl) h2
  obtain ⟨n3, a3, w3, l3, m3⟩ := open_bytes Try.underlying26 Try.underlying5 (by kernel_rfl) (hval 3 26 v3 rfl rfl) h3
  obtain ⟨n4, a4, w4, l4, m4⟩ := open_bytes Try.underlying26 Try.underlying5 (by kernel_rfl) (hval 4 26 v4 rfl rfl) h4
  obtain ⟨n5, a5, w5, l5, m5⟩ := open_bytes Try.underlying26 Try.underlying5 (by kernel_rfl) (hval 5 26 v5 rfl rfl) h5
  obtain ⟨a6, rfl, rfl, rfl, w6⟩ := open_int Try.underlying44 (hval 6 44 v6 rfl rfl) h6
  clear hA0 hval0 hsz0 hsz
  refine (lawTwice a0 a1 a2 v3 n3 a3 v4 n4 a4 v5 n5 a5 a6 W w0 w1 w2 w3 l3 m3 w4 l4 m4 w5 l5 m5 w6).mono fun e W' ⟨he, bel⟩ => ?_
  subst he
  exact ⟨_, rfl, _, _, _, [], _, [], hW', trodAll_mk1 (shut_bool Try.underlying4 _), (trodAll_cons_mk (shut_int Try.underlying44 w0) (trodAll_cons_mk (shut_int Try.underlying44 w1) (trodAll_cons_mk (shut_string Try.underlying9 w2) (trodAll_cons_mk (Below.trod laidOut (by kernel_rfl) (of_decide_eq_true (by kernel_rfl)) h3 bel lt3) (trodAll_cons_mk (Below.trod laidOut (by kernel_rfl) (of_decide_eq_true (by kernel_rfl)) h4 bel lt4) (trodAll_cons_mk (Below.trod laidOut (by kernel_rfl) (of_decide_eq_true (by kernel_rfl)) h5 bel lt5) (trodAll_cons_mk (shut_int Try.underlying44 w6) trodAll_mk0))))))), rfl, bel.frame _, fun h => by cases h⟩
theorem over : Rows.fnWrapTwiceRow.holds Try.pinned (OpenSpec.ofChange Rows.fnWrapTwiceSpec) :=
  OpenClaim.holds_of_wide 12 Try.f12 rfl rfl rfl rfl rfl rfl rfl ⟨rfl, rfl, rfl, rfl, rfl⟩ rfl rfl rfl rfl rfl (by kernel_rfl) Try.func12 (by kernel_rfl)
    (of_decide_eq_true (by kernel_rfl)) (by unfold Func.isWrapper; first | (rw [if_pos (by decide +kernel)]; kernel_rfl) | (rw [if_neg (by decide +kernel)]; exact ⟨rfl, rfl⟩))
    (fun os started H enc _ => lifted os started H enc)
theorem proved : Rows.FnWrapTwiceSaid := over
#print axioms proved
end Go.Proofs.Ytkfkcinkkgdebaa.fnWrapTwice
namespace Go.Proofs.Ytkfkcinkkgdebaa
/-- The row, under a short name, for the claim. -/
theorem fnWrapTwice_holds : Rows.FnWrapTwiceSaid := fnWrapTwice.proved
end Go.Proofs.Ytkfkcinkkgdebaa
