/-
  No cell of these rows narrows 'for every input' (looked for: loops, veiled, ifaces, maps, wideKeys, modest, calm, conditions, laid).
  DERIVED. THE GIVEN ROWS OF THIS SEAT. 10 by the template 'for every input the law returns true; each argument reads behind the call as it read before'; 0 by the template 'total and deterministic' (their statements: YtkfkcinkkgdebaaTotals.lean).
  GIVEN WITH THE SEED: the statements are not yours to turn. If you find one false, say at which input.
  Laid BY PROGRAM, IN A SANDBOX (cutbox-rows.mjs): the forced cells as the released guide's own fill.sh prints them over the translation 0651dfce369fb7c5… (all of the seat's roots in one cut). By AI agents, Wed Nov 11 2026. No macro, syntax, notation, axiom, sorry.
-/
import Derived.Test.YtkfkcinkkgdebaaChecked
import GoSem.Claim
import GoSem.ClaimJoined
import GoSem.ClaimMapViews
import Derived.JoinedTies
import Derived.KernelRfl
namespace Go.Proofs.Ytkfkcinkkgdebaa
/- THE CELL 'sum', in the pinned program and in every row, IS THE sha256 OF THE DUMP (.gsa) THAT YtkfkcinkkgdebaaProg.lean LOADS. Nothing in Lean hashes anything: it is a label: what it is worth is what the hold of that sum in a sandbox is worth. -/
noncomputable def Try.pinned : Pinned := { name := "ytkfkcinkkgdebaa", sum := "0651dfce369fb7c54ac84fc62cce4e006a6e749838aa6eabbd6f19156227aff3", checked := Try.checked }
namespace Rows
def none {H : Type} : Left H := { results := [], args := [] }

/-- 'laws.FnQueueEmptied': WHATEVER THE INPUT: true; the input reads as it did. -/
def fnQueueEmptiedSpec : ChangeSpec := { name := "fnQueueEmptied", fn := fun _ => fun
  | [d1, d2, d3] => { results := [.lit (.bool true)], args := [d1, d2, d3] }
  | _ => none }
def fnQueueEmptiedRow : OpenClaim := { program := "ytkfkcinkkgdebaa", sum := "0651dfce369fb7c54ac84fc62cce4e006a6e749838aa6eabbd6f19156227aff3", func := "given.example/pub-villanelle/laws.FnQueueEmptied", spec := "fnQueueEmptied", unfollowed := true, recurses := true, apart := false }
def FnQueueEmptiedSaid : Prop := fnQueueEmptiedRow.holds Try.pinned (OpenSpec.ofChange fnQueueEmptiedSpec)

/-- ITS FALSE NEIGHBOUR: 'it returns false'. Refute it at one input. -/
def fnQueueEmptiedWrong : ChangeSpec := { name := "fnQueueEmptied", fn := fun _ => fun
  | [d1, d2, d3] => { results := [.lit (.bool false)], args := [d1, d2, d3] }
  | _ => none }
def FnQueueEmptiedWrongFalsely : Prop := fnQueueEmptiedRow.holds Try.pinned (OpenSpec.ofChange fnQueueEmptiedWrong)

/-- 'laws.FnQueueGets': WHATEVER THE INPUT: true; the input reads as it did. -/
def fnQueueGetsSpec : ChangeSpec := { name := "fnQueueGets", fn := fun _ => fun
  | [d1, d2, d3] => { results := [.lit (.bool true)], args := [d1, d2, d3] }
  | _ => none }
def fnQueueGetsRow : OpenClaim := { program := "ytkfkcinkkgdebaa", sum := "0651dfce369fb7c54ac84fc62cce4e006a6e749838aa6eabbd6f19156227aff3", func := "given.example/pub-villanelle/laws.FnQueueGets", spec := "fnQueueGets", unfollowed := true, recurses := true, apart := false }
def FnQueueGetsSaid : Prop := fnQueueGetsRow.holds Try.pinned (OpenSpec.ofChange fnQueueGetsSpec)

/-- ITS FALSE NEIGHBOUR: 'it returns false'. Refute it at one input. -/
def fnQueueGetsWrong : ChangeSpec := { name := "fnQueueGets", fn := fun _ => fun
  | [d1, d2, d3] => { results := [.lit (.bool false)], args := [d1, d2, d3] }
  | _ => none }
def FnQueueGetsWrongFalsely : Prop := fnQueueGetsRow.holds Try.pinned (OpenSpec.ofChange fnQueueGetsWrong)

/-- 'laws.FnQueueList': WHATEVER THE INPUT: true; the input reads as it did. -/
def fnQueueListSpec : ChangeSpec := { name := "fnQueueList", fn := fun _ => fun
  | [d1, d2, d3] => { results := [.lit (.bool true)], args := [d1, d2, d3] }
  | _ => none }
def fnQueueListRow : OpenClaim := { program := "ytkfkcinkkgdebaa", sum := "0651dfce369fb7c54ac84fc62cce4e006a6e749838aa6eabbd6f19156227aff3", func := "given.example/pub-villanelle/laws.FnQueueList", spec := "fnQueueList", unfollowed := true, recurses := true, apart := false }
def FnQueueListSaid : Prop := fnQueueListRow.holds Try.pinned (OpenSpec.ofChange fnQueueListSpec)

/-- ITS FALSE NEIGHBOUR: 'it returns false'. Refute it at one input. -/
def fnQueueListWrong : ChangeSpec := { name := "fnQueueList", fn := fun _ => fun
  | [d1, d2, d3] => { results := [.lit (.bool false)], args := [d1, d2, d3] }
  | _ => none }
def FnQueueListWrongFalsely : Prop := fnQueueListRow.holds Try.pinned (OpenSpec.ofChange fnQueueListWrong)

/-- 'laws.FnQueueReset': WHATEVER THE INPUT: true; the input reads as it did. -/
def fnQueueResetSpec : ChangeSpec := { name := "fnQueueReset", fn := fun _ => fun
  | [d1, d2, d3, d4] => { results := [.lit (.bool true)], args := [d1, d2, d3, d4] }
  | _ => none }
def fnQueueResetRow : OpenClaim := { program := "ytkfkcinkkgdebaa", sum := "0651dfce369fb7c54ac84fc62cce4e006a6e749838aa6eabbd6f19156227aff3", func := "given.example/pub-villanelle/laws.FnQueueReset", spec := "fnQueueReset", unfollowed := true, recurses := true, apart := false }
def FnQueueResetSaid : Prop := fnQueueResetRow.holds Try.pinned (OpenSpec.ofChange fnQueueResetSpec)

/-- ITS FALSE NEIGHBOUR: 'it returns false'. Refute it at one input. -/
def fnQueueResetWrong : ChangeSpec := { name := "fnQueueReset", fn := fun _ => fun
  | [d1, d2, d3, d4] => { results := [.lit (.bool false)], args := [d1, d2, d3, d4] }
  | _ => none }
def FnQueueResetWrongFalsely : Prop := fnQueueResetRow.holds Try.pinned (OpenSpec.ofChange fnQueueResetWrong)

/-- 'laws.FnFnvParts': WHATEVER THE INPUT: true; the input reads as it did. -/
def fnFnvPartsSpec : ChangeSpec := { name := "fnFnvParts", fn := fun _ => fun
  | [d1, d2] => { results := [.lit (.bool true)], args := [d1, d2] }
  | _ => none }
def fnFnvPartsRow : OpenClaim := { program := "ytkfkcinkkgdebaa", sum := "0651dfce369fb7c54ac84fc62cce4e006a6e749838aa6eabbd6f19156227aff3", func := "given.example/pub-villanelle/laws.FnFnvParts", spec := "fnFnvParts", unfollowed := true, recurses := true, apart := false }
def FnFnvPartsSaid : Prop := fnFnvPartsRow.holds Try.pinned (OpenSpec.ofChange fnFnvPartsSpec)

/-- ITS FALSE NEIGHBOUR: 'it returns false'. Refute it at one input. -/
def fnFnvPartsWrong : ChangeSpec := { name := "fnFnvParts", fn := fun _ => fun
  | [d1, d2] => { results := [.lit (.bool false)], args := [d1, d2] }
  | _ => none }
def FnFnvPartsWrongFalsely : Prop := fnFnvPartsRow.holds Try.pinned (OpenSpec.ofChange fnFnvPartsWrong)

/-- 'laws.FnQueueLaid': WHATEVER THE INPUT: true; the input reads as it did. -/
def fnQueueLaidSpec : ChangeSpec := { name := "fnQueueLaid", fn := fun _ => fun
  | [d1, d2, d3, d4] => { results := [.lit (.bool true)], args := [d1, d2, d3, d4] }
  | _ => none }
def fnQueueLaidRow : OpenClaim := { program := "ytkfkcinkkgdebaa", sum := "0651dfce369fb7c54ac84fc62cce4e006a6e749838aa6eabbd6f19156227aff3", func := "given.example/pub-villanelle/laws.FnQueueLaid", spec := "fnQueueLaid", unfollowed := true, recurses := true, apart := false }
def FnQueueLaidSaid : Prop := fnQueueLaidRow.holds Try.pinned (OpenSpec.ofChange fnQueueLaidSpec)

/-- ITS FALSE NEIGHBOUR: 'it returns false'. Refute it at one input. -/
def fnQueueLaidWrong : ChangeSpec := { name := "fnQueueLaid", fn := fun _ => fun
  | [d1, d2, d3, d4] => { results := [.lit (.bool false)], args := [d1, d2, d3, d4] }
  | _ => none }
def FnQueueLaidWrongFalsely : Prop := fnQueueLaidRow.holds Try.pinned (OpenSpec.ofChange fnQueueLaidWrong)

/-- 'laws.FnQueueSteps': WHATEVER THE INPUT: true; the input reads as it did. -/
def fnQueueStepsSpec : ChangeSpec := { name := "fnQueueSteps", fn := fun _ => fun
  | [d1, d2, d3] => { results := [.lit (.bool true)], args := [d1, d2, d3] }
  | _ => none }
def fnQueueStepsRow : OpenClaim := { program := "ytkfkcinkkgdebaa", sum := "0651dfce369fb7c54ac84fc62cce4e006a6e749838aa6eabbd6f19156227aff3", func := "given.example/pub-villanelle/laws.FnQueueSteps", spec := "fnQueueSteps", unfollowed := true, recurses := true, apart := false }
def FnQueueStepsSaid : Prop := fnQueueStepsRow.holds Try.pinned (OpenSpec.ofChange fnQueueStepsSpec)

/-- ITS FALSE NEIGHBOUR: 'it returns false'. Refute it at one input. -/
def fnQueueStepsWrong : ChangeSpec := { name := "fnQueueSteps", fn := fun _ => fun
  | [d1, d2, d3] => { results := [.lit (.bool false)], args := [d1, d2, d3] }
  | _ => none }
def FnQueueStepsWrongFalsely : Prop := fnQueueStepsRow.holds Try.pinned (OpenSpec.ofChange fnQueueStepsWrong)

/-- 'laws.FnQueueRoom': WHATEVER THE INPUT: true; the input reads as it did. -/
def fnQueueRoomSpec : ChangeSpec := { name := "fnQueueRoom", fn := fun _ => fun
  | [d1, d2, d3, d4] => { results := [.lit (.bool true)], args := [d1, d2, d3, d4] }
  | _ => none }
def fnQueueRoomRow : OpenClaim := { program := "ytkfkcinkkgdebaa", sum := "0651dfce369fb7c54ac84fc62cce4e006a6e749838aa6eabbd6f19156227aff3", func := "given.example/pub-villanelle/laws.FnQueueRoom", spec := "fnQueueRoom", unfollowed := true, recurses := true, apart := false }
def FnQueueRoomSaid : Prop := fnQueueRoomRow.holds Try.pinned (OpenSpec.ofChange fnQueueRoomSpec)

/-- ITS FALSE NEIGHBOUR: 'it returns false'. Refute it at one input. -/
def fnQueueRoomWrong : ChangeSpec := { name := "fnQueueRoom", fn := fun _ => fun
  | [d1, d2, d3, d4] => { results := [.lit (.bool false)], args := [d1, d2, d3, d4] }
  | _ => none }
def FnQueueRoomWrongFalsely : Prop := fnQueueRoomRow.holds Try.pinned (OpenSpec.ofChange fnQueueRoomWrong)

/-- 'laws.FnUnwrap': WHATEVER THE INPUT: true; the input reads as it did. -/
def fnUnwrapSpec : ChangeSpec := { name := "fnUnwrap", fn := fun _ => fun
  | [d1, d2, d3, d4] => { results := [.lit (.bool true)], args := [d1, d2, d3, d4] }
  | _ => none }
def fnUnwrapRow : OpenClaim := { program := "ytkfkcinkkgdebaa", sum := "0651dfce369fb7c54ac84fc62cce4e006a6e749838aa6eabbd6f19156227aff3", func := "given.example/pub-villanelle/laws.FnUnwrap", spec := "fnUnwrap", unfollowed := true, recurses := true, named := ["encoding/binary.LittleEndian"], apart := false }
def FnUnwrapSaid : Prop := fnUnwrapRow.holds Try.pinned (OpenSpec.ofChange fnUnwrapSpec)

/-- ITS FALSE NEIGHBOUR: 'it returns false'. Refute it at one input. -/
def fnUnwrapWrong : ChangeSpec := { name := "fnUnwrap", fn := fun _ => fun
  | [d1, d2, d3, d4] => { results := [.lit (.bool false)], args := [d1, d2, d3, d4] }
  | _ => none }
def FnUnwrapWrongFalsely : Prop := fnUnwrapRow.holds Try.pinned (OpenSpec.ofChange fnUnwrapWrong)

/-- 'laws.FnWrapTwice': WHATEVER THE INPUT: true; the input reads as it did. -/
def fnWrapTwiceSpec : ChangeSpec := { name := "fnWrapTwice", fn := fun _ => fun
  | [d1, d2, d3, d4, d5, d6, d7] => { results := [.lit (.bool true)], args := [d1, d2, d3, d4, d5, d6, d7] }
  | _ => none }
def fnWrapTwiceRow : OpenClaim := { program := "ytkfkcinkkgdebaa", sum := "0651dfce369fb7c54ac84fc62cce4e006a6e749838aa6eabbd6f19156227aff3", func := "given.example/pub-villanelle/laws.FnWrapTwice", spec := "fnWrapTwice", unfollowed := true, recurses := true, named := ["encoding/binary.LittleEndian"], apart := false }
def FnWrapTwiceSaid : Prop := fnWrapTwiceRow.holds Try.pinned (OpenSpec.ofChange fnWrapTwiceSpec)

/-- ITS FALSE NEIGHBOUR: 'it returns false'. Refute it at one input. -/
def fnWrapTwiceWrong : ChangeSpec := { name := "fnWrapTwice", fn := fun _ => fun
  | [d1, d2, d3, d4, d5, d6, d7] => { results := [.lit (.bool false)], args := [d1, d2, d3, d4, d5, d6, d7] }
  | _ => none }
def FnWrapTwiceWrongFalsely : Prop := fnWrapTwiceRow.holds Try.pinned (OpenSpec.ofChange fnWrapTwiceWrong)

/- THE SECOND FORM. 'bulk': how many values and letters a reading holds, each counted each time it is reached (what is shared counts as often as it is met; a slice's spare places count too). A statement '..UptoSaid' is the law's where the arguments, and the package variables that the reading takes, are together of bulk at most 1048576: NARROWER than '..Said'. Prove '..Said' where nothing that the law and all that it calls make is longer than what came in: it says more and counts as full. Else prove '..UptoSaid'. A law counts once. -/
mutual
def uptoBulk {H : Type} : DataW H → Nat
  | .lit (.string bytes) => bytes.length + 1
  | .lit _ => 1
  | .nil => 1
  | .ptr d => uptoBulk d + 1
  | .slice elems spare => uptoBulkAll elems + uptoBulkAll spare + 1
  | .agg parts => uptoBulkAll parts + 1
  | .iface _ d => uptoBulk d + 1
  | .map entries => uptoBulkEntries entries + 1
  | .held _ => 1
def uptoBulkAll {H : Type} : List (DataW H) → Nat
  | [] => 0
  | d :: r => uptoBulk d + uptoBulkAll r
def uptoBulkEntries {H : Type} : List (Lit × DataW H) → Nat
  | [] => 0
  | x :: r => uptoBulkEntry x + uptoBulkEntries r
def uptoBulkEntry {H : Type} : Lit × DataW H → Nat
  | (.string bytes, d) => bytes.length + uptoBulk d + 1
  | (_, d) => uptoBulk d + 1
 end
def uptoSmall : (H : Type) → List (DataW H) → Bool := fun _ ds => decide (uptoBulkAll ds ≤ 1048576)
def OpenSpec.upto (s : _root_.Go.ChangeSpec) : _root_.Go.OpenSpec := { _root_.Go.OpenSpec.ofChange s with cond := some uptoSmall }

/-- 'laws.FnQueueEmptied', WHERE WHAT IT READS IS OF BULK AT MOST 1048576: true; the input reads as it did. -/
def fnQueueEmptiedUptoRow : OpenClaim := { program := "ytkfkcinkkgdebaa", sum := "0651dfce369fb7c54ac84fc62cce4e006a6e749838aa6eabbd6f19156227aff3", func := "given.example/pub-villanelle/laws.FnQueueEmptied", spec := "fnQueueEmptied", unfollowed := true, recurses := true, apart := false, narrowed := true }
def FnQueueEmptiedUptoSaid : Prop := fnQueueEmptiedUptoRow.holds Try.pinned (OpenSpec.upto fnQueueEmptiedSpec)

/-- 'laws.FnQueueGets', WHERE WHAT IT READS IS OF BULK AT MOST 1048576: true; the input reads as it did. -/
def fnQueueGetsUptoRow : OpenClaim := { program := "ytkfkcinkkgdebaa", sum := "0651dfce369fb7c54ac84fc62cce4e006a6e749838aa6eabbd6f19156227aff3", func := "given.example/pub-villanelle/laws.FnQueueGets", spec := "fnQueueGets", unfollowed := true, recurses := true, apart := false, narrowed := true }
def FnQueueGetsUptoSaid : Prop := fnQueueGetsUptoRow.holds Try.pinned (OpenSpec.upto fnQueueGetsSpec)

/-- 'laws.FnQueueList', WHERE WHAT IT READS IS OF BULK AT MOST 1048576: true; the input reads as it did. -/
def fnQueueListUptoRow : OpenClaim := { program := "ytkfkcinkkgdebaa", sum := "0651dfce369fb7c54ac84fc62cce4e006a6e749838aa6eabbd6f19156227aff3", func := "given.example/pub-villanelle/laws.FnQueueList", spec := "fnQueueList", unfollowed := true, recurses := true, apart := false, narrowed := true }
def FnQueueListUptoSaid : Prop := fnQueueListUptoRow.holds Try.pinned (OpenSpec.upto fnQueueListSpec)

/-- 'laws.FnQueueReset', WHERE WHAT IT READS IS OF BULK AT MOST 1048576: true; the input reads as it did. -/
def fnQueueResetUptoRow : OpenClaim := { program := "ytkfkcinkkgdebaa", sum := "0651dfce369fb7c54ac84fc62cce4e006a6e749838aa6eabbd6f19156227aff3", func := "given.example/pub-villanelle/laws.FnQueueReset", spec := "fnQueueReset", unfollowed := true, recurses := true, apart := false, narrowed := true }
def FnQueueResetUptoSaid : Prop := fnQueueResetUptoRow.holds Try.pinned (OpenSpec.upto fnQueueResetSpec)

/-- 'laws.FnFnvParts', WHERE WHAT IT READS IS OF BULK AT MOST 1048576: true; the input reads as it did. -/
def fnFnvPartsUptoRow : OpenClaim := { program := "ytkfkcinkkgdebaa", sum := "0651dfce369fb7c54ac84fc62cce4e006a6e749838aa6eabbd6f19156227aff3", func := "given.example/pub-villanelle/laws.FnFnvParts", spec := "fnFnvParts", unfollowed := true, recurses := true, apart := false, narrowed := true }
def FnFnvPartsUptoSaid : Prop := fnFnvPartsUptoRow.holds Try.pinned (OpenSpec.upto fnFnvPartsSpec)

/-- 'laws.FnQueueLaid', WHERE WHAT IT READS IS OF BULK AT MOST 1048576: true; the input reads as it did. -/
def fnQueueLaidUptoRow : OpenClaim := { program := "ytkfkcinkkgdebaa", sum := "0651dfce369fb7c54ac84fc62cce4e006a6e749838aa6eabbd6f19156227aff3", func := "given.example/pub-villanelle/laws.FnQueueLaid", spec := "fnQueueLaid", unfollowed := true, recurses := true, apart := false, narrowed := true }
def FnQueueLaidUptoSaid : Prop := fnQueueLaidUptoRow.holds Try.pinned (OpenSpec.upto fnQueueLaidSpec)

/-- 'laws.FnQueueSteps', WHERE WHAT IT READS IS OF BULK AT MOST 1048576: true; the input reads as it did. -/
def fnQueueStepsUptoRow : OpenClaim := { program := "ytkfkcinkkgdebaa", sum := "0651dfce369fb7c54ac84fc62cce4e006a6e749838aa6eabbd6f19156227aff3", func := "given.example/pub-villanelle/laws.FnQueueSteps", spec := "fnQueueSteps", unfollowed := true, recurses := true, apart := false, narrowed := true }
def FnQueueStepsUptoSaid : Prop := fnQueueStepsUptoRow.holds Try.pinned (OpenSpec.upto fnQueueStepsSpec)

/-- 'laws.FnQueueRoom', WHERE WHAT IT READS IS OF BULK AT MOST 1048576: true; the input reads as it did. -/
def fnQueueRoomUptoRow : OpenClaim := { program := "ytkfkcinkkgdebaa", sum := "0651dfce369fb7c54ac84fc62cce4e006a6e749838aa6eabbd6f19156227aff3", func := "given.example/pub-villanelle/laws.FnQueueRoom", spec := "fnQueueRoom", unfollowed := true, recurses := true, apart := false, narrowed := true }
def FnQueueRoomUptoSaid : Prop := fnQueueRoomUptoRow.holds Try.pinned (OpenSpec.upto fnQueueRoomSpec)

/-- 'laws.FnUnwrap', WHERE WHAT IT READS IS OF BULK AT MOST 1048576: true; the input reads as it did. -/
def fnUnwrapUptoRow : OpenClaim := { program := "ytkfkcinkkgdebaa", sum := "0651dfce369fb7c54ac84fc62cce4e006a6e749838aa6eabbd6f19156227aff3", func := "given.example/pub-villanelle/laws.FnUnwrap", spec := "fnUnwrap", unfollowed := true, recurses := true, named := ["encoding/binary.LittleEndian"], apart := false, narrowed := true }
def FnUnwrapUptoSaid : Prop := fnUnwrapUptoRow.holds Try.pinned (OpenSpec.upto fnUnwrapSpec)

/-- 'laws.FnWrapTwice', WHERE WHAT IT READS IS OF BULK AT MOST 1048576: true; the input reads as it did. -/
def fnWrapTwiceUptoRow : OpenClaim := { program := "ytkfkcinkkgdebaa", sum := "0651dfce369fb7c54ac84fc62cce4e006a6e749838aa6eabbd6f19156227aff3", func := "given.example/pub-villanelle/laws.FnWrapTwice", spec := "fnWrapTwice", unfollowed := true, recurses := true, named := ["encoding/binary.LittleEndian"], apart := false, narrowed := true }
def FnWrapTwiceUptoSaid : Prop := fnWrapTwiceUptoRow.holds Try.pinned (OpenSpec.upto fnWrapTwiceSpec)

end Rows
end Go.Proofs.Ytkfkcinkkgdebaa
