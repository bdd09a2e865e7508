/-
  No cell of these rows narrows 'for every input' (looked for: loops, veiled, ifaces, maps, wideKeys, modest, calm, conditions, laid).
  DERIVED. THE GIVEN ROWS OF THIS SEAT. 11 by the template 'for every input the law returns true; each argument reads behind the call as it read before'; 0 by the template 'total and deterministic' (their statements: YtehfdefpajjmaaaTotals.lean).
  GIVEN WITH THE SEED: the statements are not yours to turn. If you find one false, say at which input.
  Laid BY PROGRAM, IN A SANDBOX (cutbox-rows.mjs): the forced cells as the released guide's own fill.sh prints them over the translation 639c73ade94e4579… (all of the seat's roots in one cut). By AI agents, Wed Nov 11 2026. No macro, syntax, notation, axiom, sorry.
-/
import Derived.Test.YtehfdefpajjmaaaChecked
import GoSem.Claim
import GoSem.ClaimJoined
import GoSem.ClaimMapViews
import Derived.JoinedTies
import Derived.KernelRfl
namespace Go.Proofs.Ytehfdefpajjmaaa
/- THE CELL 'sum', in the pinned program and in every row, IS THE sha256 OF THE DUMP (.gsa) THAT YtehfdefpajjmaaaProg.lean LOADS. Nothing in Lean hashes anything: it is a label: what it is worth is what the hold of that sum in a sandbox is worth. -/
noncomputable def Try.pinned : Pinned := { name := "ytehfdefpajjmaaa", sum := "639c73ade94e45793632dc69a24e273b8f10c1b2cd9789e3644fad254e11bfcd", checked := Try.checked }
namespace Rows
def none {H : Type} : Left H := { results := [], args := [] }

/-- 'laws.FnFreeExpired': WHATEVER THE INPUT: true; the input reads as it did. -/
def fnFreeExpiredSpec : ChangeSpec := { name := "fnFreeExpired", fn := fun _ => fun
  | [d1, d2] => { results := [.lit (.bool true)], args := [d1, d2] }
  | _ => none }
def fnFreeExpiredRow : OpenClaim := { program := "ytehfdefpajjmaaa", sum := "639c73ade94e45793632dc69a24e273b8f10c1b2cd9789e3644fad254e11bfcd", func := "given.example/pub-villanelle/laws.FnFreeExpired", spec := "fnFreeExpired", apart := false }
def FnFreeExpiredSaid : Prop := fnFreeExpiredRow.holds Try.pinned (OpenSpec.ofChange fnFreeExpiredSpec)

/-- ITS FALSE NEIGHBOUR: 'it returns false'. Refute it at one input. -/
def fnFreeExpiredWrong : ChangeSpec := { name := "fnFreeExpired", fn := fun _ => fun
  | [d1, d2] => { results := [.lit (.bool false)], args := [d1, d2] }
  | _ => none }
def FnFreeExpiredWrongFalsely : Prop := fnFreeExpiredRow.holds Try.pinned (OpenSpec.ofChange fnFreeExpiredWrong)

/-- 'laws.FnPowerOfTwo': WHATEVER THE INPUT: true; the input reads as it did. -/
def fnPowerOfTwoSpec : ChangeSpec := { name := "fnPowerOfTwo", fn := fun _ => fun
  | [d] => { results := [.lit (.bool true)], args := [d] }
  | _ => none }
def fnPowerOfTwoRow : OpenClaim := { program := "ytehfdefpajjmaaa", sum := "639c73ade94e45793632dc69a24e273b8f10c1b2cd9789e3644fad254e11bfcd", func := "given.example/pub-villanelle/laws.FnPowerOfTwo", spec := "fnPowerOfTwo", apart := false }
def FnPowerOfTwoSaid : Prop := fnPowerOfTwoRow.holds Try.pinned (OpenSpec.ofChange fnPowerOfTwoSpec)

/-- ITS FALSE NEIGHBOUR: 'it returns false'. Refute it at one input. -/
def fnPowerOfTwoWrong : ChangeSpec := { name := "fnPowerOfTwo", fn := fun _ => fun
  | [d] => { results := [.lit (.bool false)], args := [d] }
  | _ => none }
def FnPowerOfTwoWrongFalsely : Prop := fnPowerOfTwoRow.holds Try.pinned (OpenSpec.ofChange fnPowerOfTwoWrong)

/-- 'laws.FnFnv': WHATEVER THE INPUT: true; the input reads as it did. -/
def fnFnvSpec : ChangeSpec := { name := "fnFnv", fn := fun _ => fun
  | [d] => { results := [.lit (.bool true)], args := [d] }
  | _ => none }
def fnFnvRow : OpenClaim := { program := "ytehfdefpajjmaaa", sum := "639c73ade94e45793632dc69a24e273b8f10c1b2cd9789e3644fad254e11bfcd", func := "given.example/pub-villanelle/laws.FnFnv", spec := "fnFnv", apart := false }
def FnFnvSaid : Prop := fnFnvRow.holds Try.pinned (OpenSpec.ofChange fnFnvSpec)

/-- ITS FALSE NEIGHBOUR: 'it returns false'. Refute it at one input. -/
def fnFnvWrong : ChangeSpec := { name := "fnFnv", fn := fun _ => fun
  | [d] => { results := [.lit (.bool false)], args := [d] }
  | _ => none }
def FnFnvWrongFalsely : Prop := fnFnvRow.holds Try.pinned (OpenSpec.ofChange fnFnvWrong)

/-- 'laws.FnWrapHasKey': WHATEVER THE INPUT: true; the input reads as it did. -/
def fnWrapHasKeySpec : ChangeSpec := { name := "fnWrapHasKey", fn := fun _ => fun
  | [d1, d2, d3, d4, d5] => { results := [.lit (.bool true)], args := [d1, d2, d3, d4, d5] }
  | _ => none }
def fnWrapHasKeyRow : OpenClaim := { program := "ytehfdefpajjmaaa", sum := "639c73ade94e45793632dc69a24e273b8f10c1b2cd9789e3644fad254e11bfcd", func := "given.example/pub-villanelle/laws.FnWrapHasKey", spec := "fnWrapHasKey", unfollowed := true, recurses := true, named := ["encoding/binary.LittleEndian"], apart := false }
def FnWrapHasKeySaid : Prop := fnWrapHasKeyRow.holds Try.pinned (OpenSpec.ofChange fnWrapHasKeySpec)

/-- ITS FALSE NEIGHBOUR: 'it returns false'. Refute it at one input. -/
def fnWrapHasKeyWrong : ChangeSpec := { name := "fnWrapHasKey", fn := fun _ => fun
  | [d1, d2, d3, d4, d5] => { results := [.lit (.bool false)], args := [d1, d2, d3, d4, d5] }
  | _ => none }
def FnWrapHasKeyWrongFalsely : Prop := fnWrapHasKeyRow.holds Try.pinned (OpenSpec.ofChange fnWrapHasKeyWrong)

/-- 'laws.FnQueueNeeds': WHATEVER THE INPUT: true; the input reads as it did. -/
def fnQueueNeedsSpec : ChangeSpec := { name := "fnQueueNeeds", fn := fun _ => fun
  | [d] => { results := [.lit (.bool true)], args := [d] }
  | _ => none }
def fnQueueNeedsRow : OpenClaim := { program := "ytehfdefpajjmaaa", sum := "639c73ade94e45793632dc69a24e273b8f10c1b2cd9789e3644fad254e11bfcd", func := "given.example/pub-villanelle/laws.FnQueueNeeds", spec := "fnQueueNeeds", apart := false }
def FnQueueNeedsSaid : Prop := fnQueueNeedsRow.holds Try.pinned (OpenSpec.ofChange fnQueueNeedsSpec)

/-- ITS FALSE NEIGHBOUR: 'it returns false'. Refute it at one input. -/
def fnQueueNeedsWrong : ChangeSpec := { name := "fnQueueNeeds", fn := fun _ => fun
  | [d] => { results := [.lit (.bool false)], args := [d] }
  | _ => none }
def FnQueueNeedsWrongFalsely : Prop := fnQueueNeedsRow.holds Try.pinned (OpenSpec.ofChange fnQueueNeedsWrong)

/-- 'laws.FnSlotIndex': WHATEVER THE INPUT: true; the input reads as it did. -/
def fnSlotIndexSpec : ChangeSpec := { name := "fnSlotIndex", fn := fun _ => fun
  | [d1, d2] => { results := [.lit (.bool true)], args := [d1, d2] }
  | _ => none }
def fnSlotIndexRow : OpenClaim := { program := "ytehfdefpajjmaaa", sum := "639c73ade94e45793632dc69a24e273b8f10c1b2cd9789e3644fad254e11bfcd", func := "given.example/pub-villanelle/laws.FnSlotIndex", spec := "fnSlotIndex", apart := false }
def FnSlotIndexSaid : Prop := fnSlotIndexRow.holds Try.pinned (OpenSpec.ofChange fnSlotIndexSpec)

/-- ITS FALSE NEIGHBOUR: 'it returns false'. Refute it at one input. -/
def fnSlotIndexWrong : ChangeSpec := { name := "fnSlotIndex", fn := fun _ => fun
  | [d1, d2] => { results := [.lit (.bool false)], args := [d1, d2] }
  | _ => none }
def FnSlotIndexWrongFalsely : Prop := fnSlotIndexRow.holds Try.pinned (OpenSpec.ofChange fnSlotIndexWrong)

/-- 'laws.FnWrapCleared': WHATEVER THE INPUT: true; the input reads as it did. -/
def fnWrapClearedSpec : ChangeSpec := { name := "fnWrapCleared", fn := fun _ => fun
  | [d1, d2, d3, d4] => { results := [.lit (.bool true)], args := [d1, d2, d3, d4] }
  | _ => none }
def fnWrapClearedRow : OpenClaim := { program := "ytehfdefpajjmaaa", sum := "639c73ade94e45793632dc69a24e273b8f10c1b2cd9789e3644fad254e11bfcd", func := "given.example/pub-villanelle/laws.FnWrapCleared", spec := "fnWrapCleared", unfollowed := true, recurses := true, named := ["encoding/binary.LittleEndian"], apart := false }
def FnWrapClearedSaid : Prop := fnWrapClearedRow.holds Try.pinned (OpenSpec.ofChange fnWrapClearedSpec)

/-- ITS FALSE NEIGHBOUR: 'it returns false'. Refute it at one input. -/
def fnWrapClearedWrong : ChangeSpec := { name := "fnWrapCleared", fn := fun _ => fun
  | [d1, d2, d3, d4] => { results := [.lit (.bool false)], args := [d1, d2, d3, d4] }
  | _ => none }
def FnWrapClearedWrongFalsely : Prop := fnWrapClearedRow.holds Try.pinned (OpenSpec.ofChange fnWrapClearedWrong)

/-- 'laws.FnShardSizes': WHATEVER THE INPUT: true; the input reads as it did. -/
def fnShardSizesSpec : ChangeSpec := { name := "fnShardSizes", fn := fun _ => fun
  | [d1, d2, d3] => { results := [.lit (.bool true)], args := [d1, d2, d3] }
  | _ => none }
def fnShardSizesRow : OpenClaim := { program := "ytehfdefpajjmaaa", sum := "639c73ade94e45793632dc69a24e273b8f10c1b2cd9789e3644fad254e11bfcd", func := "given.example/pub-villanelle/laws.FnShardSizes", spec := "fnShardSizes", apart := false }
def FnShardSizesSaid : Prop := fnShardSizesRow.holds Try.pinned (OpenSpec.ofChange fnShardSizesSpec)

/-- ITS FALSE NEIGHBOUR: 'it returns false'. Refute it at one input. -/
def fnShardSizesWrong : ChangeSpec := { name := "fnShardSizes", fn := fun _ => fun
  | [d1, d2, d3] => { results := [.lit (.bool false)], args := [d1, d2, d3] }
  | _ => none }
def FnShardSizesWrongFalsely : Prop := fnShardSizesRow.holds Try.pinned (OpenSpec.ofChange fnShardSizesWrong)

/-- 'laws.FnHeaderBytes': WHATEVER THE INPUT: true; the input reads as it did. -/
def fnHeaderBytesSpec : ChangeSpec := { name := "fnHeaderBytes", fn := fun _ => fun
  | [d1, d2, d3, d4, d5, d6, d7, d8] => { results := [.lit (.bool true)], args := [d1, d2, d3, d4, d5, d6, d7, d8] }
  | _ => none }
def fnHeaderBytesRow : OpenClaim := { program := "ytehfdefpajjmaaa", sum := "639c73ade94e45793632dc69a24e273b8f10c1b2cd9789e3644fad254e11bfcd", func := "given.example/pub-villanelle/laws.FnHeaderBytes", spec := "fnHeaderBytes", named := ["encoding/binary.LittleEndian"], apart := false }
def FnHeaderBytesSaid : Prop := fnHeaderBytesRow.holds Try.pinned (OpenSpec.ofChange fnHeaderBytesSpec)

/-- ITS FALSE NEIGHBOUR: 'it returns false'. Refute it at one input. -/
def fnHeaderBytesWrong : ChangeSpec := { name := "fnHeaderBytes", fn := fun _ => fun
  | [d1, d2, d3, d4, d5, d6, d7, d8] => { results := [.lit (.bool false)], args := [d1, d2, d3, d4, d5, d6, d7, d8] }
  | _ => none }
def FnHeaderBytesWrongFalsely : Prop := fnHeaderBytesRow.holds Try.pinned (OpenSpec.ofChange fnHeaderBytesWrong)

/-- 'laws.FnWrapMore': WHATEVER THE INPUT: true; the input reads as it did. -/
def fnWrapMoreSpec : ChangeSpec := { name := "fnWrapMore", fn := fun _ => fun
  | [d1, d2, d3, d4, d5, d6, d7] => { results := [.lit (.bool true)], args := [d1, d2, d3, d4, d5, d6, d7] }
  | _ => none }
def fnWrapMoreRow : OpenClaim := { program := "ytehfdefpajjmaaa", sum := "639c73ade94e45793632dc69a24e273b8f10c1b2cd9789e3644fad254e11bfcd", func := "given.example/pub-villanelle/laws.FnWrapMore", spec := "fnWrapMore", unfollowed := true, recurses := true, named := ["encoding/binary.LittleEndian"], apart := false }
def FnWrapMoreSaid : Prop := fnWrapMoreRow.holds Try.pinned (OpenSpec.ofChange fnWrapMoreSpec)

/-- ITS FALSE NEIGHBOUR: 'it returns false'. Refute it at one input. -/
def fnWrapMoreWrong : ChangeSpec := { name := "fnWrapMore", fn := fun _ => fun
  | [d1, d2, d3, d4, d5, d6, d7] => { results := [.lit (.bool false)], args := [d1, d2, d3, d4, d5, d6, d7] }
  | _ => none }
def FnWrapMoreWrongFalsely : Prop := fnWrapMoreRow.holds Try.pinned (OpenSpec.ofChange fnWrapMoreWrong)

/-- 'laws.FnWrap': WHATEVER THE INPUT: true; the input reads as it did. -/
def fnWrapSpec : ChangeSpec := { name := "fnWrap", fn := fun _ => fun
  | [d1, d2, d3, d4, d5] => { results := [.lit (.bool true)], args := [d1, d2, d3, d4, d5] }
  | _ => none }
def fnWrapRow : OpenClaim := { program := "ytehfdefpajjmaaa", sum := "639c73ade94e45793632dc69a24e273b8f10c1b2cd9789e3644fad254e11bfcd", func := "given.example/pub-villanelle/laws.FnWrap", spec := "fnWrap", named := ["encoding/binary.LittleEndian"], apart := false }
def FnWrapSaid : Prop := fnWrapRow.holds Try.pinned (OpenSpec.ofChange fnWrapSpec)

/-- ITS FALSE NEIGHBOUR: 'it returns false'. Refute it at one input. -/
def fnWrapWrong : ChangeSpec := { name := "fnWrap", fn := fun _ => fun
  | [d1, d2, d3, d4, d5] => { results := [.lit (.bool false)], args := [d1, d2, d3, d4, d5] }
  | _ => none }
def FnWrapWrongFalsely : Prop := fnWrapRow.holds Try.pinned (OpenSpec.ofChange fnWrapWrong)

/- THE SECOND FORM. 'bulk': how many values and letters a reading holds, each counted each time it is reached (what is shared counts as often as it is met; a slice's spare places count too). A statement '..UptoSaid' is the law's where the arguments, and the package variables that the reading takes, are together of bulk at most 1048576: NARROWER than '..Said'. Prove '..Said' where nothing that the law and all that it calls make is longer than what came in: it says more and counts as full. Else prove '..UptoSaid'. A law counts once. -/
mutual
def uptoBulk {H : Type} : DataW H → Nat
  | .lit (.string bytes) => bytes.length + 1
  | .lit _ => 1
  | .nil => 1
  | .ptr d => uptoBulk d + 1
  | .slice elems spare => uptoBulkAll elems + uptoBulkAll spare + 1
  | .agg parts => uptoBulkAll parts + 1
  | .iface _ d => uptoBulk d + 1
  | .map entries => uptoBulkEntries entries + 1
  | .held _ => 1
def uptoBulkAll {H : Type} : List (DataW H) → Nat
  | [] => 0
  | d :: r => uptoBulk d + uptoBulkAll r
def uptoBulkEntries {H : Type} : List (Lit × DataW H) → Nat
  | [] => 0
  | x :: r => uptoBulkEntry x + uptoBulkEntries r
def uptoBulkEntry {H : Type} : Lit × DataW H → Nat
  | (.string bytes, d) => bytes.length + uptoBulk d + 1
  | (_, d) => uptoBulk d + 1
 end
def uptoSmall : (H : Type) → List (DataW H) → Bool := fun _ ds => decide (uptoBulkAll ds ≤ 1048576)
def OpenSpec.upto (s : _root_.Go.ChangeSpec) : _root_.Go.OpenSpec := { _root_.Go.OpenSpec.ofChange s with cond := some uptoSmall }

/-- 'laws.FnFreeExpired', WHERE WHAT IT READS IS OF BULK AT MOST 1048576: true; the input reads as it did. -/
def fnFreeExpiredUptoRow : OpenClaim := { program := "ytehfdefpajjmaaa", sum := "639c73ade94e45793632dc69a24e273b8f10c1b2cd9789e3644fad254e11bfcd", func := "given.example/pub-villanelle/laws.FnFreeExpired", spec := "fnFreeExpired", apart := false, narrowed := true }
def FnFreeExpiredUptoSaid : Prop := fnFreeExpiredUptoRow.holds Try.pinned (OpenSpec.upto fnFreeExpiredSpec)

/-- 'laws.FnPowerOfTwo', WHERE WHAT IT READS IS OF BULK AT MOST 1048576: true; the input reads as it did. -/
def fnPowerOfTwoUptoRow : OpenClaim := { program := "ytehfdefpajjmaaa", sum := "639c73ade94e45793632dc69a24e273b8f10c1b2cd9789e3644fad254e11bfcd", func := "given.example/pub-villanelle/laws.FnPowerOfTwo", spec := "fnPowerOfTwo", apart := false, narrowed := true }
def FnPowerOfTwoUptoSaid : Prop := fnPowerOfTwoUptoRow.holds Try.pinned (OpenSpec.upto fnPowerOfTwoSpec)

/-- 'laws.FnFnv', WHERE WHAT IT READS IS OF BULK AT MOST 1048576: true; the input reads as it did. -/
def fnFnvUptoRow : OpenClaim := { program := "ytehfdefpajjmaaa", sum := "639c73ade94e45793632dc69a24e273b8f10c1b2cd9789e3644fad254e11bfcd", func := "given.example/pub-villanelle/laws.FnFnv", spec := "fnFnv", apart := false, narrowed := true }
def FnFnvUptoSaid : Prop := fnFnvUptoRow.holds Try.pinned (OpenSpec.upto fnFnvSpec)

/-- 'laws.FnWrapHasKey', WHERE WHAT IT READS IS OF BULK AT MOST 1048576: true; the input reads as it did. -/
def fnWrapHasKeyUptoRow : OpenClaim := { program := "ytehfdefpajjmaaa", sum := "639c73ade94e45793632dc69a24e273b8f10c1b2cd9789e3644fad254e11bfcd", func := "given.example/pub-villanelle/laws.FnWrapHasKey", spec := "fnWrapHasKey", unfollowed := true, recurses := true, named := ["encoding/binary.LittleEndian"], apart := false, narrowed := true }
def FnWrapHasKeyUptoSaid : Prop := fnWrapHasKeyUptoRow.holds Try.pinned (OpenSpec.upto fnWrapHasKeySpec)

/-- 'laws.FnQueueNeeds', WHERE WHAT IT READS IS OF BULK AT MOST 1048576: true; the input reads as it did. -/
def fnQueueNeedsUptoRow : OpenClaim := { program := "ytehfdefpajjmaaa", sum := "639c73ade94e45793632dc69a24e273b8f10c1b2cd9789e3644fad254e11bfcd", func := "given.example/pub-villanelle/laws.FnQueueNeeds", spec := "fnQueueNeeds", apart := false, narrowed := true }
def FnQueueNeedsUptoSaid : Prop := fnQueueNeedsUptoRow.holds Try.pinned (OpenSpec.upto fnQueueNeedsSpec)

/-- 'laws.FnSlotIndex', WHERE WHAT IT READS IS OF BULK AT MOST 1048576: true; the input reads as it did. -/
def fnSlotIndexUptoRow : OpenClaim := { program := "ytehfdefpajjmaaa", sum := "639c73ade94e45793632dc69a24e273b8f10c1b2cd9789e3644fad254e11bfcd", func := "given.example/pub-villanelle/laws.FnSlotIndex", spec := "fnSlotIndex", apart := false, narrowed := true }
def FnSlotIndexUptoSaid : Prop := fnSlotIndexUptoRow.holds Try.pinned (OpenSpec.upto fnSlotIndexSpec)

/-- 'laws.FnWrapCleared', WHERE WHAT IT READS IS OF BULK AT MOST 1048576: true; the input reads as it did. -/
def fnWrapClearedUptoRow : OpenClaim := { program := "ytehfdefpajjmaaa", sum := "639c73ade94e45793632dc69a24e273b8f10c1b2cd9789e3644fad254e11bfcd", func := "given.example/pub-villanelle/laws.FnWrapCleared", spec := "fnWrapCleared", unfollowed := true, recurses := true, named := ["encoding/binary.LittleEndian"], apart := false, narrowed := true }
def FnWrapClearedUptoSaid : Prop := fnWrapClearedUptoRow.holds Try.pinned (OpenSpec.upto fnWrapClearedSpec)

/-- 'laws.FnShardSizes', WHERE WHAT IT READS IS OF BULK AT MOST 1048576: true; the input reads as it did. -/
def fnShardSizesUptoRow : OpenClaim := { program := "ytehfdefpajjmaaa", sum := "639c73ade94e45793632dc69a24e273b8f10c1b2cd9789e3644fad254e11bfcd", func := "given.example/pub-villanelle/laws.FnShardSizes", spec := "fnShardSizes", apart := false, narrowed := true }
def FnShardSizesUptoSaid : Prop := fnShardSizesUptoRow.holds Try.pinned (OpenSpec.upto fnShardSizesSpec)

/-- 'laws.FnHeaderBytes', WHERE WHAT IT READS IS OF BULK AT MOST 1048576: true; the input reads as it did. -/
def fnHeaderBytesUptoRow : OpenClaim := { program := "ytehfdefpajjmaaa", sum := "639c73ade94e45793632dc69a24e273b8f10c1b2cd9789e3644fad254e11bfcd", func := "given.example/pub-villanelle/laws.FnHeaderBytes", spec := "fnHeaderBytes", named := ["encoding/binary.LittleEndian"], apart := false, narrowed := true }
def FnHeaderBytesUptoSaid : Prop := fnHeaderBytesUptoRow.holds Try.pinned (OpenSpec.upto fnHeaderBytesSpec)

/-- 'laws.FnWrapMore', WHERE WHAT IT READS IS OF BULK AT MOST 1048576: true; the input reads as it did. -/
def fnWrapMoreUptoRow : OpenClaim := { program := "ytehfdefpajjmaaa", sum := "639c73ade94e45793632dc69a24e273b8f10c1b2cd9789e3644fad254e11bfcd", func := "given.example/pub-villanelle/laws.FnWrapMore", spec := "fnWrapMore", unfollowed := true, recurses := true, named := ["encoding/binary.LittleEndian"], apart := false, narrowed := true }
def FnWrapMoreUptoSaid : Prop := fnWrapMoreUptoRow.holds Try.pinned (OpenSpec.upto fnWrapMoreSpec)

/-- 'laws.FnWrap', WHERE WHAT IT READS IS OF BULK AT MOST 1048576: true; the input reads as it did. -/
def fnWrapUptoRow : OpenClaim := { program := "ytehfdefpajjmaaa", sum := "639c73ade94e45793632dc69a24e273b8f10c1b2cd9789e3644fad254e11bfcd", func := "given.example/pub-villanelle/laws.FnWrap", spec := "fnWrap", named := ["encoding/binary.LittleEndian"], apart := false, narrowed := true }
def FnWrapUptoSaid : Prop := fnWrapUptoRow.holds Try.pinned (OpenSpec.upto fnWrapSpec)

end Rows
end Go.Proofs.Ytehfdefpajjmaaa
