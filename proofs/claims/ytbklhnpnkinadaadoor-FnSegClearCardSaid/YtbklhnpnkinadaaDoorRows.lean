/-
  NARROWER THAN 'FOR EVERY INPUT', by the rows' own cells (each row's printed sentence says how): FnRingStep: ifaces, laid · FnRingDump: ifaces, laid · FnRingRun: ifaces, laid · FnSegClear: ifaces, laid · FnSegClock: ifaces, laid · FnSegPeeks: ifaces, laid.
  DERIVED. THE GIVEN ROWS OF THIS SEAT. 6 by the template 'for every input the law returns true; each argument reads behind the call as it read before'; 0 by the template 'total and deterministic' (their statements: YtbklhnpnkinadaaDoorTotals.lean).
  GIVEN WITH THE SEED: the statements are not yours to turn. If you find one false, say at which input.
  Laid BY PROGRAM, IN A SANDBOX (cutbox-rows.mjs): the forced cells as the released guide's own fill.sh prints them over the translation 530a9a5e7ebf087a… (all of the seat's roots in one cut). By AI agents, Wed Nov 11 2026. No macro, syntax, notation, axiom, sorry.
-/
import Derived.Test.YtbklhnpnkinadaaDoorChecked
import GoSem.Claim
import GoSem.ClaimJoined
import GoSem.ClaimMapViews
import Derived.JoinedTies
import Derived.KernelRfl
namespace Go.Proofs.YtbklhnpnkinadaaDoor
/- THE CELL 'sum', in the pinned program and in every row, IS THE sha256 OF THE DUMP (.gsa) THAT YtbklhnpnkinadaaDoorProg.lean LOADS. Nothing in Lean hashes anything: it is a label: what it is worth is what the hold of that sum in a sandbox is worth. -/
noncomputable def Tryd.pinned : Pinned := { name := "ytbklhnpnkinadaadoor", sum := "530a9a5e7ebf087aca777bd1da01d1c7d11583d5d73753291373502efa8e1390", checked := Tryd.checked }
namespace Rows
def none {H : Type} : Left H := { results := [], args := [] }

/- WHAT THE LISTED PACKAGE-LEVEL VARIABLES READ AS WHEN THE CALL BEGINS. Each datum BY PROGRAM (the guide's laid-datum.mjs) off the statement by which the dump's own 'gosem.cut.vars' lays the variable. In a bare row this is a premise. The card (YtbklhnpnkinadaaDoorCards.lean) ties it to the program's text. -/
def laid_io_EOF {H : Type} : DataW H := .iface "*errors.errorString" (.ptr (.agg [.lit (.string [69, 79, 70])]))
def laid_given_example_pub_villanelle_pub_freecache_ErrOutOfRange {H : Type} : DataW H := .iface "*errors.errorString" (.ptr (.agg [.lit (.string [111, 117, 116, 32, 111, 102, 32, 114, 97, 110, 103, 101])]))
def laid_given_example_pub_villanelle_pub_xxhash_prime1v {H : Type} : DataW H := .lit (.int .u64 11400714785074694791)
def laid_given_example_pub_villanelle_pub_freecache_ErrLargeKey {H : Type} : DataW H := .iface "*errors.errorString" (.ptr (.agg [.lit (.string [84, 104, 101, 32, 107, 101, 121, 32, 105, 115, 32, 108, 97, 114, 103, 101, 114, 32, 116, 104, 97, 110, 32, 54, 53, 53, 51, 53])]))
def laid_given_example_pub_villanelle_pub_freecache_ErrLargeEntry {H : Type} : DataW H := .iface "*errors.errorString" (.ptr (.agg [.lit (.string [84, 104, 101, 32, 101, 110, 116, 114, 121, 32, 115, 105, 122, 101, 32, 105, 115, 32, 108, 97, 114, 103, 101, 114, 32, 116, 104, 97, 110, 32, 49, 47, 49, 48, 50, 52, 32, 111, 102, 32, 99, 97, 99, 104, 101, 32, 115, 105, 122, 101])]))
def laid_given_example_pub_villanelle_pub_freecache_ErrNotFound {H : Type} : DataW H := .iface "*errors.errorString" (.ptr (.agg [.lit (.string [69, 110, 116, 114, 121, 32, 110, 111, 116, 32, 102, 111, 117, 110, 100])]))

/-- 'laws.FnRingStep': WHATEVER THE INPUT: true; the input reads as it did. -/
def fnRingStepSpec : ChangeSpec := { name := "fnRingStep", vars := ["given.example/pub-villanelle/pub/freecache.ErrOutOfRange"], fn := fun _ => fun
  | [d1, d2, g1] => { results := [.lit (.bool true)], args := [d1, d2], vars := [g1] }
  | _ => none }
def fnRingStepRow : OpenClaim := { program := "ytbklhnpnkinadaadoor", sum := "530a9a5e7ebf087aca777bd1da01d1c7d11583d5d73753291373502efa8e1390", func := "given.example/pub-villanelle/laws.FnRingStep", spec := "fnRingStep", unfollowed := true, recurses := true, named := ["given.example/pub-villanelle/pub/freecache.ErrOutOfRange", "io.EOF"], ifaces := true, apart := false, laid := [("io.EOF", laid_io_EOF), ("given.example/pub-villanelle/pub/freecache.ErrOutOfRange", laid_given_example_pub_villanelle_pub_freecache_ErrOutOfRange)] }
def FnRingStepSaid : Prop := fnRingStepRow.holds Tryd.pinned (OpenSpec.ofChange fnRingStepSpec)

/-- ITS FALSE NEIGHBOUR: 'it returns false'. Refute it at one input. -/
def fnRingStepWrong : ChangeSpec := { name := "fnRingStep", vars := ["given.example/pub-villanelle/pub/freecache.ErrOutOfRange"], fn := fun _ => fun
  | [d1, d2, g1] => { results := [.lit (.bool false)], args := [d1, d2], vars := [g1] }
  | _ => none }
def FnRingStepWrongFalsely : Prop := fnRingStepRow.holds Tryd.pinned (OpenSpec.ofChange fnRingStepWrong)

/-- 'laws.FnRingDump': WHATEVER THE INPUT: true; the input reads as it did. -/
def fnRingDumpSpec : ChangeSpec := { name := "fnRingDump", vars := ["given.example/pub-villanelle/pub/freecache.ErrOutOfRange"], fn := fun _ => fun
  | [d1, d2, g1] => { results := [.lit (.bool true)], args := [d1, d2], vars := [g1] }
  | _ => none }
def fnRingDumpRow : OpenClaim := { program := "ytbklhnpnkinadaadoor", sum := "530a9a5e7ebf087aca777bd1da01d1c7d11583d5d73753291373502efa8e1390", func := "given.example/pub-villanelle/laws.FnRingDump", spec := "fnRingDump", unfollowed := true, recurses := true, named := ["given.example/pub-villanelle/pub/freecache.ErrOutOfRange", "io.EOF"], ifaces := true, apart := false, laid := [("io.EOF", laid_io_EOF), ("given.example/pub-villanelle/pub/freecache.ErrOutOfRange", laid_given_example_pub_villanelle_pub_freecache_ErrOutOfRange)] }
def FnRingDumpSaid : Prop := fnRingDumpRow.holds Tryd.pinned (OpenSpec.ofChange fnRingDumpSpec)

/-- ITS FALSE NEIGHBOUR: 'it returns false'. Refute it at one input. -/
def fnRingDumpWrong : ChangeSpec := { name := "fnRingDump", vars := ["given.example/pub-villanelle/pub/freecache.ErrOutOfRange"], fn := fun _ => fun
  | [d1, d2, g1] => { results := [.lit (.bool false)], args := [d1, d2], vars := [g1] }
  | _ => none }
def FnRingDumpWrongFalsely : Prop := fnRingDumpRow.holds Tryd.pinned (OpenSpec.ofChange fnRingDumpWrong)

/-- 'laws.FnRingRun': WHATEVER THE INPUT: true; the input reads as it did. -/
def fnRingRunSpec : ChangeSpec := { name := "fnRingRun", vars := ["given.example/pub-villanelle/pub/freecache.ErrOutOfRange"], fn := fun _ => fun
  | [d1, d2, d3, g1] => { results := [.lit (.bool true)], args := [d1, d2, d3], vars := [g1] }
  | _ => none }
def fnRingRunRow : OpenClaim := { program := "ytbklhnpnkinadaadoor", sum := "530a9a5e7ebf087aca777bd1da01d1c7d11583d5d73753291373502efa8e1390", func := "given.example/pub-villanelle/laws.FnRingRun", spec := "fnRingRun", unfollowed := true, recurses := true, named := ["given.example/pub-villanelle/pub/freecache.ErrOutOfRange", "io.EOF"], ifaces := true, apart := false, laid := [("io.EOF", laid_io_EOF), ("given.example/pub-villanelle/pub/freecache.ErrOutOfRange", laid_given_example_pub_villanelle_pub_freecache_ErrOutOfRange)] }
def FnRingRunSaid : Prop := fnRingRunRow.holds Tryd.pinned (OpenSpec.ofChange fnRingRunSpec)

/-- ITS FALSE NEIGHBOUR: 'it returns false'. Refute it at one input. -/
def fnRingRunWrong : ChangeSpec := { name := "fnRingRun", vars := ["given.example/pub-villanelle/pub/freecache.ErrOutOfRange"], fn := fun _ => fun
  | [d1, d2, d3, g1] => { results := [.lit (.bool false)], args := [d1, d2, d3], vars := [g1] }
  | _ => none }
def FnRingRunWrongFalsely : Prop := fnRingRunRow.holds Tryd.pinned (OpenSpec.ofChange fnRingRunWrong)

/-- 'laws.FnSegClear': WHATEVER THE INPUT: true; the input reads as it did. -/
def fnSegClearSpec : ChangeSpec := { name := "fnSegClear", vars := ["given.example/pub-villanelle/pub/xxhash.prime1v", "given.example/pub-villanelle/pub/freecache.ErrLargeKey", "given.example/pub-villanelle/pub/freecache.ErrLargeEntry", "given.example/pub-villanelle/pub/freecache.ErrOutOfRange", "given.example/pub-villanelle/pub/freecache.ErrNotFound"], fn := fun _ => fun
  | [d1, d2, d3, g1, g2, g3, g4, g5] => { results := [.lit (.bool true)], args := [d1, d2, d3], vars := [g1, g2, g3, g4, g5] }
  | _ => none }
def fnSegClearRow : OpenClaim := { program := "ytbklhnpnkinadaadoor", sum := "530a9a5e7ebf087aca777bd1da01d1c7d11583d5d73753291373502efa8e1390", func := "given.example/pub-villanelle/laws.FnSegClear", spec := "fnSegClear", inPlace := ["sync/atomic.AddInt64", "sync/atomic.LoadInt64", "sync/atomic.StoreInt64"], unfollowed := true, recurses := true, named := ["given.example/pub-villanelle/pub/xxhash.prime1v", "encoding/binary.LittleEndian", "given.example/pub-villanelle/pub/freecache.ErrLargeKey", "given.example/pub-villanelle/pub/freecache.ErrLargeEntry", "given.example/pub-villanelle/pub/freecache.ErrOutOfRange", "io.EOF", "given.example/pub-villanelle/pub/freecache.ErrNotFound"], ifaces := true, apart := false, laid := [("io.EOF", laid_io_EOF), ("given.example/pub-villanelle/pub/xxhash.prime1v", laid_given_example_pub_villanelle_pub_xxhash_prime1v), ("given.example/pub-villanelle/pub/freecache.ErrOutOfRange", laid_given_example_pub_villanelle_pub_freecache_ErrOutOfRange), ("given.example/pub-villanelle/pub/freecache.ErrLargeKey", laid_given_example_pub_villanelle_pub_freecache_ErrLargeKey), ("given.example/pub-villanelle/pub/freecache.ErrLargeEntry", laid_given_example_pub_villanelle_pub_freecache_ErrLargeEntry), ("given.example/pub-villanelle/pub/freecache.ErrNotFound", laid_given_example_pub_villanelle_pub_freecache_ErrNotFound)] }
def FnSegClearSaid : Prop := fnSegClearRow.holds Tryd.pinned (OpenSpec.ofChange fnSegClearSpec)

/-- ITS FALSE NEIGHBOUR: 'it returns false'. Refute it at one input. -/
def fnSegClearWrong : ChangeSpec := { name := "fnSegClear", vars := ["given.example/pub-villanelle/pub/xxhash.prime1v", "given.example/pub-villanelle/pub/freecache.ErrLargeKey", "given.example/pub-villanelle/pub/freecache.ErrLargeEntry", "given.example/pub-villanelle/pub/freecache.ErrOutOfRange", "given.example/pub-villanelle/pub/freecache.ErrNotFound"], fn := fun _ => fun
  | [d1, d2, d3, g1, g2, g3, g4, g5] => { results := [.lit (.bool false)], args := [d1, d2, d3], vars := [g1, g2, g3, g4, g5] }
  | _ => none }
def FnSegClearWrongFalsely : Prop := fnSegClearRow.holds Tryd.pinned (OpenSpec.ofChange fnSegClearWrong)

/-- 'laws.FnSegClock': WHATEVER THE INPUT: true; the input reads as it did. -/
def fnSegClockSpec : ChangeSpec := { name := "fnSegClock", vars := ["given.example/pub-villanelle/pub/xxhash.prime1v", "given.example/pub-villanelle/pub/freecache.ErrLargeKey", "given.example/pub-villanelle/pub/freecache.ErrLargeEntry", "given.example/pub-villanelle/pub/freecache.ErrOutOfRange", "given.example/pub-villanelle/pub/freecache.ErrNotFound"], fn := fun _ => fun
  | [d1, d2, d3, g1, g2, g3, g4, g5] => { results := [.lit (.bool true)], args := [d1, d2, d3], vars := [g1, g2, g3, g4, g5] }
  | _ => none }
def fnSegClockRow : OpenClaim := { program := "ytbklhnpnkinadaadoor", sum := "530a9a5e7ebf087aca777bd1da01d1c7d11583d5d73753291373502efa8e1390", func := "given.example/pub-villanelle/laws.FnSegClock", spec := "fnSegClock", inPlace := ["sync/atomic.AddInt64", "sync/atomic.LoadInt64", "sync/atomic.StoreInt64"], unfollowed := true, recurses := true, named := ["given.example/pub-villanelle/pub/xxhash.prime1v", "encoding/binary.LittleEndian", "given.example/pub-villanelle/pub/freecache.ErrLargeKey", "given.example/pub-villanelle/pub/freecache.ErrLargeEntry", "given.example/pub-villanelle/pub/freecache.ErrOutOfRange", "io.EOF", "given.example/pub-villanelle/pub/freecache.ErrNotFound"], ifaces := true, apart := false, laid := [("io.EOF", laid_io_EOF), ("given.example/pub-villanelle/pub/xxhash.prime1v", laid_given_example_pub_villanelle_pub_xxhash_prime1v), ("given.example/pub-villanelle/pub/freecache.ErrOutOfRange", laid_given_example_pub_villanelle_pub_freecache_ErrOutOfRange), ("given.example/pub-villanelle/pub/freecache.ErrLargeKey", laid_given_example_pub_villanelle_pub_freecache_ErrLargeKey), ("given.example/pub-villanelle/pub/freecache.ErrLargeEntry", laid_given_example_pub_villanelle_pub_freecache_ErrLargeEntry), ("given.example/pub-villanelle/pub/freecache.ErrNotFound", laid_given_example_pub_villanelle_pub_freecache_ErrNotFound)] }
def FnSegClockSaid : Prop := fnSegClockRow.holds Tryd.pinned (OpenSpec.ofChange fnSegClockSpec)

/-- ITS FALSE NEIGHBOUR: 'it returns false'. Refute it at one input. -/
def fnSegClockWrong : ChangeSpec := { name := "fnSegClock", vars := ["given.example/pub-villanelle/pub/xxhash.prime1v", "given.example/pub-villanelle/pub/freecache.ErrLargeKey", "given.example/pub-villanelle/pub/freecache.ErrLargeEntry", "given.example/pub-villanelle/pub/freecache.ErrOutOfRange", "given.example/pub-villanelle/pub/freecache.ErrNotFound"], fn := fun _ => fun
  | [d1, d2, d3, g1, g2, g3, g4, g5] => { results := [.lit (.bool false)], args := [d1, d2, d3], vars := [g1, g2, g3, g4, g5] }
  | _ => none }
def FnSegClockWrongFalsely : Prop := fnSegClockRow.holds Tryd.pinned (OpenSpec.ofChange fnSegClockWrong)

/-- 'laws.FnSegPeeks': WHATEVER THE INPUT: true; the input reads as it did. -/
def fnSegPeeksSpec : ChangeSpec := { name := "fnSegPeeks", vars := ["given.example/pub-villanelle/pub/xxhash.prime1v", "given.example/pub-villanelle/pub/freecache.ErrLargeKey", "given.example/pub-villanelle/pub/freecache.ErrLargeEntry", "given.example/pub-villanelle/pub/freecache.ErrOutOfRange", "given.example/pub-villanelle/pub/freecache.ErrNotFound"], fn := fun _ => fun
  | [d1, d2, g1, g2, g3, g4, g5] => { results := [.lit (.bool true)], args := [d1, d2], vars := [g1, g2, g3, g4, g5] }
  | _ => none }
def fnSegPeeksRow : OpenClaim := { program := "ytbklhnpnkinadaadoor", sum := "530a9a5e7ebf087aca777bd1da01d1c7d11583d5d73753291373502efa8e1390", func := "given.example/pub-villanelle/laws.FnSegPeeks", spec := "fnSegPeeks", inPlace := ["sync/atomic.AddInt64", "sync/atomic.LoadInt64", "sync/atomic.StoreInt64"], unfollowed := true, recurses := true, named := ["given.example/pub-villanelle/pub/xxhash.prime1v", "encoding/binary.LittleEndian", "given.example/pub-villanelle/pub/freecache.ErrLargeKey", "given.example/pub-villanelle/pub/freecache.ErrLargeEntry", "given.example/pub-villanelle/pub/freecache.ErrOutOfRange", "io.EOF", "given.example/pub-villanelle/pub/freecache.ErrNotFound"], ifaces := true, apart := false, laid := [("io.EOF", laid_io_EOF), ("given.example/pub-villanelle/pub/xxhash.prime1v", laid_given_example_pub_villanelle_pub_xxhash_prime1v), ("given.example/pub-villanelle/pub/freecache.ErrOutOfRange", laid_given_example_pub_villanelle_pub_freecache_ErrOutOfRange), ("given.example/pub-villanelle/pub/freecache.ErrLargeKey", laid_given_example_pub_villanelle_pub_freecache_ErrLargeKey), ("given.example/pub-villanelle/pub/freecache.ErrLargeEntry", laid_given_example_pub_villanelle_pub_freecache_ErrLargeEntry), ("given.example/pub-villanelle/pub/freecache.ErrNotFound", laid_given_example_pub_villanelle_pub_freecache_ErrNotFound)] }
def FnSegPeeksSaid : Prop := fnSegPeeksRow.holds Tryd.pinned (OpenSpec.ofChange fnSegPeeksSpec)

/-- ITS FALSE NEIGHBOUR: 'it returns false'. Refute it at one input. -/
def fnSegPeeksWrong : ChangeSpec := { name := "fnSegPeeks", vars := ["given.example/pub-villanelle/pub/xxhash.prime1v", "given.example/pub-villanelle/pub/freecache.ErrLargeKey", "given.example/pub-villanelle/pub/freecache.ErrLargeEntry", "given.example/pub-villanelle/pub/freecache.ErrOutOfRange", "given.example/pub-villanelle/pub/freecache.ErrNotFound"], fn := fun _ => fun
  | [d1, d2, g1, g2, g3, g4, g5] => { results := [.lit (.bool false)], args := [d1, d2], vars := [g1, g2, g3, g4, g5] }
  | _ => none }
def FnSegPeeksWrongFalsely : Prop := fnSegPeeksRow.holds Tryd.pinned (OpenSpec.ofChange fnSegPeeksWrong)

/- THE SECOND FORM. 'bulk': how many values and letters a reading holds, each counted each time it is reached (what is shared counts as often as it is met; a slice's spare places count too). A statement '..UptoSaid' is the law's where the arguments, and the package variables that the reading takes, are together of bulk at most 1048576: NARROWER than '..Said'. Prove '..Said' where nothing that the law and all that it calls make is longer than what came in: it says more and counts as full. Else prove '..UptoSaid'. A law counts once. -/
mutual
def uptoBulk {H : Type} : DataW H → Nat
  | .lit (.string bytes) => bytes.length + 1
  | .lit _ => 1
  | .nil => 1
  | .ptr d => uptoBulk d + 1
  | .slice elems spare => uptoBulkAll elems + uptoBulkAll spare + 1
  | .agg parts => uptoBulkAll parts + 1
  | .iface _ d => uptoBulk d + 1
  | .map entries => uptoBulkEntries entries + 1
  | .held _ => 1
def uptoBulkAll {H : Type} : List (DataW H) → Nat
  | [] => 0
  | d :: r => uptoBulk d + uptoBulkAll r
def uptoBulkEntries {H : Type} : List (Lit × DataW H) → Nat
  | [] => 0
  | x :: r => uptoBulkEntry x + uptoBulkEntries r
def uptoBulkEntry {H : Type} : Lit × DataW H → Nat
  | (.string bytes, d) => bytes.length + uptoBulk d + 1
  | (_, d) => uptoBulk d + 1
 end
def uptoSmall : (H : Type) → List (DataW H) → Bool := fun _ ds => decide (uptoBulkAll ds ≤ 1048576)
def OpenSpec.upto (s : _root_.Go.ChangeSpec) : _root_.Go.OpenSpec := { _root_.Go.OpenSpec.ofChange s with cond := some uptoSmall }

/-- 'laws.FnRingStep', WHERE WHAT IT READS IS OF BULK AT MOST 1048576: true; the input reads as it did. -/
def fnRingStepUptoRow : OpenClaim := { program := "ytbklhnpnkinadaadoor", sum := "530a9a5e7ebf087aca777bd1da01d1c7d11583d5d73753291373502efa8e1390", func := "given.example/pub-villanelle/laws.FnRingStep", spec := "fnRingStep", unfollowed := true, recurses := true, named := ["given.example/pub-villanelle/pub/freecache.ErrOutOfRange", "io.EOF"], ifaces := true, apart := false, laid := [("io.EOF", laid_io_EOF), ("given.example/pub-villanelle/pub/freecache.ErrOutOfRange", laid_given_example_pub_villanelle_pub_freecache_ErrOutOfRange)], narrowed := true }
def FnRingStepUptoSaid : Prop := fnRingStepUptoRow.holds Tryd.pinned (OpenSpec.upto fnRingStepSpec)

/-- 'laws.FnRingDump', WHERE WHAT IT READS IS OF BULK AT MOST 1048576: true; the input reads as it did. -/
def fnRingDumpUptoRow : OpenClaim := { program := "ytbklhnpnkinadaadoor", sum := "530a9a5e7ebf087aca777bd1da01d1c7d11583d5d73753291373502efa8e1390", func := "given.example/pub-villanelle/laws.FnRingDump", spec := "fnRingDump", unfollowed := true, recurses := true, named := ["given.example/pub-villanelle/pub/freecache.ErrOutOfRange", "io.EOF"], ifaces := true, apart := false, laid := [("io.EOF", laid_io_EOF), ("given.example/pub-villanelle/pub/freecache.ErrOutOfRange", laid_given_example_pub_villanelle_pub_freecache_ErrOutOfRange)], narrowed := true }
def FnRingDumpUptoSaid : Prop := fnRingDumpUptoRow.holds Tryd.pinned (OpenSpec.upto fnRingDumpSpec)

/-- 'laws.FnRingRun', WHERE WHAT IT READS IS OF BULK AT MOST 1048576: true; the input reads as it did. -/
def fnRingRunUptoRow : OpenClaim := { program := "ytbklhnpnkinadaadoor", sum := "530a9a5e7ebf087aca777bd1da01d1c7d11583d5d73753291373502efa8e1390", func := "given.example/pub-villanelle/laws.FnRingRun", spec := "fnRingRun", unfollowed := true, recurses := true, named := ["given.example/pub-villanelle/pub/freecache.ErrOutOfRange", "io.EOF"], ifaces := true, apart := false, laid := [("io.EOF", laid_io_EOF), ("given.example/pub-villanelle/pub/freecache.ErrOutOfRange", laid_given_example_pub_villanelle_pub_freecache_ErrOutOfRange)], narrowed := true }
def FnRingRunUptoSaid : Prop := fnRingRunUptoRow.holds Tryd.pinned (OpenSpec.upto fnRingRunSpec)

/-- 'laws.FnSegClear', WHERE WHAT IT READS IS OF BULK AT MOST 1048576: true; the input reads as it did. -/
def fnSegClearUptoRow : OpenClaim := { program := "ytbklhnpnkinadaadoor", sum := "530a9a5e7ebf087aca777bd1da01d1c7d11583d5d73753291373502efa8e1390", func := "given.example/pub-villanelle/laws.FnSegClear", spec := "fnSegClear", inPlace := ["sync/atomic.AddInt64", "sync/atomic.LoadInt64", "sync/atomic.StoreInt64"], unfollowed := true, recurses := true, named := ["given.example/pub-villanelle/pub/xxhash.prime1v", "encoding/binary.LittleEndian", "given.example/pub-villanelle/pub/freecache.ErrLargeKey", "given.example/pub-villanelle/pub/freecache.ErrLargeEntry", "given.example/pub-villanelle/pub/freecache.ErrOutOfRange", "io.EOF", "given.example/pub-villanelle/pub/freecache.ErrNotFound"], ifaces := true, apart := false, laid := [("io.EOF", laid_io_EOF), ("given.example/pub-villanelle/pub/xxhash.prime1v", laid_given_example_pub_villanelle_pub_xxhash_prime1v), ("given.example/pub-villanelle/pub/freecache.ErrOutOfRange", laid_given_example_pub_villanelle_pub_freecache_ErrOutOfRange), ("given.example/pub-villanelle/pub/freecache.ErrLargeKey", laid_given_example_pub_villanelle_pub_freecache_ErrLargeKey), ("given.example/pub-villanelle/pub/freecache.ErrLargeEntry", laid_given_example_pub_villanelle_pub_freecache_ErrLargeEntry), ("given.example/pub-villanelle/pub/freecache.ErrNotFound", laid_given_example_pub_villanelle_pub_freecache_ErrNotFound)], narrowed := true }
def FnSegClearUptoSaid : Prop := fnSegClearUptoRow.holds Tryd.pinned (OpenSpec.upto fnSegClearSpec)

/-- 'laws.FnSegClock', WHERE WHAT IT READS IS OF BULK AT MOST 1048576: true; the input reads as it did. -/
def fnSegClockUptoRow : OpenClaim := { program := "ytbklhnpnkinadaadoor", sum := "530a9a5e7ebf087aca777bd1da01d1c7d11583d5d73753291373502efa8e1390", func := "given.example/pub-villanelle/laws.FnSegClock", spec := "fnSegClock", inPlace := ["sync/atomic.AddInt64", "sync/atomic.LoadInt64", "sync/atomic.StoreInt64"], unfollowed := true, recurses := true, named := ["given.example/pub-villanelle/pub/xxhash.prime1v", "encoding/binary.LittleEndian", "given.example/pub-villanelle/pub/freecache.ErrLargeKey", "given.example/pub-villanelle/pub/freecache.ErrLargeEntry", "given.example/pub-villanelle/pub/freecache.ErrOutOfRange", "io.EOF", "given.example/pub-villanelle/pub/freecache.ErrNotFound"], ifaces := true, apart := false, laid := [("io.EOF", laid_io_EOF), ("given.example/pub-villanelle/pub/xxhash.prime1v", laid_given_example_pub_villanelle_pub_xxhash_prime1v), ("given.example/pub-villanelle/pub/freecache.ErrOutOfRange", laid_given_example_pub_villanelle_pub_freecache_ErrOutOfRange), ("given.example/pub-villanelle/pub/freecache.ErrLargeKey", laid_given_example_pub_villanelle_pub_freecache_ErrLargeKey), ("given.example/pub-villanelle/pub/freecache.ErrLargeEntry", laid_given_example_pub_villanelle_pub_freecache_ErrLargeEntry), ("given.example/pub-villanelle/pub/freecache.ErrNotFound", laid_given_example_pub_villanelle_pub_freecache_ErrNotFound)], narrowed := true }
def FnSegClockUptoSaid : Prop := fnSegClockUptoRow.holds Tryd.pinned (OpenSpec.upto fnSegClockSpec)

/-- 'laws.FnSegPeeks', WHERE WHAT IT READS IS OF BULK AT MOST 1048576: true; the input reads as it did. -/
def fnSegPeeksUptoRow : OpenClaim := { program := "ytbklhnpnkinadaadoor", sum := "530a9a5e7ebf087aca777bd1da01d1c7d11583d5d73753291373502efa8e1390", func := "given.example/pub-villanelle/laws.FnSegPeeks", spec := "fnSegPeeks", inPlace := ["sync/atomic.AddInt64", "sync/atomic.LoadInt64", "sync/atomic.StoreInt64"], unfollowed := true, recurses := true, named := ["given.example/pub-villanelle/pub/xxhash.prime1v", "encoding/binary.LittleEndian", "given.example/pub-villanelle/pub/freecache.ErrLargeKey", "given.example/pub-villanelle/pub/freecache.ErrLargeEntry", "given.example/pub-villanelle/pub/freecache.ErrOutOfRange", "io.EOF", "given.example/pub-villanelle/pub/freecache.ErrNotFound"], ifaces := true, apart := false, laid := [("io.EOF", laid_io_EOF), ("given.example/pub-villanelle/pub/xxhash.prime1v", laid_given_example_pub_villanelle_pub_xxhash_prime1v), ("given.example/pub-villanelle/pub/freecache.ErrOutOfRange", laid_given_example_pub_villanelle_pub_freecache_ErrOutOfRange), ("given.example/pub-villanelle/pub/freecache.ErrLargeKey", laid_given_example_pub_villanelle_pub_freecache_ErrLargeKey), ("given.example/pub-villanelle/pub/freecache.ErrLargeEntry", laid_given_example_pub_villanelle_pub_freecache_ErrLargeEntry), ("given.example/pub-villanelle/pub/freecache.ErrNotFound", laid_given_example_pub_villanelle_pub_freecache_ErrNotFound)], narrowed := true }
def FnSegPeeksUptoSaid : Prop := fnSegPeeksUptoRow.holds Tryd.pinned (OpenSpec.upto fnSegPeeksSpec)

end Rows
end Go.Proofs.YtbklhnpnkinadaaDoor
