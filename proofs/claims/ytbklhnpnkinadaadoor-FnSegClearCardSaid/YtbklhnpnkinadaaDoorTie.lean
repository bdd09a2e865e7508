/-
  DERIVED. GIVEN WITH THE SEED: THE PROGRAM's TIES (one call each: nine closed facts by the kernel) AND EACH ROW's TIE, after the 31st guide's Derived/Test/Toyas{Tie, Card}.lean. No idea stands in it: it is a product of the set-up. Laid BY PROGRAM, IN A SANDBOX (cutbox-door.mjs). By AI agents, Wed Nov 11 2026. No macro, syntax, notation, axiom, sorry.
-/
import Derived.Test.YtbklhnpnkinadaaDoorRows
import Derived.LaidByTextLater
import Derived.SevenTiedAt
import Derived.LaidSub
import Derived.LaidOnce
namespace Go.Proofs.YtbklhnpnkinadaaDoor
open Go
set_option maxRecDepth 100000
theorem seatTie1 : Tryd.prog.laidByTextLater [("io.EOF", Rows.laid_io_EOF), ("given.example/pub-villanelle/pub/xxhash.prime1v", Rows.laid_given_example_pub_villanelle_pub_xxhash_prime1v), ("given.example/pub-villanelle/pub/freecache.ErrOutOfRange", Rows.laid_given_example_pub_villanelle_pub_freecache_ErrOutOfRange), ("given.example/pub-villanelle/pub/freecache.ErrLargeKey", Rows.laid_given_example_pub_villanelle_pub_freecache_ErrLargeKey), ("given.example/pub-villanelle/pub/freecache.ErrLargeEntry", Rows.laid_given_example_pub_villanelle_pub_freecache_ErrLargeEntry), ("given.example/pub-villanelle/pub/freecache.ErrNotFound", Rows.laid_given_example_pub_villanelle_pub_freecache_ErrNotFound)] [.sentinel, .data, .sentinel, .sentinel, .sentinel, .sentinel] true :=
  Program.laidByTextLater_by_one 108 8 2 (by kernel_rfl) (by kernel_rfl) (by kernel_rfl) (by kernel_rfl) (by kernel_rfl) (by kernel_rfl) (fun _ _ => by kernel_rfl)
theorem noOwnUnsafe : Tryd.pinned.checked.prog.headLifts.contains "ownunsafe" = false := by kernel_rfl
theorem tie : Tryd.prog.laidByTextLater [("io.EOF", Rows.laid_io_EOF), ("given.example/pub-villanelle/pub/freecache.ErrOutOfRange", Rows.laid_given_example_pub_villanelle_pub_freecache_ErrOutOfRange)] [.sentinel, .sentinel] true :=
  Program.laidByTextLater.sub seatTie1 ["io.EOF", "given.example/pub-villanelle/pub/freecache.ErrOutOfRange"] (by kernel_rfl) (by kernel_rfl)
theorem fnRingStep_row_tie : Rows.fnRingStepRow.laidByTextAt .later Tryd.pinned [.sentinel, .sentinel] true :=
  OpenClaim.laidByTextAt_later rfl rfl tie noOwnUnsafe
theorem fnRingDump_row_tie : Rows.fnRingDumpRow.laidByTextAt .later Tryd.pinned [.sentinel, .sentinel] true :=
  OpenClaim.laidByTextAt_later rfl rfl tie noOwnUnsafe
theorem fnRingRun_row_tie : Rows.fnRingRunRow.laidByTextAt .later Tryd.pinned [.sentinel, .sentinel] true :=
  OpenClaim.laidByTextAt_later rfl rfl tie noOwnUnsafe
theorem tie2 : Tryd.prog.laidByTextLater [("io.EOF", Rows.laid_io_EOF), ("given.example/pub-villanelle/pub/xxhash.prime1v", Rows.laid_given_example_pub_villanelle_pub_xxhash_prime1v), ("given.example/pub-villanelle/pub/freecache.ErrOutOfRange", Rows.laid_given_example_pub_villanelle_pub_freecache_ErrOutOfRange), ("given.example/pub-villanelle/pub/freecache.ErrLargeKey", Rows.laid_given_example_pub_villanelle_pub_freecache_ErrLargeKey), ("given.example/pub-villanelle/pub/freecache.ErrLargeEntry", Rows.laid_given_example_pub_villanelle_pub_freecache_ErrLargeEntry), ("given.example/pub-villanelle/pub/freecache.ErrNotFound", Rows.laid_given_example_pub_villanelle_pub_freecache_ErrNotFound)] [.sentinel, .data, .sentinel, .sentinel, .sentinel, .sentinel] true :=
  Program.laidByTextLater.sub seatTie1 ["io.EOF", "given.example/pub-villanelle/pub/xxhash.prime1v", "given.example/pub-villanelle/pub/freecache.ErrOutOfRange", "given.example/pub-villanelle/pub/freecache.ErrLargeKey", "given.example/pub-villanelle/pub/freecache.ErrLargeEntry", "given.example/pub-villanelle/pub/freecache.ErrNotFound"] (by kernel_rfl) (by kernel_rfl)
theorem fnSegClear_row_tie : Rows.fnSegClearRow.laidByTextAt .later Tryd.pinned [.sentinel, .data, .sentinel, .sentinel, .sentinel, .sentinel] true :=
  OpenClaim.laidByTextAt_later rfl rfl tie2 noOwnUnsafe
theorem fnSegClock_row_tie : Rows.fnSegClockRow.laidByTextAt .later Tryd.pinned [.sentinel, .data, .sentinel, .sentinel, .sentinel, .sentinel] true :=
  OpenClaim.laidByTextAt_later rfl rfl tie2 noOwnUnsafe
theorem fnSegPeeks_row_tie : Rows.fnSegPeeksRow.laidByTextAt .later Tryd.pinned [.sentinel, .data, .sentinel, .sentinel, .sentinel, .sentinel] true :=
  OpenClaim.laidByTextAt_later rfl rfl tie2 noOwnUnsafe
theorem fnRingStepUpto_row_tie : Rows.fnRingStepUptoRow.laidByTextAt .later Tryd.pinned [.sentinel, .sentinel] true :=
  OpenClaim.laidByTextAt_later rfl rfl tie noOwnUnsafe
theorem fnRingDumpUpto_row_tie : Rows.fnRingDumpUptoRow.laidByTextAt .later Tryd.pinned [.sentinel, .sentinel] true :=
  OpenClaim.laidByTextAt_later rfl rfl tie noOwnUnsafe
theorem fnRingRunUpto_row_tie : Rows.fnRingRunUptoRow.laidByTextAt .later Tryd.pinned [.sentinel, .sentinel] true :=
  OpenClaim.laidByTextAt_later rfl rfl tie noOwnUnsafe
theorem fnSegClearUpto_row_tie : Rows.fnSegClearUptoRow.laidByTextAt .later Tryd.pinned [.sentinel, .data, .sentinel, .sentinel, .sentinel, .sentinel] true :=
  OpenClaim.laidByTextAt_later rfl rfl tie2 noOwnUnsafe
theorem fnSegClockUpto_row_tie : Rows.fnSegClockUptoRow.laidByTextAt .later Tryd.pinned [.sentinel, .data, .sentinel, .sentinel, .sentinel, .sentinel] true :=
  OpenClaim.laidByTextAt_later rfl rfl tie2 noOwnUnsafe
theorem fnSegPeeksUpto_row_tie : Rows.fnSegPeeksUptoRow.laidByTextAt .later Tryd.pinned [.sentinel, .data, .sentinel, .sentinel, .sentinel, .sentinel] true :=
  OpenClaim.laidByTextAt_later rfl rfl tie2 noOwnUnsafe
end Go.Proofs.YtbklhnpnkinadaaDoor
