/- The hash XXH64 over a list of bytes, as both texts reckon it. -/
import Derived.Test.YtikjncdomgkcjaaDoorXc
namespace Go.Proofs.YtikjncdomgkcjaaDoor
open Go.RowKit Go.Vil
set_option linter.unusedSimpArgs false
set_option linter.unusedVariables false

/-- The four lanes behind all blocks of 32 bytes, and the bytes that are left. -/
def lanes (v1 v2 v3 v4 : Int) (l : List UInt8) : Int × Int × Int × Int × List UInt8 :=
  if h : 32 ≤ l.length then
    lanes (rnd v1 (leVal (l.take 8))) (rnd v2 (leVal ((l.drop 8).take 8))) (rnd v3 (leVal ((l.drop 16).take 8))) (rnd v4 (leVal ((l.drop 24).take 8))) (l.drop 32)
  else (v1, v2, v3, v4, l)
termination_by l.length
decreasing_by simp; omega
theorem lanes_more (v1 v2 v3 v4 : Int) (l : List UInt8) (h : 32 ≤ l.length) : lanes v1 v2 v3 v4 l = lanes (rnd v1 (leVal (l.take 8))) (rnd v2 (leVal ((l.drop 8).take 8))) (rnd v3 (leVal ((l.drop 16).take 8))) (rnd v4 (leVal ((l.drop 24).take 8))) (l.drop 32) := by
  rw [lanes, dif_pos h]
theorem lanes_end (v1 v2 v3 v4 : Int) (l : List UInt8) (h : ¬ 32 ≤ l.length) : lanes v1 v2 v3 v4 l = (v1, v2, v3, v4, l) := by
  rw [lanes, dif_neg h]

/-- The hash behind eight bytes more. -/
def eight (h : Int) (x : Int) : Int := IntKind.u64.wrap (IntKind.u64.wrap (turn (Go.bits .xor .u64 h (rnd 0 x)) 27 * 11400714785074694791) + 9650029242287828579)
def four (h : Int) (x : Int) : Int := IntKind.u64.wrap (IntKind.u64.wrap (turn (Go.bits .xor .u64 h (IntKind.u64.wrap (x * 11400714785074694791))) 23 * 14029467366897019727) + 1609587929392839161)
def one (h : Int) (c : UInt8) : Int := IntKind.u64.wrap (turn (Go.bits .xor .u64 h (IntKind.u64.wrap (IntKind.u64.wrap (c.toNat : Int) * 2870177450012600261))) 11 * 11400714785074694791)
def eights (h : Int) (l : List UInt8) : Int × List UInt8 :=
  if hl : 8 ≤ l.length then eights (eight h (leVal (l.take 8))) (l.drop 8) else (h, l)
termination_by l.length
decreasing_by simp; omega
theorem eights_more (h : Int) (l : List UInt8) (hl : 8 ≤ l.length) : eights h l = eights (eight h (leVal (l.take 8))) (l.drop 8) := by
  rw [eights, dif_pos hl]
theorem eights_end (h : Int) (l : List UInt8) (hl : ¬ 8 ≤ l.length) : eights h l = (h, l) := by
  rw [eights, dif_neg hl]
def fours (p : Int × List UInt8) : Int × List UInt8 := if 4 ≤ p.2.length then (four p.1 (leVal (p.2.take 4)), p.2.drop 4) else p
def ones (h : Int) : List UInt8 → Int
  | [] => h
  | c :: l => ones (one h c) l
/-- The end. -/
def last (h : Int) : Int :=
  let a := IntKind.u64.wrap (Go.bits .xor .u64 h (h / 8589934592) * 14029467366897019727)
  let b := IntKind.u64.wrap (Go.bits .xor .u64 a (a / 536870912) * 1609587929392839161)
  Go.bits .xor .u64 b (b / 4294967296)
def merged (p : Int × Int × Int × Int × List UInt8) : Int :=
  mrg (mrg (mrg (mrg (IntKind.u64.wrap (IntKind.u64.wrap (IntKind.u64.wrap (turn p.1 1 + turn p.2.1 7) + turn p.2.2.1 12) + turn p.2.2.2.1 18)) p.1) p.2.1) p.2.2.1) p.2.2.2.1
def begun (l : List UInt8) : Int × Int × Int × Int × List UInt8 := lanes 6983438078262162902 14029467366897019727 0 7046029288634856825 l
/-- The hash of bytes, so many ahead of them counted in. -/
def xx (l : List UInt8) : Int :=
  let p := if 32 ≤ l.length then (merged (begun l), (begun l).2.2.2.2) else (2870177450012600261, l)
  let q := fours (eights (IntKind.u64.wrap (p.1 + IntKind.u64.wrap (l.length : Int))) p.2)
  last (ones q.1 q.2)
theorem xx_of (l l' : List UInt8) (z : Int) (n : Nat) (hn : l.length = n) (hb : (n : Int) ≤ 4294967296) (hz : (z, l') = if 32 ≤ l.length then (merged (begun l), (begun l).2.2.2.2) else (2870177450012600261, l)) :
    xx l = last (ones (fours (eights (IntKind.u64.wrap (z + (n : Int))) l')).1 (fours (eights (IntKind.u64.wrap (z + (n : Int))) l')).2) := by
  have hw : IntKind.u64.wrap (l.length : Int) = (n : Int) := by rw [IntKind.wrap_u64, hn]; omega
  unfold xx
  simp only [← hz, hw]
theorem fours_more (h : Int) (l : List UInt8) (hl : 4 ≤ l.length) : fours (h, l) = (four h (leVal (l.take 4)), l.drop 4) := by
  unfold fours; rw [if_pos hl]
theorem fours_end (h : Int) (l : List UInt8) (hl : ¬ 4 ≤ l.length) : fours (h, l) = (h, l) := by
  unfold fours; rw [if_neg hl]
end Go.Proofs.YtikjncdomgkcjaaDoor
