import Derived.Test.YtehfdefpajjmaaaTy
import Derived.Test.YtehfdefpajjmaaaPlain
namespace Go.Proofs.Ytehfdefpajjmaaa
open Go.RowKit Go.Vil

theorem put4 (l : List UInt8) (off : Nat) (v : Int) (h0 : 0 ≤ v) (h1 : v < 4294967296) (hl : off + 4 ≤ l.length) :
    ((((l.set off (UInt8.ofNat (v % 256).toNat)).set (off + 1) (UInt8.ofNat (v / 256 % 256).toNat)).set (off + 2) (UInt8.ofNat (v / 65536 % 256).toNat)).set (off + 3) (UInt8.ofNat (v / 16777216).toNat)) = splice l off (le 4 v.toNat) := by
  rw [set_four _ _ _ _ _ _ hl]
  obtain ⟨n, rfl⟩ := Int.eq_ofNat_of_zero_le h0
  simp only [le, Int.toNat_natCast]
  rw [ofNat_int _ (by omega), ofNat_int _ (by omega), ofNat_int _ (by omega)]
  congr 5 <;> (congr 1; omega)

set_option maxHeartbeats 400000 in
theorem put32 (b off n cap : Nat) (l : List UInt8) (v : Int) (w : World) (T : TypeId) (M : Mem w [.blk b (.cells (u8s l).toArray T (0, 0))])
    (hv0 : 0 ≤ v) (hv1 : v < 4294967296) (hn : 4 ≤ n) (hl : off + 4 ≤ l.length) :
    Calls Try.prog 64 #[.agg #[], .slice (some ⟨b, off, none⟩) n cap, .int .u32 v] w fun e w' => e = .returned (.tuple #[]) ∧ St w [b] w' [.blk b (.cells (u8s (splice l off (le 4 v.toNat))).toArray T (0, 0))] := by
  rw [← put4 l off v hv0 hv1 hl]
  have S : St w [b] w _ := St.start M
  clear M
  go_enter Try.func64, Try.ntmps64
  go_wp2_with (first | (refine wpList_box S ?_; (clear S; intro n w1 hn1 S)) | (refine wpList_ld8 S ?_) | (refine wpList_st8 S ?_; (clear S; intro w1 S)))
  go_end0
  exact ⟨rfl, S.sel (.cons (.tail .head) .nil)⟩
end Go.Proofs.Ytehfdefpajjmaaa
