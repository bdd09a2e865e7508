/- Numbers out of bytes, by the reference. -/
import Derived.Test.YtikjncdomgkcjaaDoorXb
namespace Go.Proofs.YtikjncdomgkcjaaDoor
open Go.RowKit Go.Vil
set_option linter.unusedSimpArgs false
set_option linter.unusedVariables false

theorem or_in (a : Nat) (y : UInt8) (ha : a < 72057594037927936) : Go.bits .or .u64 (IntKind.u64.wrap ((a : Int) * 256)) (IntKind.u64.wrap (y.toNat : Int)) = ((y.toNat + 256 * a : Nat) : Int) := by
  have hy := y.toNat_lt
  have e : IntKind.u64.wrap ((a : Int) * 256) = ((a * 256 : Nat) : Int) := by rw [IntKind.wrap_u64]; omega
  rw [e, wrap_byte, u64_or_nat _ _ (by omega) (by omega)]
  have := or_low 8 y.toNat a (by omega)
  rw [show (2 : Nat) ^ 8 = 256 from rfl, Nat.or_comm] at this
  rw [this, Nat.mul_comm]

theorem drop_val (l : List UInt8) (j : Nat) (hj : j < l.length) : leVal (l.drop j) = (l.getD j 0).toNat + 256 * leVal (l.drop (j + 1)) := by
  rw [List.drop_eq_getElem_cons hj]
  simp [leVal, List.getD, List.getElem?_eq_getElem hj]
theorem drop_lt (l : List UInt8) (j : Nat) (h : l.length ≤ 8) : leVal (l.drop (j + 1)) < 72057594037927936 := by
  refine Nat.lt_of_lt_of_le (leVal_lt _) ?_
  have : (l.drop (j + 1)).length ≤ 7 := by simp; omega
  exact Nat.le_trans (Nat.pow_le_pow_right (by decide) this) (by decide)

set_option maxHeartbeats 800000 in
theorem riLittle (ad : Addr) (n c K : Nat) (l : List UInt8) (w : World) (hs : Src w 1 (.slice (some ad) n c) n (u8s l)) (hn : K ≤ n) (hK : K ≤ 8) (hm : n ≤ maxLen) :
    Calls Tryd.prog 8 #[.slice (some ad) n c, .int .i64 K] w fun e w' => e = .returned (.int .u64 (leVal (l.take K))) ∧ St w [] w' [] := by
  have S := St.begin w
  unfold maxLen at hm
  have hl := hidden hs.len8
  have hsl : (l.take K).length = K := by have := hl.out; simp; omega
  have hsl := hidden hsl
  have hs := hidden hs
  go_enter Tryd.func8, Tryd.ntmps8
  go_wp2_with (first | go_big_skip | ((with_reducible show Code.wp _ (Code.region _ _ true) _ _ _); refine St.regionLast S ?_; (repeat (first | (go_big_quiet_step (fail)) | (go_big_quiet_want; (first | refine quiet_ld S ?_ | refine quiet_ld8 S ?_ | refine quiet_ld0 ?_ | refine quiet_ldA S ?_ | refine quiet_b2sB S ?_ | refine quiet_b2sR S ?_ | refine quiet_ldc S ?_); go_big_quiet_on))); refine wpQuiet_nil ?_; clear S; intro wq S) | go_big_skip | (refine wpList_ld S ?_) | (refine wpList_ld8 S ?_) | (refine wpList_ld0 ?_) | (refine wpList_ldA S ?_) | (refine wpList_st8 S ?_; (clear S; intro ws S)) | (refine wpList_st S ?_; (clear S; intro ws S)) | (refine wpList_box S ?_; (clear S; intro nb wb hnb S)) | (refine wpList_alloc S ?_; (clear S; intro nb wb hnb S)) | (refine wpList_mk8 S ?_; (clear S; intro nb wb hnb S)) | (refine wpList_mk S ?_; (clear S; intro nb wb hnb S)) | (refine wpList_bs S ?_; (clear S; intro nb wb hnb S)) | (refine wpList_stA S ?_; (clear S; intro ws S; simp only [splice, List.take_zero, List.take_succ_cons, List.drop_succ_cons, List.drop_zero, List.drop_nil, List.length_cons, List.length_nil, Nat.reduceAdd, Nat.zero_add, List.nil_append, List.cons_append, List.append_nil] at S)) | (refine wpList_b2sB S ?_) | (refine wpList_b2sR S ?_) | (refine wpList_ldc S ?_))
  go_loopg [5, 6] K (fun g x i wr => g ≤ K ∧ i = .int .i64 ((g : Int) - 1) ∧ (∃ v : Nat, x = .int .u64 (v : Int) ∧ Hid (v = leVal ((l.take K).drop g))) ∧ St w [] wr [])
  case atStart => exact ⟨Nat.le_refl _, rfl, ⟨0, rfl, hidden (by rw [List.drop_eq_nil_of_le (by have := hsl.out; omega)]; rfl)⟩, S⟩
  case round =>
    obtain ⟨hg, rfl, ⟨v, rfl, hv⟩, S⟩ := hrel
    rcases gk with _ | g'
    · go_wp2_with (first | go_big_skip | ((with_reducible show Code.wp _ (Code.region _ _ true) _ _ _); refine St.regionLast S ?_; (repeat (first | (go_big_quiet_step (fail)) | (go_big_quiet_want; (first | refine quiet_ld S ?_ | refine quiet_ld8 S ?_ | refine quiet_ld0 ?_ | refine quiet_ldA S ?_ | refine quiet_b2sB S ?_ | refine quiet_b2sR S ?_ | refine quiet_ldc S ?_); go_big_quiet_on))); refine wpQuiet_nil ?_; clear S; intro wq S) | go_big_skip | (refine wpList_ld S ?_) | (refine wpList_ld8 S ?_) | (refine wpList_ld0 ?_) | (refine wpList_ldA S ?_) | (refine wpList_st8 S ?_; (clear S; intro ws S)) | (refine wpList_st S ?_; (clear S; intro ws S)) | (refine wpList_box S ?_; (clear S; intro nb wb hnb S)) | (refine wpList_alloc S ?_; (clear S; intro nb wb hnb S)) | (refine wpList_mk8 S ?_; (clear S; intro nb wb hnb S)) | (refine wpList_mk S ?_; (clear S; intro nb wb hnb S)) | (refine wpList_bs S ?_; (clear S; intro nb wb hnb S)) | (refine wpList_stA S ?_; (clear S; intro ws S; simp only [splice, List.take_zero, List.take_succ_cons, List.drop_succ_cons, List.drop_zero, List.drop_nil, List.length_cons, List.length_nil, Nat.reduceAdd, Nat.zero_add, List.nil_append, List.cons_append, List.append_nil] at S)) | (refine wpList_b2sB S ?_) | (refine wpList_b2sR S ?_) | (refine wpList_ldc S ?_))
      go_ret
      exact ⟨retI (by rw [hv.out]; rfl), S⟩
    · have g0 := hs.out.byte g' (by omega)
      generalize hc : l.getD g' 0 = x at g0
      have hc := hidden hc
      have hi : (((g' + 1 : Nat) : Int) - 1) = (g' : Int) := by omega
      rw [hi]
      have hvl := hidden (show v < 72057594037927936 by rw [hv.out]; exact drop_lt _ _ (by have := hsl.out; omega))
      have ho := or_in v x hvl.out
      go_wp2_with (first | go_big_skip | ((with_reducible show Code.wp _ (Code.region _ _ true) _ _ _); refine St.regionLast S ?_; (repeat (first | (go_big_quiet_step (fail)) | (go_big_quiet_want; (first | refine quiet_ld S ?_ | refine quiet_ld8 S ?_ | refine quiet_ld0 ?_ | refine quiet_ldA S ?_ | refine quiet_b2sB S ?_ | refine quiet_b2sR S ?_ | refine quiet_ldc S ?_); go_big_quiet_on))); refine wpQuiet_nil ?_; clear S; intro wq S) | go_big_skip | (refine wpList_ld S ?_) | (refine wpList_ld8 S ?_) | (refine wpList_ld0 ?_) | (refine wpList_ldA S ?_) | (refine wpList_st8 S ?_; (clear S; intro ws S)) | (refine wpList_st S ?_; (clear S; intro ws S)) | (refine wpList_box S ?_; (clear S; intro nb wb hnb S)) | (refine wpList_alloc S ?_; (clear S; intro nb wb hnb S)) | (refine wpList_mk8 S ?_; (clear S; intro nb wb hnb S)) | (refine wpList_mk S ?_; (clear S; intro nb wb hnb S)) | (refine wpList_bs S ?_; (clear S; intro nb wb hnb S)) | (refine wpList_stA S ?_; (clear S; intro ws S; simp only [splice, List.take_zero, List.take_succ_cons, List.drop_succ_cons, List.drop_zero, List.drop_nil, List.length_cons, List.length_nil, Nat.reduceAdd, Nat.zero_add, List.nil_append, List.cons_append, List.append_nil] at S)) | (refine wpList_b2sB S ?_) | (refine wpList_b2sR S ?_) | (refine wpList_ldc S ?_))
      go_roundg g'
      case measure => omega
      case rel =>
        refine ⟨by omega, by first | rfl | go_num, ⟨x.toNat + 256 * v, by first | rfl | (rw [← ho]), hidden ?_⟩, S⟩
        rw [drop_val _ _ (by have := hsl.out; omega), ← hv.out]
        have : (l.take K).getD g' 0 = l.getD g' 0 := by simp [List.getD, List.getElem?_take, show g' < K by omega]
        rw [this, hc.out]
end Go.Proofs.YtikjncdomgkcjaaDoor
