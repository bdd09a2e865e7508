/- Numbers in groups of 7 bits, written and read. -/
import Derived.Test.YtkfkcinkkgdebaaTy
import Derived.Test.YtkfkcinkkgdebaaMore
import Derived.Test.YtkfkcinkkgdebaaQuP
import Derived.Deep.LoopGhost
import Derived.Laws.BitsAllLaws
namespace Go.Proofs.Ytkfkcinkkgdebaa
open Go.RowKit Go.Vil
set_option linter.unusedSimpArgs false
set_option maxRecDepth 100000
set_option linter.unusedVariables false

theorem or128 : ∀ a : Fin 256, Go.bits .or .u8 ((a.val : Nat) : Int) 128 = ((a.val % 128 + 128 : Nat) : Int) := by decide +kernel
theorem byte_or128 (k : Nat) : ∃ c : UInt8, Go.bits .or .u8 ((k : Int) % 256) 128 = (c.toNat : Int) ∧ Hid (c = UInt8.ofNat (k % 128 + 128)) := by
  refine ⟨_, ?_, hidden rfl⟩
  have h := or128 ⟨k % 256, by omega⟩
  have e : (k : Int) % 256 = ((k % 256 : Nat) : Int) := by omega
  rw [e]
  simp only at h
  rw [h, UInt8.toNat_ofNat']
  omega
theorem ofNat_back (c : UInt8) : UInt8.ofNat ((c.toNat : Int)).toNat = c := by simp
theorem ofNat_cut (k : Nat) : UInt8.ofNat ((k : Int) % 256).toNat = UInt8.ofNat k := by
  apply UInt8.toNat_inj.1
  rw [UInt8.toNat_ofNat', UInt8.toNat_ofNat']; omega

set_option maxHeartbeats 800000 in
theorem putUv (hb n : Nat) (h : List UInt8) (w : World) (hh : h.length = 5) (hn : n < 34359738368) (hM : Mem w [.blk hb (.cells (u8s h).toArray 5 (0, 0))]) :
    Calls Try.prog 89 #[.slice (some ⟨hb, 0, none⟩) 5 5, .int .u64 n] w fun e w' => e = .returned (.int .i64 (uvl n)) ∧ St w [hb] w' [.blk hb (.cells (u8s (splice h 0 (uv n))).toArray 5 (0, 0))] := by
  have S := St.start hM
  have hl5 := uvl_le5 hn
  clear hM hn
  go_enter Try.func89, Try.ntmps89
  go_wp2_with (first | go_big_skip | ((with_reducible show Code.wp _ (Code.region _ _ true) _ _ _); refine St.regionLast S ?_; (repeat (first | (go_big_quiet_step (fail)) | (go_big_quiet_want; (first | refine quiet_ld S ?_ | refine quiet_ld8 S ?_ | refine quiet_ld0 ?_ | refine quiet_ldA S ?_ | refine quiet_b2sB S ?_ | refine quiet_b2sR S ?_ | refine quiet_ldc S ?_); go_big_quiet_on))); refine wpQuiet_nil ?_; clear S; intro wq S) | go_big_skip | (refine wpList_ld S ?_) | (refine wpList_ld8 S ?_) | (refine wpList_ld0 ?_) | (refine wpList_ldA S ?_) | (refine wpList_st8 S ?_; (clear S; intro ws S)) | (refine wpList_st S ?_; (clear S; intro ws S)) | (refine wpList_box S ?_; (clear S; intro nb wb hnb S)) | (refine wpList_alloc S ?_; (clear S; intro nb wb hnb S)) | (refine wpList_mk8 S ?_; (clear S; intro nb wb hnb S)) | (refine wpList_mk S ?_; (clear S; intro nb wb hnb S)) | (refine wpList_bs S ?_; (clear S; intro nb wb hnb S)) | (refine wpList_stA S ?_; (clear S; intro ws S; simp only [splice, List.take_zero, List.take_succ_cons, List.drop_succ_cons, List.drop_zero, List.drop_nil, List.length_cons, List.length_nil, Nat.reduceAdd, Nat.zero_add, List.nil_append, List.cons_append, List.append_nil] at S)) | (refine wpList_b2sB S ?_) | (refine wpList_b2sR S ?_) | (refine wpList_ldc S ?_))
  go_loopg [1, 5] n (fun g x i wr => ∃ (k j : Nat) (d : List UInt8), Hid (k = g) ∧ x = .int .u64 k ∧ i = .int .i64 j ∧ d.length = j ∧ Hid (uv n = d ++ uv k) ∧ k ≤ n ∧ St w [hb] wr [.blk hb (.cells (u8s (splice h 0 d)).toArray 5 (0, 0))])
  case atStart => exact ⟨n, 0, [], hidden rfl, rfl, rfl, rfl, hidden (by simp), Nat.le_refl _, by rw [splice_nil]; exact S⟩
  case round =>
    obtain ⟨k, j, d, hg, rfl, rfl, hd, hu, hkn, S⟩ := hrel
    have hlen : j + uvl k = uvl n := by
      have := congrArg List.length hu.out
      simp only [List.length_append] at this
      unfold uvl; omega
    have hk1 := uvl_pos k
    have hsl : (splice h 0 d).length = 5 := by rw [splice_length _ _ _ (by omega)]; exact hh
    by_cases hk : k < 128
    · go_wp2_with (first | go_big_skip | ((with_reducible show Code.wp _ (Code.region _ _ true) _ _ _); refine St.regionLast S ?_; (repeat (first | (go_big_quiet_step (fail)) | (go_big_quiet_want; (first | refine quiet_ld S ?_ | refine quiet_ld8 S ?_ | refine quiet_ld0 ?_ | refine quiet_ldA S ?_ | refine quiet_b2sB S ?_ | refine quiet_b2sR S ?_ | refine quiet_ldc S ?_); go_big_quiet_on))); refine wpQuiet_nil ?_; clear S; intro wq S) | go_big_skip | (refine wpList_ld S ?_) | (refine wpList_ld8 S ?_) | (refine wpList_ld0 ?_) | (refine wpList_ldA S ?_) | (refine wpList_st8 S ?_; (clear S; intro ws S)) | (refine wpList_st S ?_; (clear S; intro ws S)) | (refine wpList_box S ?_; (clear S; intro nb wb hnb S)) | (refine wpList_alloc S ?_; (clear S; intro nb wb hnb S)) | (refine wpList_mk8 S ?_; (clear S; intro nb wb hnb S)) | (refine wpList_mk S ?_; (clear S; intro nb wb hnb S)) | (refine wpList_bs S ?_; (clear S; intro nb wb hnb S)) | (refine wpList_stA S ?_; (clear S; intro ws S; simp only [splice, List.take_zero, List.take_succ_cons, List.drop_succ_cons, List.drop_zero, List.drop_nil, List.length_cons, List.length_nil, Nat.reduceAdd, Nat.zero_add, List.nil_append, List.cons_append, List.append_nil] at S)) | (refine wpList_b2sB S ?_) | (refine wpList_b2sR S ?_) | (refine wpList_ldc S ?_))
      go_ret
      have e : splice h 0 (uv n) = (splice h 0 d).set j (UInt8.ofNat (k : Int).toNat) := by
        rw [hu.out, uv_small hk, Int.toNat_natCast, ← set_splice _ _ _ _ (by omega)]
        simp [hd]
      rw [e, ← hlen, uvl_small hk]
      exact ⟨retI (by omega), S⟩
    · obtain ⟨c, hc, Hc⟩ := byte_or128 k
      have hc2 := c.toNat_lt
      go_wp2_with (first | go_big_skip | ((with_reducible show Code.wp _ (Code.region _ _ true) _ _ _); refine St.regionLast S ?_; (repeat (first | (go_big_quiet_step (fail)) | (go_big_quiet_want; (first | refine quiet_ld S ?_ | refine quiet_ld8 S ?_ | refine quiet_ld0 ?_ | refine quiet_ldA S ?_ | refine quiet_b2sB S ?_ | refine quiet_b2sR S ?_ | refine quiet_ldc S ?_); go_big_quiet_on))); refine wpQuiet_nil ?_; clear S; intro wq S) | go_big_skip | (refine wpList_ld S ?_) | (refine wpList_ld8 S ?_) | (refine wpList_ld0 ?_) | (refine wpList_ldA S ?_) | (refine wpList_st8 S ?_; (clear S; intro ws S)) | (refine wpList_st S ?_; (clear S; intro ws S)) | (refine wpList_box S ?_; (clear S; intro nb wb hnb S)) | (refine wpList_alloc S ?_; (clear S; intro nb wb hnb S)) | (refine wpList_mk8 S ?_; (clear S; intro nb wb hnb S)) | (refine wpList_mk S ?_; (clear S; intro nb wb hnb S)) | (refine wpList_bs S ?_; (clear S; intro nb wb hnb S)) | (refine wpList_stA S ?_; (clear S; intro ws S; simp only [splice, List.take_zero, List.take_succ_cons, List.drop_succ_cons, List.drop_zero, List.drop_nil, List.length_cons, List.length_nil, Nat.reduceAdd, Nat.zero_add, List.nil_append, List.cons_append, List.append_nil] at S)) | (refine wpList_b2sB S ?_) | (refine wpList_b2sR S ?_) | (refine wpList_ldc S ?_))
      rw [ofNat_back] at S
      go_roundg (gk / 128)
      case measure => have := hg.out; omega
      case rel =>
        refine ⟨k / 128, j + 1, d ++ [c], hidden (by rw [hg.out]), by go_num, by go_num, by simp [hd], hidden ?_, by omega, ?_⟩
        · rw [hu.out, uv_great hk, Hc.out, List.append_assoc]; rfl
        · rw [← set_splice _ _ _ _ (by have := uvl_great hk; have := uvl_pos (k / 128); omega)]
          simpa [hd] using S

theorem or_shl (x c s : Nat) (hx : x < 2 ^ s) (hc : x + 2 ^ s * c < 34359738368) : Go.bits .or .u64 (x : Int) (IntKind.u64.wrap ((c : Int) * 2 ^ s)) = ((x + 2 ^ s * c : Nat) : Int) := by
  have e : (c : Int) * 2 ^ s = ((2 ^ s * c : Nat) : Int) := by rw [Nat.mul_comm]; simp
  have hw : IntKind.u64.wrap (((2 ^ s * c : Nat) : Int)) = ((2 ^ s * c : Nat) : Int) := by rw [IntKind.wrap_u64]; omega
  rw [e, hw, u64_or _ _ (by omega) (by omega) (by omega) (by omega), Int.toNat_natCast, Int.toNat_natCast]
  have := Nat.shiftLeft_add_eq_or_of_lt (b := x) (i := s) hx c
  rw [Nat.shiftLeft_eq, Nat.mul_comm] at this
  rw [Nat.or_comm, ← this, Nat.add_comm]
theorem and127 : ∀ a : Fin 256, Go.bits .and .u8 ((a.val : Nat) : Int) 127 = ((a.val % 128 : Nat) : Int) := by decide +kernel
theorem and_127 (m : Nat) (h : m < 256) : IntKind.u64.wrap (Go.bits .and .u8 (m : Int) 127) = ((m % 128 : Nat) : Int) := by
  have := and127 ⟨m, h⟩
  simp only at this
  rw [this, IntKind.wrap_u64]; omega

set_option maxHeartbeats 800000 in
theorem getUv (ad : Addr) (n c k : Nat) (more : List UInt8) (w : World) (hk : k < 34359738368) (hs : Src w 1 (.slice (some ad) n c) n (u8s (uv k ++ more))) :
    Calls Try.prog 91 #[.slice (some ad) n c] w fun e w' => e = .returned (.tuple #[.int .u64 k, .int .i64 (uvl k)]) ∧ St w [] w' [] := by
  have S := St.begin w
  have hl5 := uvl_le5 hk
  have hlen := hs.len8
  have hlk : (uv k).length = uvl k := rfl
  rw [List.length_append, hlk] at hlen
  have hs := hidden hs
  have hkk := hidden hk
  clear hk
  go_enter Try.func91, Try.ntmps91
  go_wp2_with (first | go_big_skip | ((with_reducible show Code.wp _ (Code.region _ _ true) _ _ _); refine St.regionLast S ?_; (repeat (first | (go_big_quiet_step (fail)) | (go_big_quiet_want; (first | refine quiet_ld S ?_ | refine quiet_ld8 S ?_ | refine quiet_ld0 ?_ | refine quiet_ldA S ?_ | refine quiet_b2sB S ?_ | refine quiet_b2sR S ?_ | refine quiet_ldc S ?_); go_big_quiet_on))); refine wpQuiet_nil ?_; clear S; intro wq S) | go_big_skip | (refine wpList_ld S ?_) | (refine wpList_ld8 S ?_) | (refine wpList_ld0 ?_) | (refine wpList_ldA S ?_) | (refine wpList_st8 S ?_; (clear S; intro ws S)) | (refine wpList_st S ?_; (clear S; intro ws S)) | (refine wpList_box S ?_; (clear S; intro nb wb hnb S)) | (refine wpList_alloc S ?_; (clear S; intro nb wb hnb S)) | (refine wpList_mk8 S ?_; (clear S; intro nb wb hnb S)) | (refine wpList_mk S ?_; (clear S; intro nb wb hnb S)) | (refine wpList_bs S ?_; (clear S; intro nb wb hnb S)) | (refine wpList_stA S ?_; (clear S; intro ws S; simp only [splice, List.take_zero, List.take_succ_cons, List.drop_succ_cons, List.drop_zero, List.drop_nil, List.length_cons, List.length_nil, Nat.reduceAdd, Nat.zero_add, List.nil_append, List.cons_append, List.append_nil] at S)) | (refine wpList_b2sB S ?_) | (refine wpList_b2sR S ?_) | (refine wpList_ldc S ?_))
  go_loopg [4, 5, 6, 7, 10] 6 (fun g x s i' b' i wr => ∃ (j y kj : Nat), Hid (j + g = 6) ∧ x = .int .u64 y ∧ s = .int .u64 ((7 * j : Nat) : Int) ∧ i = .int .i64 j ∧ j + uvl kj = uvl k ∧ Hid (y + 2 ^ (7 * j) * kj = k ∧ y < 2 ^ (7 * j)) ∧ Hid ((uv k).drop j = uv kj) ∧ St w [] wr [])
  case atStart => exact ⟨0, 0, k, hidden rfl, rfl, rfl, rfl, by omega, hidden (by simp), hidden rfl, S⟩
  case round =>
    obtain ⟨j, y, kj, hg, rfl, rfl, rfl, hj, hy, hd, S⟩ := hrel
    have hk1 := uvl_pos kj
    have hb := hs.out.byte j (by omega)
    have hx : (uv k ++ more).getD j 0 = (uv kj).headD 0 := by
      rw [← hd.out, List.getD_eq_getElem?_getD, List.getElem?_append_left (by omega)]
      simp [List.head?_drop, List.headD_eq_head?_getD]
    rw [hx] at hb
    clear hx
    by_cases hk : kj < 128
    · have hb2 : w.cell? (ad.add j) = some (Value.int IntKind.u8 (kj : Int)) := by
        rw [hb, uv_small hk, List.headD_cons, UInt8.toNat_ofNat', Nat.mod_eq_of_lt (by omega)]
      clear hb
      go_wp2_with (first | (refine wpList_ldc S ?_))
      go_ret2
      obtain ⟨hy1, hy2⟩ := hy.out
      have hkk := hkk.out
      rw [or_shl y kj (7 * j) hy2 (by omega), hy1]
      rw [uvl_small hk] at hj
      exact ⟨by rw [← hj]; rfl, S⟩
    · obtain ⟨m, hb2, hm, hm1, hm2⟩ : ∃ m : Nat, w.cell? (ad.add j) = some (Value.int IntKind.u8 (m : Int)) ∧ Hid (m = kj % 128 + 128) ∧ 128 ≤ m ∧ m < 256 := by
        refine ⟨_, hb, hidden ?_, ?_, ?_⟩ <;> rw [uv_great hk, List.headD_cons, UInt8.toNat_ofNat'] <;> omega
      clear hb
      go_wp2_with (first | (refine wpList_ldc S ?_))
      obtain ⟨hy1, hy2⟩ := hy.out
      have hkk := hkk.out
      have hu := uvl_great hk
      have hup := uvl_pos (kj / 128)
      have hp : 2 ^ (7 * (j + 1)) = 2 ^ (7 * j) * 128 := by rw [Nat.mul_add, Nat.pow_add]
      have e1 : 2 ^ (7 * j) * kj = 2 ^ (7 * j) * (kj % 128) + 2 ^ (7 * (j + 1)) * (kj / 128) := by
        rw [hp, Nat.mul_assoc, ← Nat.mul_add]
        congr 1; omega
      have e2 : 2 ^ (7 * j) * (kj % 128) ≤ 2 ^ (7 * j) * 127 := Nat.mul_le_mul_left _ (by omega)
      have e3 : m % 128 = kj % 128 := by rw [hm.out]; omega
      rw [and_127 m (by omega), e3, or_shl y (kj % 128) (7 * j) hy2 (by omega)]
      go_roundg (gk - 1)
      case measure => have := hg.out; omega
      case rel =>
        refine ⟨j + 1, y + 2 ^ (7 * j) * (kj % 128), kj / 128, hidden (by have := hg.out; omega), rfl, by go_num, by go_num, by omega, hidden ⟨by omega, by omega⟩, hidden ?_, S⟩
        rw [← List.drop_drop, hd.out, uv_great hk]; rfl
end Go.Proofs.Ytkfkcinkkgdebaa
