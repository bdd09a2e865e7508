/- Numbers out of bytes, the lowest one first. -/
import Derived.Test.YtikjncdomgkcjaaDoorXa
namespace Go.Proofs.YtikjncdomgkcjaaDoor
open Go.RowKit Go.Vil
set_option linter.unusedSimpArgs false
set_option linter.unusedVariables false

theorem or_low (i x y : Nat) (hx : x < 2 ^ i) : x ||| y * 2 ^ i = x + y * 2 ^ i := by
  have := Nat.shiftLeft_add_eq_or_of_lt hx y
  rw [Nat.shiftLeft_eq] at this
  rw [Nat.or_comm, ← this, Nat.add_comm]
theorem wrap_byte (y : UInt8) : IntKind.u64.wrap (y.toNat : Int) = ((y.toNat : Nat) : Int) := by
  have := y.toNat_lt
  rw [IntKind.wrap_u64]; omega
theorem wrap_byte32 (y : UInt8) : (y.toNat : Int) % 4294967296 = ((y.toNat : Nat) : Int) := by
  have := y.toNat_lt
  omega
theorem or64_1 (a : Nat) (y : UInt8) (ha : a < 256) : Go.bits .or .u64 (a : Int) (IntKind.u64.wrap (IntKind.u64.wrap (y.toNat : Int) * 256)) = ((a + y.toNat * 256 : Nat) : Int) := by
  have hy := y.toNat_lt
  have e : IntKind.u64.wrap (IntKind.u64.wrap (y.toNat : Int) * 256) = ((y.toNat * 256 : Nat) : Int) := by rw [wrap_byte, IntKind.wrap_u64]; omega
  rw [e, u64_or_nat _ _ (by omega) (by omega)]
  have := or_low 8 a y.toNat (by omega)
  rw [show (2 : Nat) ^ 8 = 256 from rfl] at this
  rw [this]
theorem or64_2 (a : Nat) (y : UInt8) (ha : a < 65536) : Go.bits .or .u64 (a : Int) (IntKind.u64.wrap (IntKind.u64.wrap (y.toNat : Int) * 65536)) = ((a + y.toNat * 65536 : Nat) : Int) := by
  have hy := y.toNat_lt
  have e : IntKind.u64.wrap (IntKind.u64.wrap (y.toNat : Int) * 65536) = ((y.toNat * 65536 : Nat) : Int) := by rw [wrap_byte, IntKind.wrap_u64]; omega
  rw [e, u64_or_nat _ _ (by omega) (by omega)]
  have := or_low 16 a y.toNat (by omega)
  rw [show (2 : Nat) ^ 16 = 65536 from rfl] at this
  rw [this]
theorem or64_3 (a : Nat) (y : UInt8) (ha : a < 16777216) : Go.bits .or .u64 (a : Int) (IntKind.u64.wrap (IntKind.u64.wrap (y.toNat : Int) * 16777216)) = ((a + y.toNat * 16777216 : Nat) : Int) := by
  have hy := y.toNat_lt
  have e : IntKind.u64.wrap (IntKind.u64.wrap (y.toNat : Int) * 16777216) = ((y.toNat * 16777216 : Nat) : Int) := by rw [wrap_byte, IntKind.wrap_u64]; omega
  rw [e, u64_or_nat _ _ (by omega) (by omega)]
  have := or_low 24 a y.toNat (by omega)
  rw [show (2 : Nat) ^ 24 = 16777216 from rfl] at this
  rw [this]
theorem or64_4 (a : Nat) (y : UInt8) (ha : a < 4294967296) : Go.bits .or .u64 (a : Int) (IntKind.u64.wrap (IntKind.u64.wrap (y.toNat : Int) * 4294967296)) = ((a + y.toNat * 4294967296 : Nat) : Int) := by
  have hy := y.toNat_lt
  have e : IntKind.u64.wrap (IntKind.u64.wrap (y.toNat : Int) * 4294967296) = ((y.toNat * 4294967296 : Nat) : Int) := by rw [wrap_byte, IntKind.wrap_u64]; omega
  rw [e, u64_or_nat _ _ (by omega) (by omega)]
  have := or_low 32 a y.toNat (by omega)
  rw [show (2 : Nat) ^ 32 = 4294967296 from rfl] at this
  rw [this]
theorem or64_5 (a : Nat) (y : UInt8) (ha : a < 1099511627776) : Go.bits .or .u64 (a : Int) (IntKind.u64.wrap (IntKind.u64.wrap (y.toNat : Int) * 1099511627776)) = ((a + y.toNat * 1099511627776 : Nat) : Int) := by
  have hy := y.toNat_lt
  have e : IntKind.u64.wrap (IntKind.u64.wrap (y.toNat : Int) * 1099511627776) = ((y.toNat * 1099511627776 : Nat) : Int) := by rw [wrap_byte, IntKind.wrap_u64]; omega
  rw [e, u64_or_nat _ _ (by omega) (by omega)]
  have := or_low 40 a y.toNat (by omega)
  rw [show (2 : Nat) ^ 40 = 1099511627776 from rfl] at this
  rw [this]
theorem or64_6 (a : Nat) (y : UInt8) (ha : a < 281474976710656) : Go.bits .or .u64 (a : Int) (IntKind.u64.wrap (IntKind.u64.wrap (y.toNat : Int) * 281474976710656)) = ((a + y.toNat * 281474976710656 : Nat) : Int) := by
  have hy := y.toNat_lt
  have e : IntKind.u64.wrap (IntKind.u64.wrap (y.toNat : Int) * 281474976710656) = ((y.toNat * 281474976710656 : Nat) : Int) := by rw [wrap_byte, IntKind.wrap_u64]; omega
  rw [e, u64_or_nat _ _ (by omega) (by omega)]
  have := or_low 48 a y.toNat (by omega)
  rw [show (2 : Nat) ^ 48 = 281474976710656 from rfl] at this
  rw [this]
theorem or64_7 (a : Nat) (y : UInt8) (ha : a < 72057594037927936) : Go.bits .or .u64 (a : Int) (IntKind.u64.wrap (IntKind.u64.wrap (y.toNat : Int) * 72057594037927936)) = ((a + y.toNat * 72057594037927936 : Nat) : Int) := by
  have hy := y.toNat_lt
  have e : IntKind.u64.wrap (IntKind.u64.wrap (y.toNat : Int) * 72057594037927936) = ((y.toNat * 72057594037927936 : Nat) : Int) := by rw [wrap_byte, IntKind.wrap_u64]; omega
  rw [e, u64_or_nat _ _ (by omega) (by omega)]
  have := or_low 56 a y.toNat (by omega)
  rw [show (2 : Nat) ^ 56 = 72057594037927936 from rfl] at this
  rw [this]
theorem or32_1 (a : Nat) (y : UInt8) (ha : a < 256) : Go.bits .or .u32 (a : Int) ((y.toNat : Int) % 4294967296 * 256 % 4294967296) = ((a + y.toNat * 256 : Nat) : Int) := by
  have hy := y.toNat_lt
  have e : (y.toNat : Int) % 4294967296 * 256 % 4294967296 = ((y.toNat * 256 : Nat) : Int) := by omega
  rw [e, u32_or_nat _ _ (by omega) (by omega)]
  have := or_low 8 a y.toNat (by omega)
  rw [show (2 : Nat) ^ 8 = 256 from rfl] at this
  rw [this]
theorem or32_2 (a : Nat) (y : UInt8) (ha : a < 65536) : Go.bits .or .u32 (a : Int) ((y.toNat : Int) % 4294967296 * 65536 % 4294967296) = ((a + y.toNat * 65536 : Nat) : Int) := by
  have hy := y.toNat_lt
  have e : (y.toNat : Int) % 4294967296 * 65536 % 4294967296 = ((y.toNat * 65536 : Nat) : Int) := by omega
  rw [e, u32_or_nat _ _ (by omega) (by omega)]
  have := or_low 16 a y.toNat (by omega)
  rw [show (2 : Nat) ^ 16 = 65536 from rfl] at this
  rw [this]
theorem or32_3 (a : Nat) (y : UInt8) (ha : a < 16777216) : Go.bits .or .u32 (a : Int) ((y.toNat : Int) % 4294967296 * 16777216 % 4294967296) = ((a + y.toNat * 16777216 : Nat) : Int) := by
  have hy := y.toNat_lt
  have e : (y.toNat : Int) % 4294967296 * 16777216 % 4294967296 = ((y.toNat * 16777216 : Nat) : Int) := by omega
  rw [e, u32_or_nat _ _ (by omega) (by omega)]
  have := or_low 24 a y.toNat (by omega)
  rw [show (2 : Nat) ^ 24 = 16777216 from rfl] at this
  rw [this]

theorem le8_of (l : List UInt8) (h : 8 ≤ l.length) : (l.getD 0 0).toNat + (l.getD 1 0).toNat * 256 + (l.getD 2 0).toNat * 65536 + (l.getD 3 0).toNat * 16777216 + (l.getD 4 0).toNat * 4294967296 + (l.getD 5 0).toNat * 1099511627776 + (l.getD 6 0).toNat * 281474976710656 + (l.getD 7 0).toNat * 72057594037927936 = leVal (l.take 8) := by
  match l, h with
  | x0 :: x1 :: x2 :: x3 :: x4 :: x5 :: x6 :: x7 :: l, _ => simp [leVal]; omega

set_option maxHeartbeats 1600000 in
set_option maxRecDepth 100000 in
theorem uint64 (ad : Addr) (n c : Nat) (l : List UInt8) (w : World) (hs : Src w 1 (.slice (some ad) n c) n (u8s l)) (hn : 8 ≤ n) (hm : n ≤ maxLen) :
    Calls Tryd.prog 24 #[.agg #[], .slice (some ad) n c] w fun e w' => e = .returned (.int .u64 (leVal (l.take 8))) ∧ St w [] w' [] := by
  have S := St.begin w
  unfold maxLen at hm
  have g0 := hs.byte 0 (by omega)
  have g1 := hs.byte 1 (by omega)
  have g2 := hs.byte 2 (by omega)
  have g3 := hs.byte 3 (by omega)
  have g4 := hs.byte 4 (by omega)
  have g5 := hs.byte 5 (by omega)
  have g6 := hs.byte 6 (by omega)
  have g7 := hs.byte 7 (by omega)
  generalize hc0 : l.getD 0 0 = x0 at g0
  generalize hc1 : l.getD 1 0 = x1 at g1
  generalize hc2 : l.getD 2 0 = x2 at g2
  generalize hc3 : l.getD 3 0 = x3 at g3
  generalize hc4 : l.getD 4 0 = x4 at g4
  generalize hc5 : l.getD 5 0 = x5 at g5
  generalize hc6 : l.getD 6 0 = x6 at g6
  generalize hc7 : l.getD 7 0 = x7 at g7
  have hl := hidden hs.len8
  have H := hidden (And.intro hc0 (And.intro hc1 (And.intro hc2 (And.intro hc3 (And.intro hc4 (And.intro hc5 (And.intro hc6 hc7)))))))
  clear hc0 hc1 hc2 hc3 hc4 hc5 hc6 hc7
  go_enter Tryd.func24, Tryd.ntmps24
  go_wp2_with (first | go_big_skip | ((with_reducible show Code.wp _ (Code.region _ _ true) _ _ _); refine St.regionLast S ?_; (repeat (first | (go_big_quiet_step (fail)) | (go_big_quiet_want; (first | refine quiet_ld S ?_ | refine quiet_ld8 S ?_ | refine quiet_ld0 ?_ | refine quiet_ldA S ?_ | refine quiet_b2sB S ?_ | refine quiet_b2sR S ?_ | refine quiet_ldc S ?_); go_big_quiet_on))); refine wpQuiet_nil ?_; clear S; intro wq S) | go_big_skip | (refine wpList_ld S ?_) | (refine wpList_ld8 S ?_) | (refine wpList_ld0 ?_) | (refine wpList_ldA S ?_) | (refine wpList_st8 S ?_; (clear S; intro ws S)) | (refine wpList_st S ?_; (clear S; intro ws S)) | (refine wpList_box S ?_; (clear S; intro nb wb hnb S)) | (refine wpList_alloc S ?_; (clear S; intro nb wb hnb S)) | (refine wpList_mk8 S ?_; (clear S; intro nb wb hnb S)) | (refine wpList_mk S ?_; (clear S; intro nb wb hnb S)) | (refine wpList_bs S ?_; (clear S; intro nb wb hnb S)) | (refine wpList_stA S ?_; (clear S; intro ws S; simp only [splice, List.take_zero, List.take_succ_cons, List.drop_succ_cons, List.drop_zero, List.drop_nil, List.length_cons, List.length_nil, Nat.reduceAdd, Nat.zero_add, List.nil_append, List.cons_append, List.append_nil] at S)) | (refine wpList_b2sB S ?_) | (refine wpList_b2sR S ?_) | (refine wpList_ldc S ?_))
  go_ret
  refine ⟨retI ?_, S.sel (by repeat (first | exact Sel.nil | (apply Sel.cons; (repeat (first | exact Pull.head | apply Pull.tail)))))⟩
  obtain ⟨hc0, hc1, hc2, hc3, hc4, hc5, hc6, hc7⟩ := H.out
  rw [← le8_of l (by have := hl.out; omega), hc0, hc1, hc2, hc3, hc4, hc5, hc6, hc7]
  have := x0.toNat_lt
  have := x1.toNat_lt
  have := x2.toNat_lt
  have := x3.toNat_lt
  have := x4.toNat_lt
  have := x5.toNat_lt
  have := x6.toNat_lt
  have := x7.toNat_lt
  rw [wrap_byte, or64_1 _ _ (by omega), or64_2 _ _ (by omega), or64_3 _ _ (by omega), or64_4 _ _ (by omega), or64_5 _ _ (by omega), or64_6 _ _ (by omega), or64_7 _ _ (by omega)]

theorem le4_of (l : List UInt8) (h : 4 ≤ l.length) : (l.getD 0 0).toNat + (l.getD 1 0).toNat * 256 + (l.getD 2 0).toNat * 65536 + (l.getD 3 0).toNat * 16777216 = leVal (l.take 4) := by
  match l, h with
  | x0 :: x1 :: x2 :: x3 :: l, _ => simp [leVal]; omega

set_option maxHeartbeats 1600000 in
set_option maxRecDepth 100000 in
theorem uint32 (ad : Addr) (n c : Nat) (l : List UInt8) (w : World) (hs : Src w 1 (.slice (some ad) n c) n (u8s l)) (hn : 4 ≤ n) (hm : n ≤ maxLen) :
    Calls Tryd.prog 26 #[.agg #[], .slice (some ad) n c] w fun e w' => e = .returned (.int .u32 (leVal (l.take 4))) ∧ St w [] w' [] := by
  have S := St.begin w
  unfold maxLen at hm
  have g0 := hs.byte 0 (by omega)
  have g1 := hs.byte 1 (by omega)
  have g2 := hs.byte 2 (by omega)
  have g3 := hs.byte 3 (by omega)
  generalize hc0 : l.getD 0 0 = x0 at g0
  generalize hc1 : l.getD 1 0 = x1 at g1
  generalize hc2 : l.getD 2 0 = x2 at g2
  generalize hc3 : l.getD 3 0 = x3 at g3
  have hl := hidden hs.len8
  have H := hidden (And.intro hc0 (And.intro hc1 (And.intro hc2 hc3)))
  clear hc0 hc1 hc2 hc3
  go_enter Tryd.func26, Tryd.ntmps26
  go_wp2_with (first | go_big_skip | ((with_reducible show Code.wp _ (Code.region _ _ true) _ _ _); refine St.regionLast S ?_; (repeat (first | (go_big_quiet_step (fail)) | (go_big_quiet_want; (first | refine quiet_ld S ?_ | refine quiet_ld8 S ?_ | refine quiet_ld0 ?_ | refine quiet_ldA S ?_ | refine quiet_b2sB S ?_ | refine quiet_b2sR S ?_ | refine quiet_ldc S ?_); go_big_quiet_on))); refine wpQuiet_nil ?_; clear S; intro wq S) | go_big_skip | (refine wpList_ld S ?_) | (refine wpList_ld8 S ?_) | (refine wpList_ld0 ?_) | (refine wpList_ldA S ?_) | (refine wpList_st8 S ?_; (clear S; intro ws S)) | (refine wpList_st S ?_; (clear S; intro ws S)) | (refine wpList_box S ?_; (clear S; intro nb wb hnb S)) | (refine wpList_alloc S ?_; (clear S; intro nb wb hnb S)) | (refine wpList_mk8 S ?_; (clear S; intro nb wb hnb S)) | (refine wpList_mk S ?_; (clear S; intro nb wb hnb S)) | (refine wpList_bs S ?_; (clear S; intro nb wb hnb S)) | (refine wpList_stA S ?_; (clear S; intro ws S; simp only [splice, List.take_zero, List.take_succ_cons, List.drop_succ_cons, List.drop_zero, List.drop_nil, List.length_cons, List.length_nil, Nat.reduceAdd, Nat.zero_add, List.nil_append, List.cons_append, List.append_nil] at S)) | (refine wpList_b2sB S ?_) | (refine wpList_b2sR S ?_) | (refine wpList_ldc S ?_))
  go_ret
  refine ⟨retI ?_, S.sel (by repeat (first | exact Sel.nil | (apply Sel.cons; (repeat (first | exact Pull.head | apply Pull.tail)))))⟩
  obtain ⟨hc0, hc1, hc2, hc3⟩ := H.out
  rw [← le4_of l (by have := hl.out; omega), hc0, hc1, hc2, hc3]
  have := x0.toNat_lt
  have := x1.toNat_lt
  have := x2.toNat_lt
  have := x3.toNat_lt
  rw [wrap_byte32, or32_1 _ _ (by omega), or32_2 _ _ (by omega), or32_3 _ _ (by omega)]

theorem xxu64 (ad : Addr) (n c : Nat) (l : List UInt8) (w : World) (hs : Src w 1 (.slice (some ad) n c) n (u8s l)) (hn : 8 ≤ n) (hm : n ≤ maxLen) :
    Calls Tryd.prog 13 #[.slice (some ad) n c] w fun e w' => e = .returned (.int .u64 (leVal (l.take 8))) ∧ St w [] w' [] := by
  have S := St.begin w
  have hs := hidden hs
  have hn := hidden hn
  have hm := hidden hm
  go_enter Tryd.func13, Tryd.ntmps13
  go_wp2_with (first | go_big_skip | ((with_reducible show Code.wp _ (Code.region _ _ true) _ _ _); refine St.regionLast S ?_; (repeat (first | (go_big_quiet_step (fail)) | (go_big_quiet_want; (first | refine quiet_ld S ?_ | refine quiet_ld8 S ?_ | refine quiet_ld0 ?_ | refine quiet_ldA S ?_ | refine quiet_b2sB S ?_ | refine quiet_b2sR S ?_ | refine quiet_ldc S ?_); go_big_quiet_on))); refine wpQuiet_nil ?_; clear S; intro wq S) | go_big_skip | (refine wpList_ld S ?_) | (refine wpList_ld8 S ?_) | (refine wpList_ld0 ?_) | (refine wpList_ldA S ?_) | (refine wpList_st8 S ?_; (clear S; intro ws S)) | (refine wpList_st S ?_; (clear S; intro ws S)) | (refine wpList_box S ?_; (clear S; intro nb wb hnb S)) | (refine wpList_alloc S ?_; (clear S; intro nb wb hnb S)) | (refine wpList_mk8 S ?_; (clear S; intro nb wb hnb S)) | (refine wpList_mk S ?_; (clear S; intro nb wb hnb S)) | (refine wpList_bs S ?_; (clear S; intro nb wb hnb S)) | (refine wpList_stA S ?_; (clear S; intro ws S; simp only [splice, List.take_zero, List.take_succ_cons, List.drop_succ_cons, List.drop_zero, List.drop_nil, List.length_cons, List.length_nil, Nat.reduceAdd, Nat.zero_add, List.nil_append, List.cons_append, List.append_nil] at S)) | (refine wpList_b2sB S ?_) | (refine wpList_b2sR S ?_) | (refine wpList_ldc S ?_))
  refine Calls.mono (uint64 ad n c l _ (hs.out.on S.chg) hn.out hm.out) ?_
  rintro e w2 ⟨rfl, C⟩
  have S2 := S.call C; clear S C; simp only [List.cons_append, List.nil_append] at S2; have S := S2; clear S2
  go_wp2_with (first | go_big_skip | ((with_reducible show Code.wp _ (Code.region _ _ true) _ _ _); refine St.regionLast S ?_; (repeat (first | (go_big_quiet_step (fail)) | (go_big_quiet_want; (first | refine quiet_ld S ?_ | refine quiet_ld8 S ?_ | refine quiet_ld0 ?_ | refine quiet_ldA S ?_ | refine quiet_b2sB S ?_ | refine quiet_b2sR S ?_ | refine quiet_ldc S ?_); go_big_quiet_on))); refine wpQuiet_nil ?_; clear S; intro wq S) | go_big_skip | (refine wpList_ld S ?_) | (refine wpList_ld8 S ?_) | (refine wpList_ld0 ?_) | (refine wpList_ldA S ?_) | (refine wpList_st8 S ?_; (clear S; intro ws S)) | (refine wpList_st S ?_; (clear S; intro ws S)) | (refine wpList_box S ?_; (clear S; intro nb wb hnb S)) | (refine wpList_alloc S ?_; (clear S; intro nb wb hnb S)) | (refine wpList_mk8 S ?_; (clear S; intro nb wb hnb S)) | (refine wpList_mk S ?_; (clear S; intro nb wb hnb S)) | (refine wpList_bs S ?_; (clear S; intro nb wb hnb S)) | (refine wpList_stA S ?_; (clear S; intro ws S; simp only [splice, List.take_zero, List.take_succ_cons, List.drop_succ_cons, List.drop_zero, List.drop_nil, List.length_cons, List.length_nil, Nat.reduceAdd, Nat.zero_add, List.nil_append, List.cons_append, List.append_nil] at S)) | (refine wpList_b2sB S ?_) | (refine wpList_b2sR S ?_) | (refine wpList_ldc S ?_))
  go_ret
  exact ⟨rfl, S⟩
theorem xxu32 (ad : Addr) (n c : Nat) (l : List UInt8) (w : World) (hs : Src w 1 (.slice (some ad) n c) n (u8s l)) (hn : 4 ≤ n) (hm : n ≤ maxLen) :
    Calls Tryd.prog 20 #[.slice (some ad) n c] w fun e w' => e = .returned (.int .u32 (leVal (l.take 4))) ∧ St w [] w' [] := by
  have S := St.begin w
  have hs := hidden hs
  have hn := hidden hn
  have hm := hidden hm
  go_enter Tryd.func20, Tryd.ntmps20
  go_wp2_with (first | go_big_skip | ((with_reducible show Code.wp _ (Code.region _ _ true) _ _ _); refine St.regionLast S ?_; (repeat (first | (go_big_quiet_step (fail)) | (go_big_quiet_want; (first | refine quiet_ld S ?_ | refine quiet_ld8 S ?_ | refine quiet_ld0 ?_ | refine quiet_ldA S ?_ | refine quiet_b2sB S ?_ | refine quiet_b2sR S ?_ | refine quiet_ldc S ?_); go_big_quiet_on))); refine wpQuiet_nil ?_; clear S; intro wq S) | go_big_skip | (refine wpList_ld S ?_) | (refine wpList_ld8 S ?_) | (refine wpList_ld0 ?_) | (refine wpList_ldA S ?_) | (refine wpList_st8 S ?_; (clear S; intro ws S)) | (refine wpList_st S ?_; (clear S; intro ws S)) | (refine wpList_box S ?_; (clear S; intro nb wb hnb S)) | (refine wpList_alloc S ?_; (clear S; intro nb wb hnb S)) | (refine wpList_mk8 S ?_; (clear S; intro nb wb hnb S)) | (refine wpList_mk S ?_; (clear S; intro nb wb hnb S)) | (refine wpList_bs S ?_; (clear S; intro nb wb hnb S)) | (refine wpList_stA S ?_; (clear S; intro ws S; simp only [splice, List.take_zero, List.take_succ_cons, List.drop_succ_cons, List.drop_zero, List.drop_nil, List.length_cons, List.length_nil, Nat.reduceAdd, Nat.zero_add, List.nil_append, List.cons_append, List.append_nil] at S)) | (refine wpList_b2sB S ?_) | (refine wpList_b2sR S ?_) | (refine wpList_ldc S ?_))
  refine Calls.mono (uint32 ad n c l _ (hs.out.on S.chg) hn.out hm.out) ?_
  rintro e w2 ⟨rfl, C⟩
  have S2 := S.call C; clear S C; simp only [List.cons_append, List.nil_append] at S2; have S := S2; clear S2
  go_wp2_with (first | go_big_skip | ((with_reducible show Code.wp _ (Code.region _ _ true) _ _ _); refine St.regionLast S ?_; (repeat (first | (go_big_quiet_step (fail)) | (go_big_quiet_want; (first | refine quiet_ld S ?_ | refine quiet_ld8 S ?_ | refine quiet_ld0 ?_ | refine quiet_ldA S ?_ | refine quiet_b2sB S ?_ | refine quiet_b2sR S ?_ | refine quiet_ldc S ?_); go_big_quiet_on))); refine wpQuiet_nil ?_; clear S; intro wq S) | go_big_skip | (refine wpList_ld S ?_) | (refine wpList_ld8 S ?_) | (refine wpList_ld0 ?_) | (refine wpList_ldA S ?_) | (refine wpList_st8 S ?_; (clear S; intro ws S)) | (refine wpList_st S ?_; (clear S; intro ws S)) | (refine wpList_box S ?_; (clear S; intro nb wb hnb S)) | (refine wpList_alloc S ?_; (clear S; intro nb wb hnb S)) | (refine wpList_mk8 S ?_; (clear S; intro nb wb hnb S)) | (refine wpList_mk S ?_; (clear S; intro nb wb hnb S)) | (refine wpList_bs S ?_; (clear S; intro nb wb hnb S)) | (refine wpList_stA S ?_; (clear S; intro ws S; simp only [splice, List.take_zero, List.take_succ_cons, List.drop_succ_cons, List.drop_zero, List.drop_nil, List.length_cons, List.length_nil, Nat.reduceAdd, Nat.zero_add, List.nil_append, List.cons_append, List.append_nil] at S)) | (refine wpList_b2sB S ?_) | (refine wpList_b2sR S ?_) | (refine wpList_ldc S ?_))
  go_ret
  exact ⟨rfl, S⟩
end Go.Proofs.YtikjncdomgkcjaaDoor
