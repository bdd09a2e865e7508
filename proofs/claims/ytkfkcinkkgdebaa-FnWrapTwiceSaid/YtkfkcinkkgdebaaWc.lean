/- A wrapped entry is unwrapped: its time, its hash, its key and its bytes. -/
import Derived.Test.YtkfkcinkkgdebaaWb
namespace Go.Proofs.Ytkfkcinkkgdebaa
open Go Go.RowKit Go.Vil
set_option linter.unusedSimpArgs false
set_option linter.unusedVariables false
set_option maxRecDepth 100000

theorem wrap_byte (y : UInt8) : IntKind.u64.wrap (y.toNat : Int) = ((y.toNat : Nat) : Int) := by
  have := y.toNat_lt
  rw [IntKind.wrap_u64]; omega

theorem or64_1 (a : Nat) (y : UInt8) (ha : a < 256) : Go.bits .or .u64 (a : Int) (IntKind.u64.wrap (IntKind.u64.wrap (y.toNat : Int) * 256)) = ((a + y.toNat * 256 : Nat) : Int) := by
  have hy := y.toNat_lt
  have e : IntKind.u64.wrap (IntKind.u64.wrap (y.toNat : Int) * 256) = ((y.toNat * 256 : Nat) : Int) := by rw [wrap_byte, IntKind.wrap_u64]; omega
  rw [e, u64_or_nat _ _ (by omega) (by omega)]
  have := or_low 8 a y.toNat (by omega)
  rw [show (2 : Nat) ^ 8 = 256 from rfl] at this
  rw [this]

theorem or64_2 (a : Nat) (y : UInt8) (ha : a < 65536) : Go.bits .or .u64 (a : Int) (IntKind.u64.wrap (IntKind.u64.wrap (y.toNat : Int) * 65536)) = ((a + y.toNat * 65536 : Nat) : Int) := by
  have hy := y.toNat_lt
  have e : IntKind.u64.wrap (IntKind.u64.wrap (y.toNat : Int) * 65536) = ((y.toNat * 65536 : Nat) : Int) := by rw [wrap_byte, IntKind.wrap_u64]; omega
  rw [e, u64_or_nat _ _ (by omega) (by omega)]
  have := or_low 16 a y.toNat (by omega)
  rw [show (2 : Nat) ^ 16 = 65536 from rfl] at this
  rw [this]

theorem or64_3 (a : Nat) (y : UInt8) (ha : a < 16777216) : Go.bits .or .u64 (a : Int) (IntKind.u64.wrap (IntKind.u64.wrap (y.toNat : Int) * 16777216)) = ((a + y.toNat * 16777216 : Nat) : Int) := by
  have hy := y.toNat_lt
  have e : IntKind.u64.wrap (IntKind.u64.wrap (y.toNat : Int) * 16777216) = ((y.toNat * 16777216 : Nat) : Int) := by rw [wrap_byte, IntKind.wrap_u64]; omega
  rw [e, u64_or_nat _ _ (by omega) (by omega)]
  have := or_low 24 a y.toNat (by omega)
  rw [show (2 : Nat) ^ 24 = 16777216 from rfl] at this
  rw [this]

theorem or64_4 (a : Nat) (y : UInt8) (ha : a < 4294967296) : Go.bits .or .u64 (a : Int) (IntKind.u64.wrap (IntKind.u64.wrap (y.toNat : Int) * 4294967296)) = ((a + y.toNat * 4294967296 : Nat) : Int) := by
  have hy := y.toNat_lt
  have e : IntKind.u64.wrap (IntKind.u64.wrap (y.toNat : Int) * 4294967296) = ((y.toNat * 4294967296 : Nat) : Int) := by rw [wrap_byte, IntKind.wrap_u64]; omega
  rw [e, u64_or_nat _ _ (by omega) (by omega)]
  have := or_low 32 a y.toNat (by omega)
  rw [show (2 : Nat) ^ 32 = 4294967296 from rfl] at this
  rw [this]

theorem or64_5 (a : Nat) (y : UInt8) (ha : a < 1099511627776) : Go.bits .or .u64 (a : Int) (IntKind.u64.wrap (IntKind.u64.wrap (y.toNat : Int) * 1099511627776)) = ((a + y.toNat * 1099511627776 : Nat) : Int) := by
  have hy := y.toNat_lt
  have e : IntKind.u64.wrap (IntKind.u64.wrap (y.toNat : Int) * 1099511627776) = ((y.toNat * 1099511627776 : Nat) : Int) := by rw [wrap_byte, IntKind.wrap_u64]; omega
  rw [e, u64_or_nat _ _ (by omega) (by omega)]
  have := or_low 40 a y.toNat (by omega)
  rw [show (2 : Nat) ^ 40 = 1099511627776 from rfl] at this
  rw [this]

theorem or64_6 (a : Nat) (y : UInt8) (ha : a < 281474976710656) : Go.bits .or .u64 (a : Int) (IntKind.u64.wrap (IntKind.u64.wrap (y.toNat : Int) * 281474976710656)) = ((a + y.toNat * 281474976710656 : Nat) : Int) := by
  have hy := y.toNat_lt
  have e : IntKind.u64.wrap (IntKind.u64.wrap (y.toNat : Int) * 281474976710656) = ((y.toNat * 281474976710656 : Nat) : Int) := by rw [wrap_byte, IntKind.wrap_u64]; omega
  rw [e, u64_or_nat _ _ (by omega) (by omega)]
  have := or_low 48 a y.toNat (by omega)
  rw [show (2 : Nat) ^ 48 = 281474976710656 from rfl] at this
  rw [this]

theorem or64_7 (a : Nat) (y : UInt8) (ha : a < 72057594037927936) : Go.bits .or .u64 (a : Int) (IntKind.u64.wrap (IntKind.u64.wrap (y.toNat : Int) * 72057594037927936)) = ((a + y.toNat * 72057594037927936 : Nat) : Int) := by
  have hy := y.toNat_lt
  have e : IntKind.u64.wrap (IntKind.u64.wrap (y.toNat : Int) * 72057594037927936) = ((y.toNat * 72057594037927936 : Nat) : Int) := by rw [wrap_byte, IntKind.wrap_u64]; omega
  rw [e, u64_or_nat _ _ (by omega) (by omega)]
  have := or_low 56 a y.toNat (by omega)
  rw [show (2 : Nat) ^ 56 = 72057594037927936 from rfl] at this
  rw [this]

theorem le8_of (l : List UInt8) (h : 8 ≤ l.length) : (l.getD 0 0).toNat + (l.getD 1 0).toNat * 256 + (l.getD 2 0).toNat * 65536 + (l.getD 3 0).toNat * 16777216 + (l.getD 4 0).toNat * 4294967296 + (l.getD 5 0).toNat * 1099511627776 + (l.getD 6 0).toNat * 281474976710656 + (l.getD 7 0).toNat * 72057594037927936 = leVal (l.take 8) := by
  match l, h with
  | x0 :: x1 :: x2 :: x3 :: x4 :: x5 :: x6 :: x7 :: l, _ => simp [leVal]; omega

set_option maxHeartbeats 1600000 in
set_option maxRecDepth 100000 in
theorem uint64 (ad : Addr) (n c : Nat) (l : List UInt8) (w : World) (hs : Src w 1 (.slice (some ad) n c) n (u8s l)) (hn : 8 ≤ n) (hm : n ≤ maxLen) :
    Calls Try.prog 85 #[.agg #[], .slice (some ad) n c] w fun e w' => e = .returned (.int .u64 (leVal (l.take 8))) ∧ St w [] w' [] := by
  have S := St.begin w
  unfold maxLen at hm
  have g0 := hs.byte 0 (by omega)
  have g1 := hs.byte 1 (by omega)
  have g2 := hs.byte 2 (by omega)
  have g3 := hs.byte 3 (by omega)
  have g4 := hs.byte 4 (by omega)
  have g5 := hs.byte 5 (by omega)
  have g6 := hs.byte 6 (by omega)
  have g7 := hs.byte 7 (by omega)
  generalize hc0 : l.getD 0 0 = x0 at g0
  generalize hc1 : l.getD 1 0 = x1 at g1
  generalize hc2 : l.getD 2 0 = x2 at g2
  generalize hc3 : l.getD 3 0 = x3 at g3
  generalize hc4 : l.getD 4 0 = x4 at g4
  generalize hc5 : l.getD 5 0 = x5 at g5
  generalize hc6 : l.getD 6 0 = x6 at g6
  generalize hc7 : l.getD 7 0 = x7 at g7
  have hl := hidden hs.len8
  have H := hidden (And.intro hc0 (And.intro hc1 (And.intro hc2 (And.intro hc3 (And.intro hc4 (And.intro hc5 (And.intro hc6 hc7)))))))
  clear hc0 hc1 hc2 hc3 hc4 hc5 hc6 hc7
  go_enter Try.func85, Try.ntmps85
  go_wp2_with (first | ((with_reducible show Code.wp _ (Code.region _ _ true) _ _ _); refine St.regionLast S ?_; (repeat (first | (go_big_quiet_step (fail)) | (go_big_quiet_want; (first | refine quiet_ld S ?_ | refine quiet_ld8 S ?_ | refine quiet_ld0 ?_ | refine quiet_ldA S ?_ | refine quiet_b2sB S ?_ | refine quiet_b2sR S ?_ | refine quiet_ldc S ?_); go_big_quiet_on))); refine wpQuiet_nil ?_; clear S; intro wq S) | (refine wpList_ld S ?_) | (refine wpList_ld8 S ?_) | (refine wpList_ld0 ?_) | (refine wpList_ldA S ?_) | (refine wpList_st8 S ?_; (clear S; intro ws S)) | (refine wpList_st S ?_; (clear S; intro ws S)) | (refine wpList_box S ?_; (clear S; intro nb wb hnb S)) | (refine wpList_alloc S ?_; (clear S; intro nb wb hnb S)) | (refine wpList_mk8 S ?_; (clear S; intro nb wb hnb S)) | (refine wpList_mk S ?_; (clear S; intro nb wb hnb S)) | (refine wpList_bs S ?_; (clear S; intro nb wb hnb S)) | (refine wpList_stA S ?_; (clear S; intro ws S; simp only [splice, List.take_zero, List.take_succ_cons, List.drop_succ_cons, List.drop_zero, List.drop_nil, List.length_cons, List.length_nil, Nat.reduceAdd, Nat.zero_add, List.nil_append, List.cons_append, List.append_nil] at S)) | (refine wpList_b2sB S ?_) | (refine wpList_b2sR S ?_) | (refine wpList_ldc S ?_))
  go_ret
  refine ⟨retI ?_, S.sel (by repeat (first | exact Sel.nil | (apply Sel.cons; (repeat (first | exact Pull.head | apply Pull.tail)))))⟩
  obtain ⟨hc0, hc1, hc2, hc3, hc4, hc5, hc6, hc7⟩ := H.out
  rw [← le8_of l (by have := hl.out; omega), hc0, hc1, hc2, hc3, hc4, hc5, hc6, hc7]
  have := x0.toNat_lt
  have := x1.toNat_lt
  have := x2.toNat_lt
  have := x3.toNat_lt
  have := x4.toNat_lt
  have := x5.toNat_lt
  have := x6.toNat_lt
  have := x7.toNat_lt
  rw [wrap_byte, or64_1 _ _ (by omega), or64_2 _ _ (by omega), or64_3 _ _ (by omega), or64_4 _ _ (by omega), or64_5 _ _ (by omega), or64_6 _ _ (by omega), or64_7 _ _ (by omega)]

theorem readTime (ad : Addr) (n c : Nat) (l : List UInt8) (w : World) (hs : Src w 1 (.slice (some ad) n c) n (u8s l)) (hn : 8 ≤ n) (hm : n ≤ maxLen) :
    Calls Try.prog 73 #[.slice (some ad) n c] w fun e w' => e = .returned (.int .u64 (leVal (l.take 8))) ∧ St w [] w' [] := by
  have S := St.begin w
  replace hs := hidden hs
  go_enter Try.func73, Try.ntmps73
  go_wp2_with (first | ((with_reducible show Code.wp _ (Code.region _ _ true) _ _ _); refine St.regionLast S ?_; (repeat (first | (go_big_quiet_step (fail)) | (go_big_quiet_want; (first | refine quiet_ld S ?_ | refine quiet_ld8 S ?_ | refine quiet_ld0 ?_ | refine quiet_ldA S ?_ | refine quiet_b2sB S ?_ | refine quiet_b2sR S ?_ | refine quiet_ldc S ?_); go_big_quiet_on))); refine wpQuiet_nil ?_; clear S; intro wq S) | (refine wpList_ld S ?_) | (refine wpList_ld8 S ?_) | (refine wpList_ld0 ?_) | (refine wpList_ldA S ?_) | (refine wpList_st8 S ?_; (clear S; intro ws S)) | (refine wpList_st S ?_; (clear S; intro ws S)) | (refine wpList_box S ?_; (clear S; intro nb wb hnb S)) | (refine wpList_alloc S ?_; (clear S; intro nb wb hnb S)) | (refine wpList_mk8 S ?_; (clear S; intro nb wb hnb S)) | (refine wpList_mk S ?_; (clear S; intro nb wb hnb S)) | (refine wpList_bs S ?_; (clear S; intro nb wb hnb S)) | (refine wpList_stA S ?_; (clear S; intro ws S; simp only [splice, List.take_zero, List.take_succ_cons, List.drop_succ_cons, List.drop_zero, List.drop_nil, List.length_cons, List.length_nil, Nat.reduceAdd, Nat.zero_add, List.nil_append, List.cons_append, List.append_nil] at S)) | (refine wpList_b2sB S ?_) | (refine wpList_b2sR S ?_) | (refine wpList_ldc S ?_))
  refine Calls.mono (uint64 ad n c l _ (hs.out.on S.chg) hn hm) ?_
  rintro e w2 ⟨rfl, C⟩
  have S2 := S.call C; clear S C; simp only [List.cons_append, List.nil_append] at S2; have S := S2; clear S2
  go_wp2_with (first | ((with_reducible show Code.wp _ (Code.region _ _ true) _ _ _); refine St.regionLast S ?_; (repeat (first | (go_big_quiet_step (fail)) | (go_big_quiet_want; (first | refine quiet_ld S ?_ | refine quiet_ld8 S ?_ | refine quiet_ld0 ?_ | refine quiet_ldA S ?_ | refine quiet_b2sB S ?_ | refine quiet_b2sR S ?_ | refine quiet_ldc S ?_); go_big_quiet_on))); refine wpQuiet_nil ?_; clear S; intro wq S) | (refine wpList_ld S ?_) | (refine wpList_ld8 S ?_) | (refine wpList_ld0 ?_) | (refine wpList_ldA S ?_) | (refine wpList_st8 S ?_; (clear S; intro ws S)) | (refine wpList_st S ?_; (clear S; intro ws S)) | (refine wpList_box S ?_; (clear S; intro nb wb hnb S)) | (refine wpList_alloc S ?_; (clear S; intro nb wb hnb S)) | (refine wpList_mk8 S ?_; (clear S; intro nb wb hnb S)) | (refine wpList_mk S ?_; (clear S; intro nb wb hnb S)) | (refine wpList_bs S ?_; (clear S; intro nb wb hnb S)) | (refine wpList_stA S ?_; (clear S; intro ws S; simp only [splice, List.take_zero, List.take_succ_cons, List.drop_succ_cons, List.drop_zero, List.drop_nil, List.length_cons, List.length_nil, Nat.reduceAdd, Nat.zero_add, List.nil_append, List.cons_append, List.append_nil] at S)) | (refine wpList_b2sB S ?_) | (refine wpList_b2sR S ?_) | (refine wpList_ldc S ?_))
  go_ret
  exact ⟨rfl, S⟩
theorem zzTime (ad : Addr) (n c : Nat) (l : List UInt8) (w : World) (hs : Src w 1 (.slice (some ad) n c) n (u8s l)) (hn : 8 ≤ n) (hm : n ≤ maxLen) :
    Calls Try.prog 46 #[.slice (some ad) n c] w fun e w' => e = .returned (.int .u64 (leVal (l.take 8))) ∧ St w [] w' [] := by
  have S := St.begin w
  replace hs := hidden hs
  go_enter Try.func46, Try.ntmps46
  go_wp2_with (first | ((with_reducible show Code.wp _ (Code.region _ _ true) _ _ _); refine St.regionLast S ?_; (repeat (first | (go_big_quiet_step (fail)) | (go_big_quiet_want; (first | refine quiet_ld S ?_ | refine quiet_ld8 S ?_ | refine quiet_ld0 ?_ | refine quiet_ldA S ?_ | refine quiet_b2sB S ?_ | refine quiet_b2sR S ?_ | refine quiet_ldc S ?_); go_big_quiet_on))); refine wpQuiet_nil ?_; clear S; intro wq S) | (refine wpList_ld S ?_) | (refine wpList_ld8 S ?_) | (refine wpList_ld0 ?_) | (refine wpList_ldA S ?_) | (refine wpList_st8 S ?_; (clear S; intro ws S)) | (refine wpList_st S ?_; (clear S; intro ws S)) | (refine wpList_box S ?_; (clear S; intro nb wb hnb S)) | (refine wpList_alloc S ?_; (clear S; intro nb wb hnb S)) | (refine wpList_mk8 S ?_; (clear S; intro nb wb hnb S)) | (refine wpList_mk S ?_; (clear S; intro nb wb hnb S)) | (refine wpList_bs S ?_; (clear S; intro nb wb hnb S)) | (refine wpList_stA S ?_; (clear S; intro ws S; simp only [splice, List.take_zero, List.take_succ_cons, List.drop_succ_cons, List.drop_zero, List.drop_nil, List.length_cons, List.length_nil, Nat.reduceAdd, Nat.zero_add, List.nil_append, List.cons_append, List.append_nil] at S)) | (refine wpList_b2sB S ?_) | (refine wpList_b2sR S ?_) | (refine wpList_ldc S ?_))
  refine Calls.mono (readTime ad n c l _ (hs.out.on S.chg) hn hm) ?_
  rintro e w2 ⟨rfl, C⟩
  have S2 := S.call C; clear S C; simp only [List.cons_append, List.nil_append] at S2; have S := S2; clear S2
  go_wp2_with (first | ((with_reducible show Code.wp _ (Code.region _ _ true) _ _ _); refine St.regionLast S ?_; (repeat (first | (go_big_quiet_step (fail)) | (go_big_quiet_want; (first | refine quiet_ld S ?_ | refine quiet_ld8 S ?_ | refine quiet_ld0 ?_ | refine quiet_ldA S ?_ | refine quiet_b2sB S ?_ | refine quiet_b2sR S ?_ | refine quiet_ldc S ?_); go_big_quiet_on))); refine wpQuiet_nil ?_; clear S; intro wq S) | (refine wpList_ld S ?_) | (refine wpList_ld8 S ?_) | (refine wpList_ld0 ?_) | (refine wpList_ldA S ?_) | (refine wpList_st8 S ?_; (clear S; intro ws S)) | (refine wpList_st S ?_; (clear S; intro ws S)) | (refine wpList_box S ?_; (clear S; intro nb wb hnb S)) | (refine wpList_alloc S ?_; (clear S; intro nb wb hnb S)) | (refine wpList_mk8 S ?_; (clear S; intro nb wb hnb S)) | (refine wpList_mk S ?_; (clear S; intro nb wb hnb S)) | (refine wpList_bs S ?_; (clear S; intro nb wb hnb S)) | (refine wpList_stA S ?_; (clear S; intro ws S; simp only [splice, List.take_zero, List.take_succ_cons, List.drop_succ_cons, List.drop_zero, List.drop_nil, List.length_cons, List.length_nil, Nat.reduceAdd, Nat.zero_add, List.nil_append, List.cons_append, List.append_nil] at S)) | (refine wpList_b2sB S ?_) | (refine wpList_b2sR S ?_) | (refine wpList_ldc S ?_))
  go_ret
  exact ⟨rfl, S⟩
theorem readHash (ad : Addr) (n c : Nat) (l : List UInt8) (w : World) (hs : Src w 1 (.slice (some ad) n c) n (u8s l)) (hn : 16 ≤ n) (hm : n ≤ maxLen) (hcn : n ≤ c) :
    Calls Try.prog 74 #[.slice (some ad) n c] w fun e w' => e = .returned (.int .u64 (leVal ((l.drop 8).take 8))) ∧ St w [] w' [] := by
  have S := St.begin w
  unfold maxLen at hm
  have h1 := hidden (hs.tail 8 (c - 8) (by omega))
  clear hs
  go_enter Try.func74, Try.ntmps74
  go_wp2_with (first | ((with_reducible show Code.wp _ (Code.region _ _ true) _ _ _); refine St.regionLast S ?_; (repeat (first | (go_big_quiet_step (fail)) | (go_big_quiet_want; (first | refine quiet_ld S ?_ | refine quiet_ld8 S ?_ | refine quiet_ld0 ?_ | refine quiet_ldA S ?_ | refine quiet_b2sB S ?_ | refine quiet_b2sR S ?_ | refine quiet_ldc S ?_); go_big_quiet_on))); refine wpQuiet_nil ?_; clear S; intro wq S) | (refine wpList_ld S ?_) | (refine wpList_ld8 S ?_) | (refine wpList_ld0 ?_) | (refine wpList_ldA S ?_) | (refine wpList_st8 S ?_; (clear S; intro ws S)) | (refine wpList_st S ?_; (clear S; intro ws S)) | (refine wpList_box S ?_; (clear S; intro nb wb hnb S)) | (refine wpList_alloc S ?_; (clear S; intro nb wb hnb S)) | (refine wpList_mk8 S ?_; (clear S; intro nb wb hnb S)) | (refine wpList_mk S ?_; (clear S; intro nb wb hnb S)) | (refine wpList_bs S ?_; (clear S; intro nb wb hnb S)) | (refine wpList_stA S ?_; (clear S; intro ws S; simp only [splice, List.take_zero, List.take_succ_cons, List.drop_succ_cons, List.drop_zero, List.drop_nil, List.length_cons, List.length_nil, Nat.reduceAdd, Nat.zero_add, List.nil_append, List.cons_append, List.append_nil] at S)) | (refine wpList_b2sB S ?_) | (refine wpList_b2sR S ?_) | (refine wpList_ldc S ?_))
  refine St.regionG S 5 [([0, 1, 2], 3)] [4] ?_
  clear S; intro wr S; simp only [walkSt, pick, List.getElem?_cons_succ, List.getElem?_cons_zero, List.drop_succ_cons, List.drop_zero]; (repeat (first | (go_big_quiet_step (fail)) | (go_big_quiet_want; (first | refine quiet_ld S ?_ | refine quiet_ld8 S ?_ | refine quiet_ld0 ?_ | refine quiet_ldA S ?_ | refine quiet_b2sB S ?_ | refine quiet_b2sR S ?_ | refine quiet_ldc S ?_); go_big_quiet_on))); refine wpQuiet_nil ?_
  go_wp2_with fail
  refine Calls.mono (uint64 (ad.add 8) _ _ _ _ (h1.out.on S.chg) (by omega) (by unfold maxLen; omega)) ?_
  rintro e w2 ⟨rfl, C⟩
  have S2 := S.call C; clear S C; simp only [List.cons_append, List.nil_append] at S2; have S := S2; clear S2
  go_wp2_with fail
  refine ⟨_, S, (by repeat (first | exact Sel.nil | (apply Sel.cons; (repeat (first | exact Pull.head | apply Pull.tail))))), ?_⟩; (repeat (first | (go_big_quiet_step (fail)) | (go_big_quiet_want; (first | refine quiet_ld S ?_ | refine quiet_ld8 S ?_ | refine quiet_ld0 ?_ | refine quiet_ldA S ?_ | refine quiet_b2sB S ?_ | refine quiet_b2sR S ?_ | refine quiet_ldc S ?_); go_big_quiet_on))); refine wpQuiet_nil ?_
  go_wp2_with fail
  go_ret
  exact ⟨rfl, S⟩
theorem zzHash (ad : Addr) (n c : Nat) (l : List UInt8) (w : World) (hs : Src w 1 (.slice (some ad) n c) n (u8s l)) (hn : 16 ≤ n) (hm : n ≤ maxLen) (hcn : n ≤ c) :
    Calls Try.prog 47 #[.slice (some ad) n c] w fun e w' => e = .returned (.int .u64 (leVal ((l.drop 8).take 8))) ∧ St w [] w' [] := by
  have S := St.begin w
  replace hs := hidden hs
  go_enter Try.func47, Try.ntmps47
  go_wp2_with (first | ((with_reducible show Code.wp _ (Code.region _ _ true) _ _ _); refine St.regionLast S ?_; (repeat (first | (go_big_quiet_step (fail)) | (go_big_quiet_want; (first | refine quiet_ld S ?_ | refine quiet_ld8 S ?_ | refine quiet_ld0 ?_ | refine quiet_ldA S ?_ | refine quiet_b2sB S ?_ | refine quiet_b2sR S ?_ | refine quiet_ldc S ?_); go_big_quiet_on))); refine wpQuiet_nil ?_; clear S; intro wq S) | (refine wpList_ld S ?_) | (refine wpList_ld8 S ?_) | (refine wpList_ld0 ?_) | (refine wpList_ldA S ?_) | (refine wpList_st8 S ?_; (clear S; intro ws S)) | (refine wpList_st S ?_; (clear S; intro ws S)) | (refine wpList_box S ?_; (clear S; intro nb wb hnb S)) | (refine wpList_alloc S ?_; (clear S; intro nb wb hnb S)) | (refine wpList_mk8 S ?_; (clear S; intro nb wb hnb S)) | (refine wpList_mk S ?_; (clear S; intro nb wb hnb S)) | (refine wpList_bs S ?_; (clear S; intro nb wb hnb S)) | (refine wpList_stA S ?_; (clear S; intro ws S; simp only [splice, List.take_zero, List.take_succ_cons, List.drop_succ_cons, List.drop_zero, List.drop_nil, List.length_cons, List.length_nil, Nat.reduceAdd, Nat.zero_add, List.nil_append, List.cons_append, List.append_nil] at S)) | (refine wpList_b2sB S ?_) | (refine wpList_b2sR S ?_) | (refine wpList_ldc S ?_))
  refine Calls.mono (readHash ad n c l _ (hs.out.on S.chg) hn hm hcn) ?_
  rintro e w2 ⟨rfl, C⟩
  have S2 := S.call C; clear S C; simp only [List.cons_append, List.nil_append] at S2; have S := S2; clear S2
  go_wp2_with (first | ((with_reducible show Code.wp _ (Code.region _ _ true) _ _ _); refine St.regionLast S ?_; (repeat (first | (go_big_quiet_step (fail)) | (go_big_quiet_want; (first | refine quiet_ld S ?_ | refine quiet_ld8 S ?_ | refine quiet_ld0 ?_ | refine quiet_ldA S ?_ | refine quiet_b2sB S ?_ | refine quiet_b2sR S ?_ | refine quiet_ldc S ?_); go_big_quiet_on))); refine wpQuiet_nil ?_; clear S; intro wq S) | (refine wpList_ld S ?_) | (refine wpList_ld8 S ?_) | (refine wpList_ld0 ?_) | (refine wpList_ldA S ?_) | (refine wpList_st8 S ?_; (clear S; intro ws S)) | (refine wpList_st S ?_; (clear S; intro ws S)) | (refine wpList_box S ?_; (clear S; intro nb wb hnb S)) | (refine wpList_alloc S ?_; (clear S; intro nb wb hnb S)) | (refine wpList_mk8 S ?_; (clear S; intro nb wb hnb S)) | (refine wpList_mk S ?_; (clear S; intro nb wb hnb S)) | (refine wpList_bs S ?_; (clear S; intro nb wb hnb S)) | (refine wpList_stA S ?_; (clear S; intro ws S; simp only [splice, List.take_zero, List.take_succ_cons, List.drop_succ_cons, List.drop_zero, List.drop_nil, List.length_cons, List.length_nil, Nat.reduceAdd, Nat.zero_add, List.nil_append, List.cons_append, List.append_nil] at S)) | (refine wpList_b2sB S ?_) | (refine wpList_b2sR S ?_) | (refine wpList_ldc S ?_))
  go_ret
  exact ⟨rfl, S⟩

theorem splice_whole (z l : List UInt8) (h : z.length = l.length) : splice z 0 l = l := by
  unfold splice
  rw [List.take_zero, List.nil_append, Nat.zero_add, ← h, List.drop_length, List.append_nil]
set_option maxHeartbeats 800000 in
theorem readKey (ad : Addr) (n c kl : Nat) (l : List UInt8) (w : World) (hs : Src w 1 (.slice (some ad) n c) n (u8s l)) (hm : n ≤ maxLen) (hcn : n ≤ c) (hkl : leVal ((l.drop 16).take 2) = kl) (hk : kl + 18 < 65536) (hn : 18 + kl ≤ n) :
    Calls Try.prog 75 #[.slice (some ad) n c] w fun e w' => e = .returned (.string ⟨((l.drop 18).take kl).toArray⟩) ∧ St w [] w' [] := by
  have S := St.begin w
  unfold maxLen at hm
  have h1 := hidden (hs.tail 16 (c - 16) (by omega))
  have h2 := hidden (hs.cut 18 kl (c - 18) (by omega) hcn)
  have hwl := hidden hs.len8
  clear hs
  refine Calls.cps ?_; intro R hR
  go_enter Try.func75, Try.ntmps75
  go_wp2_with (first | ((with_reducible show Code.wp _ (Code.region _ _ true) _ _ _); refine St.regionLast S ?_; (repeat (first | (go_big_quiet_step (fail)) | (go_big_quiet_want; (first | refine quiet_ld S ?_ | refine quiet_ld8 S ?_ | refine quiet_ld0 ?_ | refine quiet_ldA S ?_ | refine quiet_b2sB S ?_ | refine quiet_b2sR S ?_ | refine quiet_ldc S ?_); go_big_quiet_on))); refine wpQuiet_nil ?_; clear S; intro wq S) | (refine wpList_ld S ?_) | (refine wpList_ld8 S ?_) | (refine wpList_ld0 ?_) | (refine wpList_ldA S ?_) | (refine wpList_st8 S ?_; (clear S; intro ws S)) | (refine wpList_st S ?_; (clear S; intro ws S)) | (refine wpList_box S ?_; (clear S; intro nb wb hnb S)) | (refine wpList_alloc S ?_; (clear S; intro nb wb hnb S)) | (refine wpList_mk8 S ?_; (clear S; intro nb wb hnb S)) | (refine wpList_mk S ?_; (clear S; intro nb wb hnb S)) | (refine wpList_bs S ?_; (clear S; intro nb wb hnb S)) | (refine wpList_stA S ?_; (clear S; intro ws S; simp only [splice, List.take_zero, List.take_succ_cons, List.drop_succ_cons, List.drop_zero, List.drop_nil, List.length_cons, List.length_nil, Nat.reduceAdd, Nat.zero_add, List.nil_append, List.cons_append, List.append_nil] at S)) | (refine wpList_b2sB S ?_) | (refine wpList_b2sR S ?_) | (refine wpList_ldc S ?_))
  refine St.regionG S 5 [([0, 1, 2], 3)] [4] ?_
  clear S; intro wr S; simp only [walkSt, pick, List.getElem?_cons_succ, List.getElem?_cons_zero, List.drop_succ_cons, List.drop_zero]; (repeat (first | (go_big_quiet_step (fail)) | (go_big_quiet_want; (first | refine quiet_ld S ?_ | refine quiet_ld8 S ?_ | refine quiet_ld0 ?_ | refine quiet_ldA S ?_ | refine quiet_b2sB S ?_ | refine quiet_b2sR S ?_ | refine quiet_ldc S ?_); go_big_quiet_on))); refine wpQuiet_nil ?_
  go_wp2_with fail
  refine Calls.mono (uint16 (ad.add 16) _ _ _ _ (h1.out.on S.chg) (by omega) (by unfold maxLen; omega)) ?_
  rintro e w2 ⟨he, C⟩
  rw [hkl] at he
  subst he
  have S2 := S.call C; clear S C; simp only [List.cons_append, List.nil_append] at S2; have S := S2; clear S2
  go_wp2_with fail
  refine ⟨_, S, (by repeat (first | exact Sel.nil | (apply Sel.cons; (repeat (first | exact Pull.head | apply Pull.tail))))), ?_⟩; (repeat (first | (go_big_quiet_step (fail)) | (go_big_quiet_want; (first | refine quiet_ld S ?_ | refine quiet_ld8 S ?_ | refine quiet_ld0 ?_ | refine quiet_ldA S ?_ | refine quiet_b2sB S ?_ | refine quiet_b2sR S ?_ | refine quiet_ldc S ?_); go_big_quiet_on))); refine wpQuiet_nil ?_
  have hlen : ((l.drop 18).take kl).length = kl := by have := hwl.out; simp; omega
  generalize (l.drop 18).take kl = key at *
  go_wp2_with (first | (refine wpList_ld S ?_) | (refine wpList_ld8 S ?_) | (refine wpList_ld0 ?_) | (refine wpList_ldA S ?_) | (refine wpList_st8 S ?_; (clear S; intro ws S)) | (refine wpList_st S ?_; (clear S; intro ws S)) | (refine wpList_box S ?_; (clear S; intro nb wb hnb S)) | (refine wpList_alloc S ?_; (clear S; intro nb wb hnb S)) | (refine wpList_mk8 S ?_; (clear S; intro nb wb hnb S)) | (refine wpList_mk S ?_; (clear S; intro nb wb hnb S)) | (refine wpList_bs S ?_; (clear S; intro nb wb hnb S)) | (refine wpList_stA S ?_; (clear S; intro ws S; simp only [splice, List.take_zero, List.take_succ_cons, List.drop_succ_cons, List.drop_zero, List.drop_nil, List.length_cons, List.length_nil, Nat.reduceAdd, Nat.zero_add, List.nil_append, List.cons_append, List.append_nil] at S)) | (refine wpList_b2sB S ?_) | (refine wpList_b2sR S ?_) | (refine wpList_ldc S ?_) | (refine wpList_slc 18 kl ?_) | (refine wpList_copy8 S (h2.out.on S.chg) ?_ (hfit := by simp); (clear S; intro ws S); rw [take_min _ _ (Nat.le_of_eq hlen), splice_whole _ _ (by simp [hlen])] at S))
  ((first | go_ret | go_ret2 | go_ret3 | go_end0 | skip); refine hR.out _ _ ?_)
  exact ⟨rfl, S.sel (by repeat (first | exact Sel.nil | (apply Sel.cons; (repeat (first | exact Pull.head | apply Pull.tail)))))⟩
theorem zzKey (ad : Addr) (n c kl : Nat) (l : List UInt8) (w : World) (hs : Src w 1 (.slice (some ad) n c) n (u8s l)) (hm : n ≤ maxLen) (hcn : n ≤ c) (hkl : leVal ((l.drop 16).take 2) = kl) (hk : kl + 18 < 65536) (hn : 18 + kl ≤ n) :
    Calls Try.prog 48 #[.slice (some ad) n c] w fun e w' => e = .returned (.string ⟨((l.drop 18).take kl).toArray⟩) ∧ St w [] w' [] := by
  have S := St.begin w
  replace hs := hidden hs
  go_enter Try.func48, Try.ntmps48
  go_wp2_with (first | ((with_reducible show Code.wp _ (Code.region _ _ true) _ _ _); refine St.regionLast S ?_; (repeat (first | (go_big_quiet_step (fail)) | (go_big_quiet_want; (first | refine quiet_ld S ?_ | refine quiet_ld8 S ?_ | refine quiet_ld0 ?_ | refine quiet_ldA S ?_ | refine quiet_b2sB S ?_ | refine quiet_b2sR S ?_ | refine quiet_ldc S ?_); go_big_quiet_on))); refine wpQuiet_nil ?_; clear S; intro wq S) | (refine wpList_ld S ?_) | (refine wpList_ld8 S ?_) | (refine wpList_ld0 ?_) | (refine wpList_ldA S ?_) | (refine wpList_st8 S ?_; (clear S; intro ws S)) | (refine wpList_st S ?_; (clear S; intro ws S)) | (refine wpList_box S ?_; (clear S; intro nb wb hnb S)) | (refine wpList_alloc S ?_; (clear S; intro nb wb hnb S)) | (refine wpList_mk8 S ?_; (clear S; intro nb wb hnb S)) | (refine wpList_mk S ?_; (clear S; intro nb wb hnb S)) | (refine wpList_bs S ?_; (clear S; intro nb wb hnb S)) | (refine wpList_stA S ?_; (clear S; intro ws S; simp only [splice, List.take_zero, List.take_succ_cons, List.drop_succ_cons, List.drop_zero, List.drop_nil, List.length_cons, List.length_nil, Nat.reduceAdd, Nat.zero_add, List.nil_append, List.cons_append, List.append_nil] at S)) | (refine wpList_b2sB S ?_) | (refine wpList_b2sR S ?_) | (refine wpList_ldc S ?_))
  refine Calls.mono (readKey ad n c kl l _ (hs.out.on S.chg) hm hcn hkl hk hn) ?_
  rintro e w2 ⟨rfl, C⟩
  have S2 := S.call C; clear S C; simp only [List.cons_append, List.nil_append] at S2; have S := S2; clear S2
  go_wp2_with (first | ((with_reducible show Code.wp _ (Code.region _ _ true) _ _ _); refine St.regionLast S ?_; (repeat (first | (go_big_quiet_step (fail)) | (go_big_quiet_want; (first | refine quiet_ld S ?_ | refine quiet_ld8 S ?_ | refine quiet_ld0 ?_ | refine quiet_ldA S ?_ | refine quiet_b2sB S ?_ | refine quiet_b2sR S ?_ | refine quiet_ldc S ?_); go_big_quiet_on))); refine wpQuiet_nil ?_; clear S; intro wq S) | (refine wpList_ld S ?_) | (refine wpList_ld8 S ?_) | (refine wpList_ld0 ?_) | (refine wpList_ldA S ?_) | (refine wpList_st8 S ?_; (clear S; intro ws S)) | (refine wpList_st S ?_; (clear S; intro ws S)) | (refine wpList_box S ?_; (clear S; intro nb wb hnb S)) | (refine wpList_alloc S ?_; (clear S; intro nb wb hnb S)) | (refine wpList_mk8 S ?_; (clear S; intro nb wb hnb S)) | (refine wpList_mk S ?_; (clear S; intro nb wb hnb S)) | (refine wpList_bs S ?_; (clear S; intro nb wb hnb S)) | (refine wpList_stA S ?_; (clear S; intro ws S; simp only [splice, List.take_zero, List.take_succ_cons, List.drop_succ_cons, List.drop_zero, List.drop_nil, List.length_cons, List.length_nil, Nat.reduceAdd, Nat.zero_add, List.nil_append, List.cons_append, List.append_nil] at S)) | (refine wpList_b2sB S ?_) | (refine wpList_b2sR S ?_) | (refine wpList_ldc S ?_))
  go_ret
  exact ⟨rfl, S⟩
set_option maxHeartbeats 800000 in
theorem readEntry (ad : Addr) (n c kl : Nat) (l : List UInt8) (w : World) (hs : Src w 1 (.slice (some ad) n c) n (u8s l)) (hm : n ≤ 1099511627776) (hcn : n ≤ c) (hkl : leVal ((l.drop 16).take 2) = kl) (hk : kl + 18 < 65536) (hn : 18 + kl ≤ n) :
    Calls Try.prog 76 #[.slice (some ad) n c] w fun e w' => ∃ b, e = .returned (.slice (some ⟨b, 0, none⟩) (n - (18 + kl)) (n - (18 + kl))) ∧ St w [] w' [.row 5 1 (.slice (some ⟨b, 0, none⟩) (n - (18 + kl)) (n - (18 + kl))) (n - (18 + kl)) (u8s (l.drop (18 + kl)))] := by
  have S := St.begin w
  have h1 := hidden (hs.tail 16 (c - 16) (by omega))
  have h2 := hidden (hs.cut (18 + kl) (n - (18 + kl)) (c - (18 + kl)) (by omega) hcn)
  have hwl := hidden hs.len8
  clear hs
  refine Calls.cps ?_; intro R hR
  go_enter Try.func76, Try.ntmps76
  go_wp2_with (first | ((with_reducible show Code.wp _ (Code.region _ _ true) _ _ _); refine St.regionLast S ?_; (repeat (first | (go_big_quiet_step (fail)) | (go_big_quiet_want; (first | refine quiet_ld S ?_ | refine quiet_ld8 S ?_ | refine quiet_ld0 ?_ | refine quiet_ldA S ?_ | refine quiet_b2sB S ?_ | refine quiet_b2sR S ?_ | refine quiet_ldc S ?_); go_big_quiet_on))); refine wpQuiet_nil ?_; clear S; intro wq S) | (refine wpList_ld S ?_) | (refine wpList_ld8 S ?_) | (refine wpList_ld0 ?_) | (refine wpList_ldA S ?_) | (refine wpList_st8 S ?_; (clear S; intro ws S)) | (refine wpList_st S ?_; (clear S; intro ws S)) | (refine wpList_box S ?_; (clear S; intro nb wb hnb S)) | (refine wpList_alloc S ?_; (clear S; intro nb wb hnb S)) | (refine wpList_mk8 S ?_; (clear S; intro nb wb hnb S)) | (refine wpList_mk S ?_; (clear S; intro nb wb hnb S)) | (refine wpList_bs S ?_; (clear S; intro nb wb hnb S)) | (refine wpList_stA S ?_; (clear S; intro ws S; simp only [splice, List.take_zero, List.take_succ_cons, List.drop_succ_cons, List.drop_zero, List.drop_nil, List.length_cons, List.length_nil, Nat.reduceAdd, Nat.zero_add, List.nil_append, List.cons_append, List.append_nil] at S)) | (refine wpList_b2sB S ?_) | (refine wpList_b2sR S ?_) | (refine wpList_ldc S ?_))
  refine St.regionG S 5 [([0, 1, 2], 3)] [4] ?_
  clear S; intro wr S; simp only [walkSt, pick, List.getElem?_cons_succ, List.getElem?_cons_zero, List.drop_succ_cons, List.drop_zero]; (repeat (first | (go_big_quiet_step (fail)) | (go_big_quiet_want; (first | refine quiet_ld S ?_ | refine quiet_ld8 S ?_ | refine quiet_ld0 ?_ | refine quiet_ldA S ?_ | refine quiet_b2sB S ?_ | refine quiet_b2sR S ?_ | refine quiet_ldc S ?_); go_big_quiet_on))); refine wpQuiet_nil ?_
  go_wp2_with fail
  refine Calls.mono (uint16 (ad.add 16) _ _ _ _ (h1.out.on S.chg) (by omega) (by unfold maxLen; omega)) ?_
  rintro e w2 ⟨he, C⟩
  rw [hkl] at he
  subst he
  have S2 := S.call C; clear S C; simp only [List.cons_append, List.nil_append] at S2; have S := S2; clear S2
  go_wp2_with fail
  refine ⟨_, S, (by repeat (first | exact Sel.nil | (apply Sel.cons; (repeat (first | exact Pull.head | apply Pull.tail))))), ?_⟩; (repeat (first | (go_big_quiet_step (fail)) | (go_big_quiet_want; (first | refine quiet_ld S ?_ | refine quiet_ld8 S ?_ | refine quiet_ld0 ?_ | refine quiet_ldA S ?_ | refine quiet_b2sB S ?_ | refine quiet_b2sR S ?_ | refine quiet_ldc S ?_); go_big_quiet_on))); refine wpQuiet_nil ?_
  have hcut : (l.drop (18 + kl)).take (n - (18 + kl)) = l.drop (18 + kl) := List.take_of_length_le (by have := hwl.out; simp; omega)
  rw [hcut] at h2
  have hlen : (l.drop (18 + kl)).length = n - (18 + kl) := by have := hwl.out; simp; omega
  generalize l.drop (18 + kl) = key at *
  have hcut := hidden hcut
  go_wp2_with (first | (refine wpList_mk8 (ln := n - (18 + kl)) (cn := n - (18 + kl)) S ?_ (hln := by omega) (hcn := by omega); (clear S; intro nb wb hnb S)) | (refine wpList_ld S ?_) | (refine wpList_ld8 S ?_) | (refine wpList_ld0 ?_) | (refine wpList_ldA S ?_) | (refine wpList_st8 S ?_; (clear S; intro ws S)) | (refine wpList_st S ?_; (clear S; intro ws S)) | (refine wpList_box S ?_; (clear S; intro nb wb hnb S)) | (refine wpList_alloc S ?_; (clear S; intro nb wb hnb S)) | (refine wpList_mk8 S ?_; (clear S; intro nb wb hnb S)) | (refine wpList_mk S ?_; (clear S; intro nb wb hnb S)) | (refine wpList_bs S ?_; (clear S; intro nb wb hnb S)) | (refine wpList_stA S ?_; (clear S; intro ws S; simp only [splice, List.take_zero, List.take_succ_cons, List.drop_succ_cons, List.drop_zero, List.drop_nil, List.length_cons, List.length_nil, Nat.reduceAdd, Nat.zero_add, List.nil_append, List.cons_append, List.append_nil] at S)) | (refine wpList_b2sB S ?_) | (refine wpList_b2sR S ?_) | (refine wpList_ldc S ?_) | (refine wpList_slcT (18 + kl) ?_) | (refine wpList_copy8 S (h2.out.on S.chg) ?_ (hfit := by simp); (clear S; intro ws S); rw [take_min _ _ (Nat.le_of_eq hlen), splice_whole _ _ (by simp [hlen])] at S))
  ((first | go_ret | go_ret2 | go_ret3 | go_end0 | skip); refine hR.out _ _ ?_)
  refine ⟨_, rfl, (S.toRow8 (by repeat (first | exact Pull.head | apply Pull.tail)) hlen (by unfold maxLen; omega)).sel (.cons .head .nil)⟩
theorem zzEntry (ad : Addr) (n c kl : Nat) (l : List UInt8) (w : World) (hs : Src w 1 (.slice (some ad) n c) n (u8s l)) (hm : n ≤ 1099511627776) (hcn : n ≤ c) (hkl : leVal ((l.drop 16).take 2) = kl) (hk : kl + 18 < 65536) (hn : 18 + kl ≤ n) :
    Calls Try.prog 49 #[.slice (some ad) n c] w fun e w' => ∃ b, e = .returned (.slice (some ⟨b, 0, none⟩) (n - (18 + kl)) (n - (18 + kl))) ∧ St w [] w' [.row 5 1 (.slice (some ⟨b, 0, none⟩) (n - (18 + kl)) (n - (18 + kl))) (n - (18 + kl)) (u8s (l.drop (18 + kl)))] := by
  have S := St.begin w
  replace hs := hidden hs
  refine Calls.cps ?_; intro R hR
  go_enter Try.func49, Try.ntmps49
  go_wp2_with (first | ((with_reducible show Code.wp _ (Code.region _ _ true) _ _ _); refine St.regionLast S ?_; (repeat (first | (go_big_quiet_step (fail)) | (go_big_quiet_want; (first | refine quiet_ld S ?_ | refine quiet_ld8 S ?_ | refine quiet_ld0 ?_ | refine quiet_ldA S ?_ | refine quiet_b2sB S ?_ | refine quiet_b2sR S ?_ | refine quiet_ldc S ?_); go_big_quiet_on))); refine wpQuiet_nil ?_; clear S; intro wq S) | (refine wpList_ld S ?_) | (refine wpList_ld8 S ?_) | (refine wpList_ld0 ?_) | (refine wpList_ldA S ?_) | (refine wpList_st8 S ?_; (clear S; intro ws S)) | (refine wpList_st S ?_; (clear S; intro ws S)) | (refine wpList_box S ?_; (clear S; intro nb wb hnb S)) | (refine wpList_alloc S ?_; (clear S; intro nb wb hnb S)) | (refine wpList_mk8 S ?_; (clear S; intro nb wb hnb S)) | (refine wpList_mk S ?_; (clear S; intro nb wb hnb S)) | (refine wpList_bs S ?_; (clear S; intro nb wb hnb S)) | (refine wpList_stA S ?_; (clear S; intro ws S; simp only [splice, List.take_zero, List.take_succ_cons, List.drop_succ_cons, List.drop_zero, List.drop_nil, List.length_cons, List.length_nil, Nat.reduceAdd, Nat.zero_add, List.nil_append, List.cons_append, List.append_nil] at S)) | (refine wpList_b2sB S ?_) | (refine wpList_b2sR S ?_) | (refine wpList_ldc S ?_))
  refine Calls.mono (readEntry ad n c kl l _ (hs.out.on S.chg) hm hcn hkl hk hn) ?_
  rintro e w2 ⟨b, rfl, C⟩
  have S2 := S.call C; clear S C; simp only [List.cons_append, List.nil_append] at S2; have S := S2; clear S2
  go_wp2_with (first | ((with_reducible show Code.wp _ (Code.region _ _ true) _ _ _); refine St.regionLast S ?_; (repeat (first | (go_big_quiet_step (fail)) | (go_big_quiet_want; (first | refine quiet_ld S ?_ | refine quiet_ld8 S ?_ | refine quiet_ld0 ?_ | refine quiet_ldA S ?_ | refine quiet_b2sB S ?_ | refine quiet_b2sR S ?_ | refine quiet_ldc S ?_); go_big_quiet_on))); refine wpQuiet_nil ?_; clear S; intro wq S) | (refine wpList_ld S ?_) | (refine wpList_ld8 S ?_) | (refine wpList_ld0 ?_) | (refine wpList_ldA S ?_) | (refine wpList_st8 S ?_; (clear S; intro ws S)) | (refine wpList_st S ?_; (clear S; intro ws S)) | (refine wpList_box S ?_; (clear S; intro nb wb hnb S)) | (refine wpList_alloc S ?_; (clear S; intro nb wb hnb S)) | (refine wpList_mk8 S ?_; (clear S; intro nb wb hnb S)) | (refine wpList_mk S ?_; (clear S; intro nb wb hnb S)) | (refine wpList_bs S ?_; (clear S; intro nb wb hnb S)) | (refine wpList_stA S ?_; (clear S; intro ws S; simp only [splice, List.take_zero, List.take_succ_cons, List.drop_succ_cons, List.drop_zero, List.drop_nil, List.length_cons, List.length_nil, Nat.reduceAdd, Nat.zero_add, List.nil_append, List.cons_append, List.append_nil] at S)) | (refine wpList_b2sB S ?_) | (refine wpList_b2sR S ?_) | (refine wpList_ldc S ?_))
  ((first | go_ret | go_ret2 | go_ret3 | go_end0 | skip); refine hR.out _ _ ?_)
  exact ⟨_, rfl, S⟩

theorem _root_.Go.Vil.results_cells5 {P : Program} {fn : Func} {l : List Value} {w w0 : World} {bs : List Nat} {L F1 F2 F3 F4 F5 : List Res} (S : St w0 bs w L) {i1 i2 i3 i4 i5 b1 b2 b3 b4 b5 : Nat} {t1 t2 t3 t4 t5 T1 T2 T3 T4 T5 : TypeId} {x1 x2 x3 x4 x5 : Value}
    (h : fn.results = #[.cell i1 t1, .cell i2 t2, .cell i3 t3, .cell i4 t4, .cell i5 t5] := by rfl) (h1 : TOne P t1 := by infer_instance) (h2 : TOne P t2 := by infer_instance) (h3 : TOne P t3 := by infer_instance) (h4 : TOne P t4 := by infer_instance) (h5 : TOne P t5 := by infer_instance)
    (g1 : l[i1]? = some (.pointer (some ⟨b1, 0, none⟩)) := by rfl) (g2 : l[i2]? = some (.pointer (some ⟨b2, 0, none⟩)) := by rfl) (g3 : l[i3]? = some (.pointer (some ⟨b3, 0, none⟩)) := by rfl) (g4 : l[i4]? = some (.pointer (some ⟨b4, 0, none⟩)) := by rfl) (g5 : l[i5]? = some (.pointer (some ⟨b5, 0, none⟩)) := by rfl)
    (p1 : Pull (.blk b1 (.cells [x1].toArray T1 (0, 0))) L F1 := by repeat (first | exact Pull.head | apply Pull.tail)) (p2 : Pull (.blk b2 (.cells [x2].toArray T2 (0, 0))) L F2 := by repeat (first | exact Pull.head | apply Pull.tail)) (p3 : Pull (.blk b3 (.cells [x3].toArray T3 (0, 0))) L F3 := by repeat (first | exact Pull.head | apply Pull.tail)) (p4 : Pull (.blk b4 (.cells [x4].toArray T4 (0, 0))) L F4 := by repeat (first | exact Pull.head | apply Pull.tail)) (p5 : Pull (.blk b5 (.cells [x5].toArray T5 (0, 0))) L F5 := by repeat (first | exact Pull.head | apply Pull.tail)) :
    (results fn l.toArray).run P w = .ok (.tuple #[x1, x2, x3, x4, x5]) w := by
  have c1 : w.cell? ⟨b1, 0, none⟩ = some x1 := (cell_at (S.blk p1)).trans rfl
  have c2 : w.cell? ⟨b2, 0, none⟩ = some x2 := (cell_at (S.blk p2)).trans rfl
  have c3 : w.cell? ⟨b3, 0, none⟩ = some x3 := (cell_at (S.blk p3)).trans rfl
  have c4 : w.cell? ⟨b4, 0, none⟩ = some x4 := (cell_at (S.blk p4)).trans rfl
  have c5 : w.cell? ⟨b5, 0, none⟩ = some x5 := (cell_at (S.blk p5)).trans rfl
  simp [results, h, g1, g2, g3, g4, g5, asAddr, loadVar, h1.agg, h2.agg, h3.agg, h4.agg, h5.agg, c1, c2, c3, c4, c5]

theorem idleU (p q r s t : Option Addr) : Idle Try.prog 45 #[.pointer p, .pointer q, .pointer r, .pointer s, .pointer t] := by
  intro w
  refine callsD_of_wpS Try.func45 rfl fun c₀ cs hu => ?_
  apply wpS_seq
  apply wpS_region
  simp [wpOpsS, go_sem, recoverD, hu, Try.ntmps45, Exit.thenS]
  refine wpS_cond (t := false) (by simp [Act.eval, Array.replicate]) ?_
  simp only [Bool.false_eq_true, if_false]
  refine wpS_of_wp (wp_skip ?_)
  cases c₀
  simp_all [bodyPostS, results, Try.results45]

set_option maxHeartbeats 800000 in
theorem implUnwrap (ad : Addr) (n c kl : Nat) (l : List UInt8) (w : World) (hs : Src w 1 (.slice (some ad) n c) n (u8s l)) (hm : n ≤ 1099511627776) (hcn : n ≤ c) (hkl : leVal ((l.drop 16).take 2) = kl) (hk : kl + 18 < 65536) (hn : 18 + kl ≤ n) :
    Calls Try.prog 29 #[.slice (some ad) n c] w fun e w' => ∃ b, e = .returned (.tuple #[.int .u64 (leVal (l.take 8)), .int .u64 (leVal ((l.drop 8).take 8)), .string ⟨((l.drop 18).take kl).toArray⟩, .slice (some ⟨b, 0, none⟩) (n - (18 + kl)) (n - (18 + kl)), .int .i64 0]) ∧
      St w [] w' [.row 5 1 (.slice (some ⟨b, 0, none⟩) (n - (18 + kl)) (n - (18 + kl))) (n - (18 + kl)) (u8s (l.drop (18 + kl)))] := by
  have S := St.begin w
  replace hs := hidden hs
  have hmf : ∀ (fn : Fn) (first cap : Array Value) (w : World), (Instr.makeFunc fn first cap).run Try.prog w = .ok (.func fn first cap) w := fun _ _ _ _ => rfl
  have hmm : n ≤ maxLen := by unfold maxLen; omega
  have q := hidden (And.intro hm (And.intro hcn (And.intro hk hn)))
  refine Calls.cps ?_; intro R hR
  go_enter_defers Try.func29, Try.ntmps29
  go_wp2_with (first | ((with_reducible show Code.wp _ (Code.region _ _ true) _ _ _); refine St.regionLast S ?_; (repeat (first | (go_big_quiet_step (fail)) | (go_big_quiet_want; (first | refine quiet_ld S ?_ | refine quiet_ld8 S ?_ | refine quiet_ld0 ?_ | refine quiet_ldA S ?_ | refine quiet_b2sB S ?_ | refine quiet_b2sR S ?_ | refine quiet_ldc S ?_); go_big_quiet_on))); refine wpQuiet_nil ?_; clear S; intro wq S) | (refine wpList_ld S ?_) | (refine wpList_ld8 S ?_) | (refine wpList_ld0 ?_) | (refine wpList_ldA S ?_) | (refine wpList_st8 S ?_; (clear S; intro ws S)) | (refine wpList_st S ?_; (clear S; intro ws S)) | (refine wpList_box S ?_; (clear S; intro nb wb hnb S)) | (refine wpList_alloc S ?_; (clear S; intro nb wb hnb S)) | (refine wpList_mk8 S ?_; (clear S; intro nb wb hnb S)) | (refine wpList_mk S ?_; (clear S; intro nb wb hnb S)) | (refine wpList_bs S ?_; (clear S; intro nb wb hnb S)) | (refine wpList_stA S ?_; (clear S; intro ws S; simp only [splice, List.take_zero, List.take_succ_cons, List.drop_succ_cons, List.drop_zero, List.drop_nil, List.length_cons, List.length_nil, Nat.reduceAdd, Nat.zero_add, List.nil_append, List.cons_append, List.append_nil] at S)) | (refine wpList_b2sB S ?_) | (refine wpList_b2sR S ?_) | (refine wpList_ldc S ?_))
  refine Calls.mono (zzTime ad n c l _ (hs.out.on S.chg) (by omega) hmm) ?_
  rintro e w2 ⟨rfl, C⟩
  have S2 := S.call C; clear S C; simp only [List.cons_append, List.nil_append] at S2; have S := S2; clear S2
  go_wp2_with (first | ((with_reducible show Code.wp _ (Code.region _ _ true) _ _ _); refine St.regionLast S ?_; (repeat (first | (go_big_quiet_step (fail)) | (go_big_quiet_want; (first | refine quiet_ld S ?_ | refine quiet_ld8 S ?_ | refine quiet_ld0 ?_ | refine quiet_ldA S ?_ | refine quiet_b2sB S ?_ | refine quiet_b2sR S ?_ | refine quiet_ldc S ?_); go_big_quiet_on))); refine wpQuiet_nil ?_; clear S; intro wq S) | (refine wpList_ld S ?_) | (refine wpList_ld8 S ?_) | (refine wpList_ld0 ?_) | (refine wpList_ldA S ?_) | (refine wpList_st8 S ?_; (clear S; intro ws S)) | (refine wpList_st S ?_; (clear S; intro ws S)) | (refine wpList_box S ?_; (clear S; intro nb wb hnb S)) | (refine wpList_alloc S ?_; (clear S; intro nb wb hnb S)) | (refine wpList_mk8 S ?_; (clear S; intro nb wb hnb S)) | (refine wpList_mk S ?_; (clear S; intro nb wb hnb S)) | (refine wpList_bs S ?_; (clear S; intro nb wb hnb S)) | (refine wpList_stA S ?_; (clear S; intro ws S; simp only [splice, List.take_zero, List.take_succ_cons, List.drop_succ_cons, List.drop_zero, List.drop_nil, List.length_cons, List.length_nil, Nat.reduceAdd, Nat.zero_add, List.nil_append, List.cons_append, List.append_nil] at S)) | (refine wpList_b2sB S ?_) | (refine wpList_b2sR S ?_) | (refine wpList_ldc S ?_))
  refine Calls.mono (zzHash ad n c l _ (hs.out.on S.chg) (by omega) hmm hcn) ?_
  rintro e w2 ⟨rfl, C⟩
  have S2 := S.call C; clear S C; simp only [List.cons_append, List.nil_append] at S2; have S := S2; clear S2
  go_wp2_with (first | ((with_reducible show Code.wp _ (Code.region _ _ true) _ _ _); refine St.regionLast S ?_; (repeat (first | (go_big_quiet_step (fail)) | (go_big_quiet_want; (first | refine quiet_ld S ?_ | refine quiet_ld8 S ?_ | refine quiet_ld0 ?_ | refine quiet_ldA S ?_ | refine quiet_b2sB S ?_ | refine quiet_b2sR S ?_ | refine quiet_ldc S ?_); go_big_quiet_on))); refine wpQuiet_nil ?_; clear S; intro wq S) | (refine wpList_ld S ?_) | (refine wpList_ld8 S ?_) | (refine wpList_ld0 ?_) | (refine wpList_ldA S ?_) | (refine wpList_st8 S ?_; (clear S; intro ws S)) | (refine wpList_st S ?_; (clear S; intro ws S)) | (refine wpList_box S ?_; (clear S; intro nb wb hnb S)) | (refine wpList_alloc S ?_; (clear S; intro nb wb hnb S)) | (refine wpList_mk8 S ?_; (clear S; intro nb wb hnb S)) | (refine wpList_mk S ?_; (clear S; intro nb wb hnb S)) | (refine wpList_bs S ?_; (clear S; intro nb wb hnb S)) | (refine wpList_stA S ?_; (clear S; intro ws S; simp only [splice, List.take_zero, List.take_succ_cons, List.drop_succ_cons, List.drop_zero, List.drop_nil, List.length_cons, List.length_nil, Nat.reduceAdd, Nat.zero_add, List.nil_append, List.cons_append, List.append_nil] at S)) | (refine wpList_b2sB S ?_) | (refine wpList_b2sR S ?_) | (refine wpList_ldc S ?_))
  refine Calls.mono (zzKey ad n c kl l _ (hs.out.on S.chg) hmm hcn hkl hk hn) ?_
  rintro e w2 ⟨rfl, C⟩
  have S2 := S.call C; clear S C; simp only [List.cons_append, List.nil_append] at S2; have S := S2; clear S2
  go_wp2_with (first | ((with_reducible show Code.wp _ (Code.region _ _ true) _ _ _); refine St.regionLast S ?_; (repeat (first | (go_big_quiet_step (fail)) | (go_big_quiet_want; (first | refine quiet_ld S ?_ | refine quiet_ld8 S ?_ | refine quiet_ld0 ?_ | refine quiet_ldA S ?_ | refine quiet_b2sB S ?_ | refine quiet_b2sR S ?_ | refine quiet_ldc S ?_); go_big_quiet_on))); refine wpQuiet_nil ?_; clear S; intro wq S) | (refine wpList_ld S ?_) | (refine wpList_ld8 S ?_) | (refine wpList_ld0 ?_) | (refine wpList_ldA S ?_) | (refine wpList_st8 S ?_; (clear S; intro ws S)) | (refine wpList_st S ?_; (clear S; intro ws S)) | (refine wpList_box S ?_; (clear S; intro nb wb hnb S)) | (refine wpList_alloc S ?_; (clear S; intro nb wb hnb S)) | (refine wpList_mk8 S ?_; (clear S; intro nb wb hnb S)) | (refine wpList_mk S ?_; (clear S; intro nb wb hnb S)) | (refine wpList_bs S ?_; (clear S; intro nb wb hnb S)) | (refine wpList_stA S ?_; (clear S; intro ws S; simp only [splice, List.take_zero, List.take_succ_cons, List.drop_succ_cons, List.drop_zero, List.drop_nil, List.length_cons, List.length_nil, Nat.reduceAdd, Nat.zero_add, List.nil_append, List.cons_append, List.append_nil] at S)) | (refine wpList_b2sB S ?_) | (refine wpList_b2sR S ?_) | (refine wpList_ldc S ?_))
  refine Calls.mono (zzEntry ad n c kl l _ (hs.out.on S.chg) hm hcn hkl hk hn) ?_
  rintro e w2 ⟨b, rfl, C⟩
  have S2 := S.call C; clear S C; simp only [List.cons_append, List.nil_append] at S2; have S := S2; clear S2
  go_wp2_with (first | ((with_reducible show Code.wp _ (Code.region _ _ true) _ _ _); refine St.regionLast S ?_; (repeat (first | (go_big_quiet_step (fail)) | (go_big_quiet_want; (first | refine quiet_ld S ?_ | refine quiet_ld8 S ?_ | refine quiet_ld0 ?_ | refine quiet_ldA S ?_ | refine quiet_b2sB S ?_ | refine quiet_b2sR S ?_ | refine quiet_ldc S ?_); go_big_quiet_on))); refine wpQuiet_nil ?_; clear S; intro wq S) | (refine wpList_ld S ?_) | (refine wpList_ld8 S ?_) | (refine wpList_ld0 ?_) | (refine wpList_ldA S ?_) | (refine wpList_st8 S ?_; (clear S; intro ws S)) | (refine wpList_st S ?_; (clear S; intro ws S)) | (refine wpList_box S ?_; (clear S; intro nb wb hnb S)) | (refine wpList_alloc S ?_; (clear S; intro nb wb hnb S)) | (refine wpList_mk8 S ?_; (clear S; intro nb wb hnb S)) | (refine wpList_mk S ?_; (clear S; intro nb wb hnb S)) | (refine wpList_bs S ?_; (clear S; intro nb wb hnb S)) | (refine wpList_stA S ?_; (clear S; intro ws S; simp only [splice, List.take_zero, List.take_succ_cons, List.drop_succ_cons, List.drop_zero, List.drop_nil, List.length_cons, List.length_nil, Nat.reduceAdd, Nat.zero_add, List.nil_append, List.cons_append, List.append_nil] at S)) | (refine wpList_b2sB S ?_) | (refine wpList_b2sR S ?_) | (refine wpList_ldc S ?_))
  refine door_of (results_cells5 S) (idleU _ _ _ _ _) ?_
  exact hR.out _ _ ⟨b, rfl, S.sel (by repeat (first | exact Sel.nil | (apply Sel.cons; (repeat (first | exact Pull.head | apply Pull.tail)))))⟩
end Go.Proofs.Ytkfkcinkkgdebaa
