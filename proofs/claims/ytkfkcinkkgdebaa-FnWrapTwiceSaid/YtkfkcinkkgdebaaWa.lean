/- Wrapped entries: their bytes, by the reference; little-endian numbers, put and read. -/
import Derived.Test.YtkfkcinkkgdebaaLv
import Derived.Laws.BitsAllLaws
import Derived.WideShapes
namespace Go.Proofs.Ytkfkcinkkgdebaa
open Go Go.RowKit Go.Vil
set_option linter.unusedSimpArgs false
set_option linter.unusedVariables false

theorem u8_mod (z : Int) (h0 : 0 ≤ z) : [Value.int .u8 (z % 256)] = u8s [UInt8.ofNat z.toNat] := by
  simp only [u8s, List.map_cons, List.map_nil, UInt8.toNat_ofNat', List.cons.injEq, Value.int.injEq, true_and, and_true]
  omega

theorem le_cons (g : Nat) (z : Int) (h0 : 0 ≤ z) : le (g + 1) z.toNat = UInt8.ofNat z.toNat :: le g (z / 256).toNat := by
  obtain ⟨n, rfl⟩ := Int.eq_ofNat_of_zero_le h0
  rfl

set_option maxHeartbeats 400000 in
theorem lowest (v : Int) (k : Nat) (w : World) (h0 : 0 ≤ v) (h1 : v < 18446744073709551616) (hk : k ≤ 8) :
    Calls Try.prog 51 #[.int .u64 v, .int .i64 k] w fun e w' => ∃ sl, e = .returned sl ∧ St w [] w' [.row 5 1 sl k (u8s (le k v.toNat))] := by
  have S := St.begin w
  go_enter Try.func51, Try.ntmps51
  have S := S.nilRow 5 1
  go_wp2_with (first | ((with_reducible show Code.wp _ (Code.region _ _ true) _ _ _); refine St.regionLast S ?_; (repeat (first | (go_big_quiet_step (fail)) | (go_big_quiet_want; (first | refine quiet_ld S ?_ | refine quiet_ld8 S ?_ | refine quiet_ld0 ?_ | refine quiet_ldA S ?_ | refine quiet_b2sB S ?_ | refine quiet_b2sR S ?_ | refine quiet_ldc S ?_); go_big_quiet_on))); refine wpQuiet_nil ?_; clear S; intro wq S) | (refine wpList_ld S ?_) | (refine wpList_ld8 S ?_) | (refine wpList_ld0 ?_) | (refine wpList_ldA S ?_) | (refine wpList_st8 S ?_; (clear S; intro ws S)) | (refine wpList_st S ?_; (clear S; intro ws S)) | (refine wpList_box S ?_; (clear S; intro nb wb hnb S)) | (refine wpList_alloc S ?_; (clear S; intro nb wb hnb S)) | (refine wpList_mk8 S ?_; (clear S; intro nb wb hnb S)) | (refine wpList_mk S ?_; (clear S; intro nb wb hnb S)) | (refine wpList_bs S ?_; (clear S; intro nb wb hnb S)) | (refine wpList_stA S ?_; (clear S; intro ws S; simp only [splice, List.take_zero, List.take_succ_cons, List.drop_succ_cons, List.drop_zero, List.drop_nil, List.length_cons, List.length_nil, Nat.reduceAdd, Nat.zero_add, List.nil_append, List.cons_append, List.append_nil] at S)) | (refine wpList_b2sB S ?_) | (refine wpList_b2sR S ?_) | (refine wpList_ldc S ?_))
  go_loopg [0, 5, 7] k (fun g x s i wr => ∃ (j : Nat) (z : Int) (pre : List UInt8), j + g = k ∧ i = .int .i64 j ∧ x = .int .u64 z ∧ 0 ≤ z ∧ z < 18446744073709551616 ∧ pre.length = j ∧ le k v.toNat = pre ++ le g z.toNat ∧ St w [] wr [.row 5 1 s j (u8s pre)])
  case atStart => exact ⟨0, v, [], by omega, rfl, rfl, h0, h1, rfl, rfl, S⟩
  case round =>
    obtain ⟨j, z, pre, hj, rfl, rfl, z0, z1, hp, hl, S⟩ := hrel
    by_cases hlt : j < k
    · obtain ⟨g', rfl⟩ : ∃ g', gk = g' + 1 := ⟨gk - 1, by omega⟩
      have hl2 := hidden hl
      clear hl
      go_wp2_with (first | ((with_reducible show Code.wp _ (Code.region _ _ true) _ _ _); refine St.regionLast S ?_; (repeat (first | (go_big_quiet_step (fail)) | (go_big_quiet_want; (first | refine quiet_ld S ?_ | refine quiet_ld8 S ?_ | refine quiet_ld0 ?_ | refine quiet_ldA S ?_ | refine quiet_b2sB S ?_ | refine quiet_b2sR S ?_ | refine quiet_ldc S ?_); go_big_quiet_on))); refine wpQuiet_nil ?_; clear S; intro wq S) | (refine wpList_ld S ?_) | (refine wpList_ld8 S ?_) | (refine wpList_ld0 ?_) | (refine wpList_ldA S ?_) | (refine wpList_st8 S ?_; (clear S; intro ws S)) | (refine wpList_st S ?_; (clear S; intro ws S)) | (refine wpList_box S ?_; (clear S; intro nb wb hnb S)) | (refine wpList_alloc S ?_; (clear S; intro nb wb hnb S)) | (refine wpList_mk8 S ?_; (clear S; intro nb wb hnb S)) | (refine wpList_mk S ?_; (clear S; intro nb wb hnb S)) | (refine wpList_bs S ?_; (clear S; intro nb wb hnb S)) | (refine wpList_stA S ?_; (clear S; intro ws S; simp only [splice, List.take_zero, List.take_succ_cons, List.drop_succ_cons, List.drop_zero, List.drop_nil, List.length_cons, List.length_nil, Nat.reduceAdd, Nat.zero_add, List.nil_append, List.cons_append, List.append_nil] at S)) | (refine wpList_b2sB S ?_) | (refine wpList_b2sR S ?_) | (refine wpList_ldc S ?_) | (refine wpList_app8 S ?_; (clear S; intro va wa hva S)) | (refine wpList_appB S ?_; (clear S; intro va wa hva S)) | (refine wpList_appS S ?_; (clear S; intro va wa hva S)))
      go_roundg g'
      case measure => omega
      case rel =>
        rw [u8_mod z z0, ← u8s_append] at S
        refine ⟨j + 1, z / 256, pre ++ [UInt8.ofNat z.toNat], by omega, ?_, rfl, by omega, by omega, by simp; omega, ?_, S.sel (by repeat (first | exact Sel.nil | (apply Sel.cons; (repeat (first | exact Pull.head | apply Pull.tail)))))⟩
        · rfl
        · rw [hl2.out, le_cons g' z z0]; simp
    · go_wp2_with (first | ((with_reducible show Code.wp _ (Code.region _ _ true) _ _ _); refine St.regionLast S ?_; (repeat (first | (go_big_quiet_step (fail)) | (go_big_quiet_want; (first | refine quiet_ld S ?_ | refine quiet_ld8 S ?_ | refine quiet_ld0 ?_ | refine quiet_ldA S ?_ | refine quiet_b2sB S ?_ | refine quiet_b2sR S ?_ | refine quiet_ldc S ?_); go_big_quiet_on))); refine wpQuiet_nil ?_; clear S; intro wq S) | (refine wpList_ld S ?_) | (refine wpList_ld8 S ?_) | (refine wpList_ld0 ?_) | (refine wpList_ldA S ?_) | (refine wpList_st8 S ?_; (clear S; intro ws S)) | (refine wpList_st S ?_; (clear S; intro ws S)) | (refine wpList_box S ?_; (clear S; intro nb wb hnb S)) | (refine wpList_alloc S ?_; (clear S; intro nb wb hnb S)) | (refine wpList_mk8 S ?_; (clear S; intro nb wb hnb S)) | (refine wpList_mk S ?_; (clear S; intro nb wb hnb S)) | (refine wpList_bs S ?_; (clear S; intro nb wb hnb S)) | (refine wpList_stA S ?_; (clear S; intro ws S; simp only [splice, List.take_zero, List.take_succ_cons, List.drop_succ_cons, List.drop_zero, List.drop_nil, List.length_cons, List.length_nil, Nat.reduceAdd, Nat.zero_add, List.nil_append, List.cons_append, List.append_nil] at S)) | (refine wpList_b2sB S ?_) | (refine wpList_b2sR S ?_) | (refine wpList_ldc S ?_))
      go_ret
      have : gk = 0 := by omega
      subst this
      obtain rfl : j = k := by omega
      simp only [le, List.append_nil] at hl
      rw [hl]
      exact ⟨_, rfl, S⟩

/-- An entry wrapped: its time, its hash, the length of its key, its key, its bytes. -/
def wrapB (tm hs : Int) (key : ByteArray) (l : List UInt8) : List UInt8 := le 8 tm.toNat ++ le 8 hs.toNat ++ le 2 key.size ++ key.data.toList ++ l

set_option maxHeartbeats 800000 in
theorem wrapped (tm hs : Int) (key : ByteArray) (v : Value) (n : Nat) (l : List UInt8) (w : World) (h0 : 0 ≤ tm) (h1 : tm < 18446744073709551616) (h2 : 0 ≤ hs) (h3 : hs < 18446744073709551616)
    (hk : key.size ≤ 2147483647) (hn : n ≤ 68719476736) (hl : Src w 1 v n (u8s l)) :
    Calls Try.prog 31 #[.int .u64 tm, .int .u64 hs, .string key, v] w fun e w' => ∃ sl, e = .returned sl ∧ St w [] w' [.row 5 1 sl (18 + key.size + n) (u8s (wrapB tm hs key l))] := by
  have S := St.begin w
  go_enter Try.func31, Try.ntmps31
  go_wp2_with (first | ((with_reducible show Code.wp _ (Code.region _ _ true) _ _ _); refine St.regionLast S ?_; (repeat (first | (go_big_quiet_step (fail)) | (go_big_quiet_want; (first | refine quiet_ld S ?_ | refine quiet_ld8 S ?_ | refine quiet_ld0 ?_ | refine quiet_ldA S ?_ | refine quiet_b2sB S ?_ | refine quiet_b2sR S ?_ | refine quiet_ldc S ?_); go_big_quiet_on))); refine wpQuiet_nil ?_; clear S; intro wq S) | (refine wpList_ld S ?_) | (refine wpList_ld8 S ?_) | (refine wpList_ld0 ?_) | (refine wpList_ldA S ?_) | (refine wpList_st8 S ?_; (clear S; intro ws S)) | (refine wpList_st S ?_; (clear S; intro ws S)) | (refine wpList_box S ?_; (clear S; intro nb wb hnb S)) | (refine wpList_alloc S ?_; (clear S; intro nb wb hnb S)) | (refine wpList_mk8 S ?_; (clear S; intro nb wb hnb S)) | (refine wpList_mk S ?_; (clear S; intro nb wb hnb S)) | (refine wpList_bs S ?_; (clear S; intro nb wb hnb S)) | (refine wpList_stA S ?_; (clear S; intro ws S; simp only [splice, List.take_zero, List.take_succ_cons, List.drop_succ_cons, List.drop_zero, List.drop_nil, List.length_cons, List.length_nil, Nat.reduceAdd, Nat.zero_add, List.nil_append, List.cons_append, List.append_nil] at S)) | (refine wpList_b2sB S ?_) | (refine wpList_b2sR S ?_) | (refine wpList_ldc S ?_))
  refine Calls.mono (lowest tm 8 _ h0 h1 (by omega)) ?_
  rintro e w2 ⟨s1, rfl, C⟩
  have S2 := S.call C; clear S C; simp only [List.cons_append, List.nil_append] at S2; have S := S2; clear S2
  go_wp2_with (first | ((with_reducible show Code.wp _ (Code.region _ _ true) _ _ _); refine St.regionLast S ?_; (repeat (first | (go_big_quiet_step (fail)) | (go_big_quiet_want; (first | refine quiet_ld S ?_ | refine quiet_ld8 S ?_ | refine quiet_ld0 ?_ | refine quiet_ldA S ?_ | refine quiet_b2sB S ?_ | refine quiet_b2sR S ?_ | refine quiet_ldc S ?_); go_big_quiet_on))); refine wpQuiet_nil ?_; clear S; intro wq S) | (refine wpList_ld S ?_) | (refine wpList_ld8 S ?_) | (refine wpList_ld0 ?_) | (refine wpList_ldA S ?_) | (refine wpList_st8 S ?_; (clear S; intro ws S)) | (refine wpList_st S ?_; (clear S; intro ws S)) | (refine wpList_box S ?_; (clear S; intro nb wb hnb S)) | (refine wpList_alloc S ?_; (clear S; intro nb wb hnb S)) | (refine wpList_mk8 S ?_; (clear S; intro nb wb hnb S)) | (refine wpList_mk S ?_; (clear S; intro nb wb hnb S)) | (refine wpList_bs S ?_; (clear S; intro nb wb hnb S)) | (refine wpList_stA S ?_; (clear S; intro ws S; simp only [splice, List.take_zero, List.take_succ_cons, List.drop_succ_cons, List.drop_zero, List.drop_nil, List.length_cons, List.length_nil, Nat.reduceAdd, Nat.zero_add, List.nil_append, List.cons_append, List.append_nil] at S)) | (refine wpList_b2sB S ?_) | (refine wpList_b2sR S ?_) | (refine wpList_ldc S ?_))
  refine Calls.mono (lowest hs 8 _ h2 h3 (by omega)) ?_
  rintro e w2 ⟨s2, rfl, C⟩
  have S2 := S.call C; clear S C; simp only [List.cons_append, List.nil_append] at S2; have S := S2; clear S2
  go_wp2_with (first | ((with_reducible show Code.wp _ (Code.region _ _ true) _ _ _); refine St.regionLast S ?_; (repeat (first | (go_big_quiet_step (fail)) | (go_big_quiet_want; (first | refine quiet_ld S ?_ | refine quiet_ld8 S ?_ | refine quiet_ld0 ?_ | refine quiet_ldA S ?_ | refine quiet_b2sB S ?_ | refine quiet_b2sR S ?_ | refine quiet_ldc S ?_); go_big_quiet_on))); refine wpQuiet_nil ?_; clear S; intro wq S) | (refine wpList_ld S ?_) | (refine wpList_ld8 S ?_) | (refine wpList_ld0 ?_) | (refine wpList_ldA S ?_) | (refine wpList_st8 S ?_; (clear S; intro ws S)) | (refine wpList_st S ?_; (clear S; intro ws S)) | (refine wpList_box S ?_; (clear S; intro nb wb hnb S)) | (refine wpList_alloc S ?_; (clear S; intro nb wb hnb S)) | (refine wpList_mk8 S ?_; (clear S; intro nb wb hnb S)) | (refine wpList_mk S ?_; (clear S; intro nb wb hnb S)) | (refine wpList_bs S ?_; (clear S; intro nb wb hnb S)) | (refine wpList_stA S ?_; (clear S; intro ws S; simp only [splice, List.take_zero, List.take_succ_cons, List.drop_succ_cons, List.drop_zero, List.drop_nil, List.length_cons, List.length_nil, Nat.reduceAdd, Nat.zero_add, List.nil_append, List.cons_append, List.append_nil] at S)) | (refine wpList_b2sB S ?_) | (refine wpList_b2sR S ?_) | (refine wpList_ldc S ?_) | (refine wpList_appO0 S (by assumption) ?_; (clear S; intro va wa hva S)) | (refine wpList_appR S ?_; (clear S; intro va wa hva S)) | (refine wpList_appO S (by assumption) ?_; (clear S; intro va wa hva S)) | (refine wpList_appT S ?_; (clear S; intro va wa hva S)) | (refine wpList_app8 S ?_; (clear S; intro va wa hva S)) | (refine wpList_appB S ?_; (clear S; intro va wa hva S)) | (refine wpList_appS S ?_; (clear S; intro va wa hva S)))
  refine Calls.mono (lowest key.size 2 _ (by omega) (by omega) (by omega)) ?_
  rintro e w2 ⟨s3, rfl, C⟩
  have S2 := S.call C; clear S C; simp only [List.cons_append, List.nil_append] at S2; have S := S2; clear S2
  go_wp2_with (first | ((with_reducible show Code.wp _ (Code.region _ _ true) _ _ _); refine St.regionLast S ?_; (repeat (first | (go_big_quiet_step (fail)) | (go_big_quiet_want; (first | refine quiet_ld S ?_ | refine quiet_ld8 S ?_ | refine quiet_ld0 ?_ | refine quiet_ldA S ?_ | refine quiet_b2sB S ?_ | refine quiet_b2sR S ?_ | refine quiet_ldc S ?_); go_big_quiet_on))); refine wpQuiet_nil ?_; clear S; intro wq S) | (refine wpList_ld S ?_) | (refine wpList_ld8 S ?_) | (refine wpList_ld0 ?_) | (refine wpList_ldA S ?_) | (refine wpList_st8 S ?_; (clear S; intro ws S)) | (refine wpList_st S ?_; (clear S; intro ws S)) | (refine wpList_box S ?_; (clear S; intro nb wb hnb S)) | (refine wpList_alloc S ?_; (clear S; intro nb wb hnb S)) | (refine wpList_mk8 S ?_; (clear S; intro nb wb hnb S)) | (refine wpList_mk S ?_; (clear S; intro nb wb hnb S)) | (refine wpList_bs S ?_; (clear S; intro nb wb hnb S)) | (refine wpList_stA S ?_; (clear S; intro ws S; simp only [splice, List.take_zero, List.take_succ_cons, List.drop_succ_cons, List.drop_zero, List.drop_nil, List.length_cons, List.length_nil, Nat.reduceAdd, Nat.zero_add, List.nil_append, List.cons_append, List.append_nil] at S)) | (refine wpList_b2sB S ?_) | (refine wpList_b2sR S ?_) | (refine wpList_ldc S ?_) | (refine wpList_appO0 S (by assumption) ?_; (clear S; intro va wa hva S)) | (refine wpList_appR S ?_; (clear S; intro va wa hva S)) | (refine wpList_appO S (by assumption) ?_; (clear S; intro va wa hva S)) | (refine wpList_appT S ?_; (clear S; intro va wa hva S)) | (refine wpList_app8 S ?_; (clear S; intro va wa hva S)) | (refine wpList_appB S ?_; (clear S; intro va wa hva S)) | (refine wpList_appS S ?_; (clear S; intro va wa hva S)))
  go_ret
  have hq : 8 + 8 + 2 + key.size + n = 18 + key.size + n := by omega
  rw [hq] at S
  refine ⟨_, rfl, ?_⟩
  unfold wrapB
  exact S.sel (by repeat (first | exact Sel.nil | (apply Sel.cons; (repeat (first | exact Pull.head | apply Pull.tail)))))

theorem or_low (i x y : Nat) (hx : x < 2 ^ i) : x ||| y * 2 ^ i = x + y * 2 ^ i := by
  have := Nat.shiftLeft_add_eq_or_of_lt hx y
  rw [Nat.shiftLeft_eq] at this
  rw [Nat.or_comm, ← this, Nat.add_comm]

theorem beqL (a b : List UInt8) : (a == b) = decide (a = b) := by by_cases h : a = b <;> simp [h]

theorem u16_two (x y : UInt8) : Go.bits .or .u16 (IntKind.u16.wrap (x.toNat : Int)) (IntKind.u16.wrap (IntKind.u16.wrap (y.toNat : Int) * 256)) = ((x.toNat + y.toNat * 256 : Nat) : Int) := by
  have hx := x.toNat_lt
  have hy := y.toNat_lt
  have e1 : IntKind.u16.wrap (x.toNat : Int) = ((x.toNat : Nat) : Int) := by rw [IntKind.wrap_u16]; omega
  have e2 : IntKind.u16.wrap (IntKind.u16.wrap (y.toNat : Int) * 256) = ((y.toNat * 256 : Nat) : Int) := by rw [IntKind.wrap_u16, IntKind.wrap_u16]; omega
  rw [e1, e2, u16_or_nat _ _ (by omega) (by omega)]
  have := or_low 8 x.toNat y.toNat (by omega)
  rw [show (2 : Nat) ^ 8 = 256 from rfl] at this
  rw [this]

theorem le2_of (l : List UInt8) (h : 2 ≤ l.length) : (l.getD 0 0).toNat + (l.getD 1 0).toNat * 256 = leVal (l.take 2) := by
  rcases l with _ | ⟨p, _ | ⟨q, l'⟩⟩
  · simp at h
  · simp at h
  · simp [leVal]; omega

theorem uint16 (ad : Addr) (n c : Nat) (l : List UInt8) (w : World) (hs : Src w 1 (.slice (some ad) n c) n (u8s l)) (hn : 2 ≤ n) (hm : n ≤ maxLen) :
    Calls Try.prog 86 #[.agg #[], .slice (some ad) n c] w fun e w' => e = .returned (.int .u16 (leVal (l.take 2))) ∧ St w [] w' [] := by
  have S := St.begin w
  unfold maxLen at hm
  have g0 := hs.byte 0 (by omega)
  have g1 := hs.byte 1 (by omega)
  generalize hc : l.getD 0 0 = x at g0
  generalize hd : l.getD 1 0 = y at g1
  have hc := hidden hc
  have hd := hidden hd
  go_enter Try.func86, Try.ntmps86
  go_wp2_with (first | ((with_reducible show Code.wp _ (Code.region _ _ true) _ _ _); refine St.regionLast S ?_; (repeat (first | (go_big_quiet_step (fail)) | (go_big_quiet_want; (first | refine quiet_ld S ?_ | refine quiet_ld8 S ?_ | refine quiet_ld0 ?_ | refine quiet_ldA S ?_ | refine quiet_b2sB S ?_ | refine quiet_b2sR S ?_ | refine quiet_ldc S ?_); go_big_quiet_on))); refine wpQuiet_nil ?_; clear S; intro wq S) | (refine wpList_ld S ?_) | (refine wpList_ld8 S ?_) | (refine wpList_ld0 ?_) | (refine wpList_ldA S ?_) | (refine wpList_st8 S ?_; (clear S; intro ws S)) | (refine wpList_st S ?_; (clear S; intro ws S)) | (refine wpList_box S ?_; (clear S; intro nb wb hnb S)) | (refine wpList_alloc S ?_; (clear S; intro nb wb hnb S)) | (refine wpList_mk8 S ?_; (clear S; intro nb wb hnb S)) | (refine wpList_mk S ?_; (clear S; intro nb wb hnb S)) | (refine wpList_bs S ?_; (clear S; intro nb wb hnb S)) | (refine wpList_stA S ?_; (clear S; intro ws S; simp only [splice, List.take_zero, List.take_succ_cons, List.drop_succ_cons, List.drop_zero, List.drop_nil, List.length_cons, List.length_nil, Nat.reduceAdd, Nat.zero_add, List.nil_append, List.cons_append, List.append_nil] at S)) | (refine wpList_b2sB S ?_) | (refine wpList_b2sR S ?_) | (refine wpList_ldc S ?_))
  go_ret
  refine ⟨retI ?_, S.sel (by repeat (first | exact Sel.nil | (apply Sel.cons; (repeat (first | exact Pull.head | apply Pull.tail)))))⟩
  rw [u16_two, ← le2_of l (by have := hs.len8; omega), hc.out, hd.out]

theorem keyed (key : ByteArray) (w : World) (hk : key.size ≤ 2147483647) : Calls Try.prog 28 #[.string key] w fun e w' => e = .returned (.bool (decide ((key.size : Int) + 18 < 65536))) ∧ St w [] w' [] := by
  have S := St.begin w
  go_enter Try.func28, Try.ntmps28
  go_wp2_with (first | ((with_reducible show Code.wp _ (Code.region _ _ true) _ _ _); refine St.regionLast S ?_; (repeat (first | (go_big_quiet_step (fail)) | (go_big_quiet_want; (first | refine quiet_ld S ?_ | refine quiet_ld8 S ?_ | refine quiet_ld0 ?_ | refine quiet_ldA S ?_ | refine quiet_b2sB S ?_ | refine quiet_b2sR S ?_ | refine quiet_ldc S ?_); go_big_quiet_on))); refine wpQuiet_nil ?_; clear S; intro wq S) | (refine wpList_ld S ?_) | (refine wpList_ld8 S ?_) | (refine wpList_ld0 ?_) | (refine wpList_ldA S ?_) | (refine wpList_st8 S ?_; (clear S; intro ws S)) | (refine wpList_st S ?_; (clear S; intro ws S)) | (refine wpList_box S ?_; (clear S; intro nb wb hnb S)) | (refine wpList_alloc S ?_; (clear S; intro nb wb hnb S)) | (refine wpList_mk8 S ?_; (clear S; intro nb wb hnb S)) | (refine wpList_mk S ?_; (clear S; intro nb wb hnb S)) | (refine wpList_bs S ?_; (clear S; intro nb wb hnb S)) | (refine wpList_stA S ?_; (clear S; intro ws S; simp only [splice, List.take_zero, List.take_succ_cons, List.drop_succ_cons, List.drop_zero, List.drop_nil, List.length_cons, List.length_nil, Nat.reduceAdd, Nat.zero_add, List.nil_append, List.cons_append, List.append_nil] at S)) | (refine wpList_b2sB S ?_) | (refine wpList_b2sR S ?_) | (refine wpList_ldc S ?_))
  go_ret
  exact ⟨rfl, S⟩

theorem wrapB_key (tm hs : Int) (key : ByteArray) (l : List UInt8) (hk : key.size < 65536) : leVal (((wrapB tm hs key l).drop 16).take 2) = key.size := by
  have : ((wrapB tm hs key l).drop 16).take 2 = le 2 key.size := by
    unfold wrapB
    rw [List.append_assoc, List.append_assoc, List.drop_append, List.drop_eq_nil_of_le (by simp)]
    simp
  rw [this, leVal_le]
  omega

theorem wrapB_at (tm hs : Int) (key : ByteArray) (l : List UInt8) : ((wrapB tm hs key l).drop 18).take key.size = key.data.toList := by
  unfold wrapB
  rw [List.append_assoc, List.drop_append, List.drop_eq_nil_of_le (by simp)]
  simp

theorem wrapB_length (tm hs : Int) (key : ByteArray) (l : List UInt8) : (wrapB tm hs key l).length = 18 + key.size + l.length := by
  simp [wrapB]; omega

theorem wf64 {n : Int} (h : (Lit.int .u64 n).wf = true) : 0 ≤ n ∧ n < 18446744073709551616 := by
  simp [Lit.wf, IntKind.min, IntKind.max, IntKind.signed, IntKind.bits] at h; omega

theorem le8_cells (v : Int) (h0 : 0 ≤ v) (h1 : v < 18446744073709551616) : u8s (le 8 v.toNat) = [.int .u8 (v % 256), .int .u8 (v / 256 % 256), .int .u8 (v / 65536 % 256), .int .u8 (v / 16777216 % 256), .int .u8 (v / 4294967296 % 256), .int .u8 (v / 1099511627776 % 256), .int .u8 (v / 281474976710656 % 256), .int .u8 (v / 72057594037927936)] := by
  obtain ⟨n, rfl⟩ := Int.eq_ofNat_of_zero_le h0
  simp only [u8s, le, List.map_cons, List.map_nil, UInt8.toNat_ofNat', Int.toNat_natCast, List.cons.injEq, Value.int.injEq, true_and, and_true]
  omega

set_option maxHeartbeats 400000 in
theorem put64 (b off n cap : Nat) (cs : List Value) (v : Int) (w : World) (T : TypeId) (M : Mem w [.blk b (.cells cs.toArray T (0, 0))])
    (hv0 : 0 ≤ v) (hv1 : v < 18446744073709551616) (hn : 8 ≤ n) (hl : off + 8 ≤ cs.length) :
    Calls Try.prog 87 #[.agg #[], .slice (some ⟨b, off, none⟩) n cap, .int .u64 v] w fun e w' => e = .returned (.tuple #[]) ∧ St w [b] w' [.blk b (.cells (splice cs off (u8s (le 8 v.toNat))).toArray T (0, 0))] := by
  rw [le8_cells v hv0 hv1, ← set_eight _ _ _ _ _ _ _ _ _ _ hl]
  have S : St w [b] w _ := St.start M
  clear M
  go_enter Try.func87, Try.ntmps87
  go_wp2_with (first | (refine wpList_box S ?_; (clear S; intro n w1 hn1 S)) | (refine wpList_ldG S ?_) | (refine wpList_stG S ?_; (clear S; intro w1 S)))
  go_end0
  exact ⟨rfl, S.sel (.cons (.tail .head) .nil)⟩

theorem put2 (l : List UInt8) (off : Nat) (v : Int) (h0 : 0 ≤ v) (h1 : v < 65536) (hl : off + 2 ≤ l.length) :
    (l.set off (UInt8.ofNat (v % 256).toNat)).set (off + 1) (UInt8.ofNat (v / 256).toNat) = splice l off (le 2 v.toNat) := by
  rw [set_two _ _ _ _ hl]
  obtain ⟨n, rfl⟩ := Int.eq_ofNat_of_zero_le h0
  simp only [le, Int.toNat_natCast]
  rw [ofNat_int _ (by omega)]
  congr 3 <;> (congr 1; omega)

set_option maxHeartbeats 400000 in
theorem put16 (b off n cap : Nat) (l : List UInt8) (v : Int) (w : World) (T : TypeId) (M : Mem w [.blk b (.cells (u8s l).toArray T (0, 0))])
    (hv0 : 0 ≤ v) (hv1 : v < 65536) (hn : 2 ≤ n) (hl : off + 2 ≤ l.length) :
    Calls Try.prog 88 #[.agg #[], .slice (some ⟨b, off, none⟩) n cap, .int .u16 v] w fun e w' => e = .returned (.tuple #[]) ∧ St w [b] w' [.blk b (.cells (u8s (splice l off (le 2 v.toNat))).toArray T (0, 0))] := by
  rw [← put2 l off v hv0 hv1 hl]
  have S : St w [b] w _ := St.start M
  clear M
  go_enter Try.func88, Try.ntmps88
  go_wp2_with (first | (refine wpList_box S ?_; (clear S; intro n w1 hn1 S)) | (refine wpList_ld8 S ?_) | (refine wpList_st8 S ?_; (clear S; intro w1 S)))
  go_end0
  exact ⟨rfl, S.sel (.cons (.tail .head) .nil)⟩

end Go.Proofs.Ytkfkcinkkgdebaa
