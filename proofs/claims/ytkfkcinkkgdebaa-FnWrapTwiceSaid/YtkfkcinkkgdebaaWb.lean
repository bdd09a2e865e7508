/- Entries are wrapped, and more is put behind them. -/
import Derived.Test.YtkfkcinkkgdebaaWa
namespace Go.Proofs.Ytkfkcinkkgdebaa
open Go Go.RowKit Go.Vil
set_option linter.unusedSimpArgs false
set_option linter.unusedVariables false

theorem wrap_laid (z a b c d e : List UInt8) (k : Nat) (ha : a.length = 8) (hb : b.length = 8) (hc : c.length = 2) (hd : d.length = k) (hl : 18 + k + e.length ≤ z.length) :
    splice (splice (splice (splice (splice z 0 a) 8 b) 16 c) 18 d) (18 + k) e = splice z 0 (a ++ b ++ c ++ d ++ e) := by
  have e1 := splice_splice z 0 a b (by omega)
  rw [ha, Nat.zero_add] at e1
  have e2 := splice_splice z 0 (a ++ b) c (by simp; omega)
  have e3 := splice_splice z 0 (a ++ b ++ c) d (by simp; omega)
  have e4 := splice_splice z 0 (a ++ b ++ c ++ d) e (by simp; omega)
  simp only [List.length_append, ha, hb, hc, hd, Nat.zero_add, Nat.reduceAdd] at e2 e3 e4
  rw [e1, e2, e3, e4]

set_option maxHeartbeats 1600000 in
set_option maxRecDepth 100000 in
theorem wrapEntryB (tm hs : Int) (key : ByteArray) (v : Value) (n : Nat) (l : List UInt8) (p m buf : Nat) (F : List Res) (w0 w : World) (h0 : 0 ≤ tm) (h1 : tm < 18446744073709551616) (h2 : 0 ≤ hs) (h3 : hs < 18446744073709551616)
    (hk : (key.size : Int) + 18 < 65536) (hn : ¬ (n : Int) > 2147483647) (hb : (buf : Int) ≤ 65536) (hl : Src w0 1 v n (u8s l)) (hv : ∃ a c, v = .slice a n c)
    (S : St w0 [] w (.blk p (.cells [.slice (some ⟨m, 0, none⟩) buf buf].toArray 26 (0, 0)) :: .blk m (.cells (u8s (List.replicate buf 0)).toArray 5 (0, 0)) :: F)) (hfit : ¬ ((n : Int) + 18 + (key.size : Int) > (buf : Int))) :
    Calls Try.prog 77 #[.int .u64 tm, .int .u64 hs, .string key, v, .pointer (some ⟨p, 0, none⟩)] w fun e w' => ∃ b cap, e = .returned (.slice (some ⟨b, 0, none⟩) (18 + key.size + n) cap) ∧ St w0 [] w' [.row 5 1 (.slice (some ⟨b, 0, none⟩) (18 + key.size + n) cap) (18 + key.size + n) (u8s (wrapB tm hs key l))] := by
  obtain ⟨va, vc, rfl⟩ := hv
  go_enter Try.func77, Try.ntmps77
  obtain ⟨z, hz, hzl⟩ : ∃ z : List UInt8, List.replicate buf 0 = z ∧ z.length = buf := ⟨_, rfl, by simp⟩
  rw [hz] at S
  go_wp2_with (first | ((with_reducible show Code.wp _ (Code.region _ _ true) _ _ _); refine St.regionLast S ?_; (repeat (first | (go_big_quiet_step (fail)) | (go_big_quiet_want; (first | refine quiet_ld S ?_ | refine quiet_ld8 S ?_ | refine quiet_ld0 ?_ | refine quiet_ldA S ?_ | refine quiet_b2sB S ?_ | refine quiet_b2sR S ?_ | refine quiet_ldc S ?_); go_big_quiet_on))); refine wpQuiet_nil ?_; clear S; intro wq S) | (refine wpList_ld S ?_) | (refine wpList_ld8 S ?_) | (refine wpList_ld0 ?_) | (refine wpList_ldA S ?_) | (refine wpList_st8 S ?_; (clear S; intro ws S)) | (refine wpList_st S ?_; (clear S; intro ws S)) | (refine wpList_box S ?_; (clear S; intro nb wb hnb S)) | (refine wpList_alloc S ?_; (clear S; intro nb wb hnb S)) | (refine wpList_mk8 S ?_; (clear S; intro nb wb hnb S)) | (refine wpList_mk S ?_; (clear S; intro nb wb hnb S)) | (refine wpList_bs S ?_; (clear S; intro nb wb hnb S)) | (refine wpList_stA S ?_; (clear S; intro ws S; simp only [splice, List.take_zero, List.take_succ_cons, List.drop_succ_cons, List.drop_zero, List.drop_nil, List.length_cons, List.length_nil, Nat.reduceAdd, Nat.zero_add, List.nil_append, List.cons_append, List.append_nil] at S)) | (refine wpList_b2sB S ?_) | (refine wpList_b2sR S ?_) | (refine wpList_ldc S ?_))
  refine Calls.mono (put64 m 0 _ _ (u8s z) tm _ _ S.sel1 h0 h1 (by omega) (by simp; omega)) ?_
  rintro e w2 ⟨rfl, C⟩
  rw [← u8s_splice] at C
  obtain ⟨l1, H1, hl1⟩ : ∃ x, Hid (splice z 0 (le 8 tm.toNat) = x) ∧ x.length = buf := ⟨_, rfl, by rw [splice_length _ _ _ (by simp; omega)]; exact hzl⟩
  rw [H1.out] at C
  have S2 := S.call C; clear S C; simp only [List.cons_append, List.nil_append] at S2; have S := S2; clear S2
  go_wp2_with (first | ((with_reducible show Code.wp _ (Code.region _ _ true) _ _ _); refine St.regionLast S ?_; (repeat (first | (go_big_quiet_step (fail)) | (go_big_quiet_want; (first | refine quiet_ld S ?_ | refine quiet_ld8 S ?_ | refine quiet_ld0 ?_ | refine quiet_ldA S ?_ | refine quiet_b2sB S ?_ | refine quiet_b2sR S ?_ | refine quiet_ldc S ?_); go_big_quiet_on))); refine wpQuiet_nil ?_; clear S; intro wq S) | (refine wpList_ld S ?_) | (refine wpList_ld8 S ?_) | (refine wpList_ld0 ?_) | (refine wpList_ldA S ?_) | (refine wpList_st8 S ?_; (clear S; intro ws S)) | (refine wpList_st S ?_; (clear S; intro ws S)) | (refine wpList_box S ?_; (clear S; intro nb wb hnb S)) | (refine wpList_alloc S ?_; (clear S; intro nb wb hnb S)) | (refine wpList_mk8 S ?_; (clear S; intro nb wb hnb S)) | (refine wpList_mk S ?_; (clear S; intro nb wb hnb S)) | (refine wpList_bs S ?_; (clear S; intro nb wb hnb S)) | (refine wpList_stA S ?_; (clear S; intro ws S; simp only [splice, List.take_zero, List.take_succ_cons, List.drop_succ_cons, List.drop_zero, List.drop_nil, List.length_cons, List.length_nil, Nat.reduceAdd, Nat.zero_add, List.nil_append, List.cons_append, List.append_nil] at S)) | (refine wpList_b2sB S ?_) | (refine wpList_b2sR S ?_) | (refine wpList_ldc S ?_))
  refine Calls.mono (put64 m 8 _ _ (u8s l1) hs _ _ S.sel1 h2 h3 (by omega) (by simp; omega)) ?_
  rintro e w2 ⟨rfl, C⟩
  rw [← u8s_splice] at C
  obtain ⟨l2, H2, hl2⟩ : ∃ x, Hid (splice l1 8 (le 8 hs.toNat) = x) ∧ x.length = buf := ⟨_, rfl, by rw [splice_length _ _ _ (by simp; omega)]; exact hl1⟩
  rw [H2.out] at C
  have S2 := S.call C; clear S C; simp only [List.cons_append, List.nil_append] at S2; have S := S2; clear S2
  go_wp2_with (first | ((with_reducible show Code.wp _ (Code.region _ _ true) _ _ _); refine St.regionLast S ?_; (repeat (first | (go_big_quiet_step (fail)) | (go_big_quiet_want; (first | refine quiet_ld S ?_ | refine quiet_ld8 S ?_ | refine quiet_ld0 ?_ | refine quiet_ldA S ?_ | refine quiet_b2sB S ?_ | refine quiet_b2sR S ?_ | refine quiet_ldc S ?_); go_big_quiet_on))); refine wpQuiet_nil ?_; clear S; intro wq S) | (refine wpList_ld S ?_) | (refine wpList_ld8 S ?_) | (refine wpList_ld0 ?_) | (refine wpList_ldA S ?_) | (refine wpList_st8 S ?_; (clear S; intro ws S)) | (refine wpList_st S ?_; (clear S; intro ws S)) | (refine wpList_box S ?_; (clear S; intro nb wb hnb S)) | (refine wpList_alloc S ?_; (clear S; intro nb wb hnb S)) | (refine wpList_mk8 S ?_; (clear S; intro nb wb hnb S)) | (refine wpList_mk S ?_; (clear S; intro nb wb hnb S)) | (refine wpList_bs S ?_; (clear S; intro nb wb hnb S)) | (refine wpList_stA S ?_; (clear S; intro ws S; simp only [splice, List.take_zero, List.take_succ_cons, List.drop_succ_cons, List.drop_zero, List.drop_nil, List.length_cons, List.length_nil, Nat.reduceAdd, Nat.zero_add, List.nil_append, List.cons_append, List.append_nil] at S)) | (refine wpList_b2sB S ?_) | (refine wpList_b2sR S ?_) | (refine wpList_ldc S ?_))
  refine Calls.mono (put16 m 16 _ _ l2 key.size _ _ S.sel1 (by omega) (by omega) (by omega) (by omega)) ?_
  rintro e w2 ⟨rfl, C⟩
  obtain ⟨l3, H3, hl3⟩ : ∃ x, Hid (splice l2 16 (le 2 (key.size : Int).toNat) = x) ∧ x.length = buf := ⟨_, rfl, by rw [splice_length _ _ _ (by simp; omega)]; exact hl2⟩
  rw [H3.out] at C
  have S2 := S.call C; clear S C; simp only [List.cons_append, List.nil_append] at S2; have S := S2; clear S2
  go_wp2_with (first | (refine wpList_slcL 18 ?_; intro j1 hj1) | (refine wpList_copy8 S (Src.string _ key) ?_; (clear S; intro ws S); rw [splice_end _ _ 18 j1 _ (by omega), take_min _ _ (by simp; omega)] at S; obtain ⟨l4, H4, hl4⟩ : ∃ x, Hid (splice l3 18 key.data.toList = x) ∧ x.length = buf := ⟨_, rfl, by rw [splice_length _ _ _ (by simp; omega)]; exact hl3⟩; rw [H4.out] at S) | (refine wpList_slcL (18 + key.size) ?_; intro j2 hj2) | (refine wpList_copy8 S (hl.on S.chg) ?_; (clear S; intro ws S); rw [splice_end _ _ (18 + key.size) j2 _ (by omega), take_min _ _ (by have := hl.len8; omega)] at S))
  have hll := hl.len8
  have hks : key.data.toList.length = key.size := by simp
  have e : splice l4 (18 + key.size) l = splice z 0 (wrapB tm hs key l) := by
    rw [← H4.out, ← H3.out, ← H2.out, ← H1.out, Int.toNat_natCast]
    exact wrap_laid z _ _ _ _ l _ (by simp) (by simp) (by simp) hks (by omega)
  rw [e] at S
  have hwl := wrapB_length tm hs key l
  have S2 := S.toRow (b := m) (n := 18 + key.size + n) (cap := buf) 1 (by repeat (first | exact Pull.head | apply Pull.tail)) (by rw [length_u8s, splice_length _ _ _ (by omega)]; omega) (by omega) (by unfold maxLen; omega)
  rw [Nat.mul_one, ← u8s_take, show (splice z 0 (wrapB tm hs key l)).take (18 + key.size + n) = wrapB tm hs key l by
    have := splice_at z 0 (wrapB tm hs key l) (by omega)
    rwa [hwl, hll, List.drop_zero] at this] at S2
  clear S
  go_ret
  have e2 : n + 18 + key.size = 18 + key.size + n := by omega
  rw [e2]
  exact ⟨_, _, rfl, S2.sel (.cons .head .nil)⟩

set_option maxHeartbeats 1600000 in
set_option maxRecDepth 100000 in
theorem wrapEntryA (tm hs : Int) (key : ByteArray) (v : Value) (n : Nat) (l : List UInt8) (p m buf : Nat) (F : List Res) (w0 w : World) (h0 : 0 ≤ tm) (h1 : tm < 18446744073709551616) (h2 : 0 ≤ hs) (h3 : hs < 18446744073709551616)
    (hk : (key.size : Int) + 18 < 65536) (hn : ¬ (n : Int) > 2147483647) (hb : (buf : Int) ≤ 65536) (hl : Src w0 1 v n (u8s l)) (hv : ∃ a c, v = .slice a n c)
    (S : St w0 [] w (.blk p (.cells [.slice (some ⟨m, 0, none⟩) buf buf].toArray 26 (0, 0)) :: .blk m (.cells (u8s (List.replicate buf 0)).toArray 5 (0, 0)) :: F)) (hfit : ((n : Int) + 18 + (key.size : Int) > (buf : Int))) :
    Calls Try.prog 77 #[.int .u64 tm, .int .u64 hs, .string key, v, .pointer (some ⟨p, 0, none⟩)] w fun e w' => ∃ b cap, e = .returned (.slice (some ⟨b, 0, none⟩) (18 + key.size + n) cap) ∧ St w0 [] w' [.row 5 1 (.slice (some ⟨b, 0, none⟩) (18 + key.size + n) cap) (18 + key.size + n) (u8s (wrapB tm hs key l))] := by
  obtain ⟨va, vc, rfl⟩ := hv
  go_enter Try.func77, Try.ntmps77
  go_wp2_with (first | (refine wpList_mk8 (ln := 18 + key.size + n) (cn := 18 + key.size + n) S ?_ (hln := by omega) (hcn := by omega); (clear S; intro nb wb hnb S)) | (refine wpList_ld S ?_) | (refine wpList_ld0 ?_) | (refine wpList_st S ?_; (clear S; intro ws S)))
  obtain ⟨z, hz, hzl⟩ : ∃ z : List UInt8, List.replicate (18 + key.size + n) 0 = z ∧ z.length = 18 + key.size + n := ⟨_, rfl, by simp⟩
  rw [hz] at S
  refine Calls.mono (put64 nb 0 _ _ (u8s z) tm _ _ S.sel1 h0 h1 (by omega) (by simp; omega)) ?_
  rintro e w2 ⟨rfl, C⟩
  rw [← u8s_splice] at C
  obtain ⟨l1, H1, hl1⟩ : ∃ x, Hid (splice z 0 (le 8 tm.toNat) = x) ∧ x.length = 18 + key.size + n := ⟨_, rfl, by rw [splice_length _ _ _ (by simp; omega)]; exact hzl⟩
  rw [H1.out] at C
  have S2 := S.call C; clear S C; simp only [List.cons_append, List.nil_append] at S2; have S := S2; clear S2
  go_wp2_with (first | ((with_reducible show Code.wp _ (Code.region _ _ true) _ _ _); refine St.regionLast S ?_; (repeat (first | (go_big_quiet_step (fail)) | (go_big_quiet_want; (first | refine quiet_ld S ?_ | refine quiet_ld8 S ?_ | refine quiet_ld0 ?_ | refine quiet_ldA S ?_ | refine quiet_b2sB S ?_ | refine quiet_b2sR S ?_ | refine quiet_ldc S ?_); go_big_quiet_on))); refine wpQuiet_nil ?_; clear S; intro wq S) | (refine wpList_ld S ?_) | (refine wpList_ld8 S ?_) | (refine wpList_ld0 ?_) | (refine wpList_ldA S ?_) | (refine wpList_st8 S ?_; (clear S; intro ws S)) | (refine wpList_st S ?_; (clear S; intro ws S)) | (refine wpList_box S ?_; (clear S; intro nb wb hnb S)) | (refine wpList_alloc S ?_; (clear S; intro nb wb hnb S)) | (refine wpList_mk8 S ?_; (clear S; intro nb wb hnb S)) | (refine wpList_mk S ?_; (clear S; intro nb wb hnb S)) | (refine wpList_bs S ?_; (clear S; intro nb wb hnb S)) | (refine wpList_stA S ?_; (clear S; intro ws S; simp only [splice, List.take_zero, List.take_succ_cons, List.drop_succ_cons, List.drop_zero, List.drop_nil, List.length_cons, List.length_nil, Nat.reduceAdd, Nat.zero_add, List.nil_append, List.cons_append, List.append_nil] at S)) | (refine wpList_b2sB S ?_) | (refine wpList_b2sR S ?_) | (refine wpList_ldc S ?_))
  refine Calls.mono (put64 nb 8 _ _ (u8s l1) hs _ _ S.sel1 h2 h3 (by omega) (by simp; omega)) ?_
  rintro e w2 ⟨rfl, C⟩
  rw [← u8s_splice] at C
  obtain ⟨l2, H2, hl2⟩ : ∃ x, Hid (splice l1 8 (le 8 hs.toNat) = x) ∧ x.length = 18 + key.size + n := ⟨_, rfl, by rw [splice_length _ _ _ (by simp; omega)]; exact hl1⟩
  rw [H2.out] at C
  have S2 := S.call C; clear S C; simp only [List.cons_append, List.nil_append] at S2; have S := S2; clear S2
  go_wp2_with (first | ((with_reducible show Code.wp _ (Code.region _ _ true) _ _ _); refine St.regionLast S ?_; (repeat (first | (go_big_quiet_step (fail)) | (go_big_quiet_want; (first | refine quiet_ld S ?_ | refine quiet_ld8 S ?_ | refine quiet_ld0 ?_ | refine quiet_ldA S ?_ | refine quiet_b2sB S ?_ | refine quiet_b2sR S ?_ | refine quiet_ldc S ?_); go_big_quiet_on))); refine wpQuiet_nil ?_; clear S; intro wq S) | (refine wpList_ld S ?_) | (refine wpList_ld8 S ?_) | (refine wpList_ld0 ?_) | (refine wpList_ldA S ?_) | (refine wpList_st8 S ?_; (clear S; intro ws S)) | (refine wpList_st S ?_; (clear S; intro ws S)) | (refine wpList_box S ?_; (clear S; intro nb wb hnb S)) | (refine wpList_alloc S ?_; (clear S; intro nb wb hnb S)) | (refine wpList_mk8 S ?_; (clear S; intro nb wb hnb S)) | (refine wpList_mk S ?_; (clear S; intro nb wb hnb S)) | (refine wpList_bs S ?_; (clear S; intro nb wb hnb S)) | (refine wpList_stA S ?_; (clear S; intro ws S; simp only [splice, List.take_zero, List.take_succ_cons, List.drop_succ_cons, List.drop_zero, List.drop_nil, List.length_cons, List.length_nil, Nat.reduceAdd, Nat.zero_add, List.nil_append, List.cons_append, List.append_nil] at S)) | (refine wpList_b2sB S ?_) | (refine wpList_b2sR S ?_) | (refine wpList_ldc S ?_))
  refine Calls.mono (put16 nb 16 _ _ l2 key.size _ _ S.sel1 (by omega) (by omega) (by omega) (by omega)) ?_
  rintro e w2 ⟨rfl, C⟩
  obtain ⟨l3, H3, hl3⟩ : ∃ x, Hid (splice l2 16 (le 2 (key.size : Int).toNat) = x) ∧ x.length = 18 + key.size + n := ⟨_, rfl, by rw [splice_length _ _ _ (by simp; omega)]; exact hl2⟩
  rw [H3.out] at C
  have S2 := S.call C; clear S C; simp only [List.cons_append, List.nil_append] at S2; have S := S2; clear S2
  go_wp2_with (first | (refine wpList_slcL 18 ?_; intro j1 hj1) | (refine wpList_copy8 S (Src.string _ key) ?_; (clear S; intro ws S); rw [splice_end _ _ 18 j1 _ (by omega), take_min _ _ (by simp; omega)] at S; obtain ⟨l4, H4, hl4⟩ : ∃ x, Hid (splice l3 18 key.data.toList = x) ∧ x.length = 18 + key.size + n := ⟨_, rfl, by rw [splice_length _ _ _ (by simp; omega)]; exact hl3⟩; rw [H4.out] at S) | (refine wpList_slcL (18 + key.size) ?_; intro j2 hj2) | (refine wpList_copy8 S (hl.on S.chg) ?_; (clear S; intro ws S); rw [splice_end _ _ (18 + key.size) j2 _ (by omega), take_min _ _ (by have := hl.len8; omega)] at S))
  have hll := hl.len8
  have hks : key.data.toList.length = key.size := by simp
  have e : splice l4 (18 + key.size) l = splice z 0 (wrapB tm hs key l) := by
    rw [← H4.out, ← H3.out, ← H2.out, ← H1.out, Int.toNat_natCast]
    exact wrap_laid z _ _ _ _ l _ (by simp) (by simp) (by simp) hks (by omega)
  rw [e] at S
  have hwl := wrapB_length tm hs key l
  have S2 := S.toRow (b := nb) (n := 18 + key.size + n) (cap := 18 + key.size + n) 1 (by repeat (first | exact Pull.head | apply Pull.tail)) (by rw [length_u8s, splice_length _ _ _ (by omega)]; omega) (by omega) (by unfold maxLen; omega)
  rw [Nat.mul_one, ← u8s_take, show (splice z 0 (wrapB tm hs key l)).take (18 + key.size + n) = wrapB tm hs key l by
    have := splice_at z 0 (wrapB tm hs key l) (by omega)
    rwa [hwl, hll, List.drop_zero] at this] at S2
  clear S
  go_ret
  have e2 : n + 18 + key.size = 18 + key.size + n := by omega
  rw [e2]
  exact ⟨_, _, rfl, S2.sel (.cons .head .nil)⟩

theorem wrapEntry (tm hs : Int) (key : ByteArray) (v : Value) (n : Nat) (l : List UInt8) (p m buf : Nat) (F : List Res) (w0 w : World) (h0 : 0 ≤ tm) (h1 : tm < 18446744073709551616) (h2 : 0 ≤ hs) (h3 : hs < 18446744073709551616)
    (hk : (key.size : Int) + 18 < 65536) (hn : ¬ (n : Int) > 2147483647) (hb : (buf : Int) ≤ 65536) (hl : Src w0 1 v n (u8s l)) (hv : ∃ a c, v = .slice a n c)
    (S : St w0 [] w (.blk p (.cells [.slice (some ⟨m, 0, none⟩) buf buf].toArray 26 (0, 0)) :: .blk m (.cells (u8s (List.replicate buf 0)).toArray 5 (0, 0)) :: F)) :
    Calls Try.prog 77 #[.int .u64 tm, .int .u64 hs, .string key, v, .pointer (some ⟨p, 0, none⟩)] w fun e w' => ∃ b cap, e = .returned (.slice (some ⟨b, 0, none⟩) (18 + key.size + n) cap) ∧ St w0 [] w' [.row 5 1 (.slice (some ⟨b, 0, none⟩) (18 + key.size + n) cap) (18 + key.size + n) (u8s (wrapB tm hs key l))] := by
  by_cases hfit : (n : Int) + 18 + (key.size : Int) > (buf : Int)
  · exact wrapEntryA tm hs key v n l p m buf F w0 w h0 h1 h2 h3 hk hn hb hl hv S hfit
  · exact wrapEntryB tm hs key v n l p m buf F w0 w h0 h1 h2 h3 hk hn hb hl hv S hfit

set_option maxHeartbeats 800000 in
theorem zzWrap (tm hs : Int) (key : ByteArray) (v : Value) (n : Nat) (l : List UInt8) (buf : Nat) (w : World) (h0 : 0 ≤ tm) (h1 : tm < 18446744073709551616) (h2 : 0 ≤ hs) (h3 : hs < 18446744073709551616)
    (hk : (key.size : Int) + 18 < 65536) (hn : ¬ (n : Int) > 2147483647) (hb : (buf : Int) ≤ 65536) (hl : Src w 1 v n (u8s l)) (hv : ∃ a c, v = .slice a n c) :
    Calls Try.prog 50 #[.int .u64 tm, .int .u64 hs, .string key, v, .int .i64 buf] w fun e w' => ∃ b cap, e = .returned (.slice (some ⟨b, 0, none⟩) (18 + key.size + n) cap) ∧ St w [] w' [.row 5 1 (.slice (some ⟨b, 0, none⟩) (18 + key.size + n) cap) (18 + key.size + n) (u8s (wrapB tm hs key l))] := by
  have S := St.begin w
  obtain ⟨va, vc, rfl⟩ := hv
  go_enter Try.func50, Try.ntmps50
  go_wp2_with (first | ((with_reducible show Code.wp _ (Code.region _ _ true) _ _ _); refine St.regionLast S ?_; (repeat (first | (go_big_quiet_step (fail)) | (go_big_quiet_want; (first | refine quiet_ld S ?_ | refine quiet_ld8 S ?_ | refine quiet_ld0 ?_ | refine quiet_ldA S ?_ | refine quiet_b2sB S ?_ | refine quiet_b2sR S ?_ | refine quiet_ldc S ?_); go_big_quiet_on))); refine wpQuiet_nil ?_; clear S; intro wq S) | (refine wpList_ld S ?_) | (refine wpList_ld8 S ?_) | (refine wpList_ld0 ?_) | (refine wpList_ldA S ?_) | (refine wpList_st8 S ?_; (clear S; intro ws S)) | (refine wpList_st S ?_; (clear S; intro ws S)) | (refine wpList_box S ?_; (clear S; intro nb wb hnb S)) | (refine wpList_alloc S ?_; (clear S; intro nb wb hnb S)) | (refine wpList_mk8 S ?_; (clear S; intro nb wb hnb S)) | (refine wpList_mk S ?_; (clear S; intro nb wb hnb S)) | (refine wpList_bs S ?_; (clear S; intro nb wb hnb S)) | (refine wpList_stA S ?_; (clear S; intro ws S; simp only [splice, List.take_zero, List.take_succ_cons, List.drop_succ_cons, List.drop_zero, List.drop_nil, List.length_cons, List.length_nil, Nat.reduceAdd, Nat.zero_add, List.nil_append, List.cons_append, List.append_nil] at S)) | (refine wpList_b2sB S ?_) | (refine wpList_b2sR S ?_) | (refine wpList_ldc S ?_))
  refine Calls.mono (wrapEntry tm hs key _ n l _ _ buf _ w _ h0 h1 h2 h3 hk (by omega) hb hl ⟨_, _, rfl⟩ S) ?_
  rintro e w2 ⟨b, cap, rfl, S2⟩
  clear S
  have S := S2
  clear S2
  go_wp2_with (first | ((with_reducible show Code.wp _ (Code.region _ _ true) _ _ _); refine St.regionLast S ?_; (repeat (first | (go_big_quiet_step (fail)) | (go_big_quiet_want; (first | refine quiet_ld S ?_ | refine quiet_ld8 S ?_ | refine quiet_ld0 ?_ | refine quiet_ldA S ?_ | refine quiet_b2sB S ?_ | refine quiet_b2sR S ?_ | refine quiet_ldc S ?_); go_big_quiet_on))); refine wpQuiet_nil ?_; clear S; intro wq S) | (refine wpList_ld S ?_) | (refine wpList_ld8 S ?_) | (refine wpList_ld0 ?_) | (refine wpList_ldA S ?_) | (refine wpList_st8 S ?_; (clear S; intro ws S)) | (refine wpList_st S ?_; (clear S; intro ws S)) | (refine wpList_box S ?_; (clear S; intro nb wb hnb S)) | (refine wpList_alloc S ?_; (clear S; intro nb wb hnb S)) | (refine wpList_mk8 S ?_; (clear S; intro nb wb hnb S)) | (refine wpList_mk S ?_; (clear S; intro nb wb hnb S)) | (refine wpList_bs S ?_; (clear S; intro nb wb hnb S)) | (refine wpList_stA S ?_; (clear S; intro ws S; simp only [splice, List.take_zero, List.take_succ_cons, List.drop_succ_cons, List.drop_zero, List.drop_nil, List.length_cons, List.length_nil, Nat.reduceAdd, Nat.zero_add, List.nil_append, List.cons_append, List.append_nil] at S)) | (refine wpList_b2sB S ?_) | (refine wpList_b2sR S ?_) | (refine wpList_ldc S ?_))
  go_ret
  exact ⟨_, _, rfl, S⟩

set_option maxHeartbeats 800000 in
theorem implWrap (tm hs : Int) (key : ByteArray) (v : Value) (n : Nat) (l : List UInt8) (buf : Nat) (w : World) (h0 : 0 ≤ tm) (h1 : tm < 18446744073709551616) (h2 : 0 ≤ hs) (h3 : hs < 18446744073709551616)
    (hk : (key.size : Int) + 18 < 65536) (hk' : ¬ (key.size : Int) > 65535) (hn : ¬ (n : Int) > 2147483647) (hb : ¬ (buf : Int) > 65536) (hb' : ¬ (buf : Int) < 0) (hl : Src w 1 v n (u8s l)) (hv : ∃ a c, v = .slice a n c) :
    Calls Try.prog 30 #[.int .u64 tm, .int .u64 hs, .string key, v, .int .i64 buf] w fun e w' => ∃ b cap, e = .returned (.slice (some ⟨b, 0, none⟩) (18 + key.size + n) cap) ∧ St w [] w' [.row 5 1 (.slice (some ⟨b, 0, none⟩) (18 + key.size + n) cap) (18 + key.size + n) (u8s (wrapB tm hs key l))] := by
  have S := St.begin w
  obtain ⟨va, vc, rfl⟩ := hv
  go_enter Try.func30, Try.ntmps30
  go_wp2_with (first | ((with_reducible show Code.wp _ (Code.region _ _ true) _ _ _); refine St.regionLast S ?_; (repeat (first | (go_big_quiet_step (fail)) | (go_big_quiet_want; (first | refine quiet_ld S ?_ | refine quiet_ld8 S ?_ | refine quiet_ld0 ?_ | refine quiet_ldA S ?_ | refine quiet_b2sB S ?_ | refine quiet_b2sR S ?_ | refine quiet_ldc S ?_); go_big_quiet_on))); refine wpQuiet_nil ?_; clear S; intro wq S) | (refine wpList_ld S ?_) | (refine wpList_ld8 S ?_) | (refine wpList_ld0 ?_) | (refine wpList_ldA S ?_) | (refine wpList_st8 S ?_; (clear S; intro ws S)) | (refine wpList_st S ?_; (clear S; intro ws S)) | (refine wpList_box S ?_; (clear S; intro nb wb hnb S)) | (refine wpList_alloc S ?_; (clear S; intro nb wb hnb S)) | (refine wpList_mk8 S ?_; (clear S; intro nb wb hnb S)) | (refine wpList_mk S ?_; (clear S; intro nb wb hnb S)) | (refine wpList_bs S ?_; (clear S; intro nb wb hnb S)) | (refine wpList_stA S ?_; (clear S; intro ws S; simp only [splice, List.take_zero, List.take_succ_cons, List.drop_succ_cons, List.drop_zero, List.drop_nil, List.length_cons, List.length_nil, Nat.reduceAdd, Nat.zero_add, List.nil_append, List.cons_append, List.append_nil] at S)) | (refine wpList_b2sB S ?_) | (refine wpList_b2sR S ?_) | (refine wpList_ldc S ?_))
  refine Calls.mono (zzWrap tm hs key _ n l buf _ h0 h1 h2 h3 hk (by omega) (by omega) (hl.on S.chg) ⟨_, _, rfl⟩) ?_
  rintro e w2 ⟨b, cap, rfl, C⟩
  have S2 := S.call C; clear S C; simp only [List.cons_append, List.nil_append] at S2; have S := S2; clear S2
  go_wp2_with (first | ((with_reducible show Code.wp _ (Code.region _ _ true) _ _ _); refine St.regionLast S ?_; (repeat (first | (go_big_quiet_step (fail)) | (go_big_quiet_want; (first | refine quiet_ld S ?_ | refine quiet_ld8 S ?_ | refine quiet_ld0 ?_ | refine quiet_ldA S ?_ | refine quiet_b2sB S ?_ | refine quiet_b2sR S ?_ | refine quiet_ldc S ?_); go_big_quiet_on))); refine wpQuiet_nil ?_; clear S; intro wq S) | (refine wpList_ld S ?_) | (refine wpList_ld8 S ?_) | (refine wpList_ld0 ?_) | (refine wpList_ldA S ?_) | (refine wpList_st8 S ?_; (clear S; intro ws S)) | (refine wpList_st S ?_; (clear S; intro ws S)) | (refine wpList_box S ?_; (clear S; intro nb wb hnb S)) | (refine wpList_alloc S ?_; (clear S; intro nb wb hnb S)) | (refine wpList_mk8 S ?_; (clear S; intro nb wb hnb S)) | (refine wpList_mk S ?_; (clear S; intro nb wb hnb S)) | (refine wpList_bs S ?_; (clear S; intro nb wb hnb S)) | (refine wpList_stA S ?_; (clear S; intro ws S; simp only [splice, List.take_zero, List.take_succ_cons, List.drop_succ_cons, List.drop_zero, List.drop_nil, List.length_cons, List.length_nil, Nat.reduceAdd, Nat.zero_add, List.nil_append, List.cons_append, List.append_nil] at S)) | (refine wpList_b2sB S ?_) | (refine wpList_b2sR S ?_) | (refine wpList_ldc S ?_))
  go_ret
  exact ⟨_, _, rfl, S⟩

theorem more_laid (z a b e : List UInt8) (n : Nat) (ha : a.length = 8) (hb : 8 + b.length = n) (hl : n + e.length ≤ z.length) :
    splice (splice (splice z 0 a) 8 b) n e = splice z 0 (a ++ b ++ e) := by
  have e1 := splice_splice z 0 a b (by omega)
  rw [ha, Nat.zero_add] at e1
  have e2 := splice_splice z 0 (a ++ b) e (by simp; omega)
  simp only [List.length_append, ha, hb, Nat.zero_add] at e2
  rw [e1, e2]

set_option maxHeartbeats 1600000 in
set_option maxRecDepth 100000 in
theorem appWrappedB (lt : Int) (ad : Addr) (n c : Nat) (lw : List UInt8) (v : Value) (m : Nat) (lm : List UInt8) (p q buf : Nat) (F : List Res) (w0 w : World) (h0 : 0 ≤ lt) (h1 : lt < 18446744073709551616)
    (hn : 18 ≤ n) (hn2 : (n : Int) ≤ 17179869184) (hcn : n ≤ c) (hm : (m : Int) ≤ 17179869184) (hb : (buf : Int) ≤ 65536) (hw : Src w0 1 (.slice (some ad) n c) n (u8s lw)) (hl : Src w0 1 v m (u8s lm)) (hv : ∃ a c, v = .slice a m c)
    (S : St w0 [] w (.blk p (.cells [.slice (some ⟨q, 0, none⟩) buf buf].toArray 26 (0, 0)) :: .blk q (.cells (u8s (List.replicate buf 0)).toArray 5 (0, 0)) :: F)) (hfit : ¬ ((n : Int) + (m : Int) > (buf : Int))) :
    Calls Try.prog 78 #[.int .u64 lt, .slice (some ad) n c, v, .pointer (some ⟨p, 0, none⟩)] w fun e w' => ∃ b cap, e = .returned (.slice (some ⟨b, 0, none⟩) (n + m) cap) ∧ St w0 [] w' [.row 5 1 (.slice (some ⟨b, 0, none⟩) (n + m) cap) (n + m) (u8s (le 8 lt.toNat ++ lw.drop 8 ++ lm))] := by
  obtain ⟨va, vc, rfl⟩ := hv
  have ht := hidden (hw.tail 8 (c - 8) (by omega))
  have hwl := hidden hw.len8
  have hll := hidden hl.len8
  go_enter Try.func78, Try.ntmps78
  obtain ⟨z, hz, hzl⟩ : ∃ z : List UInt8, List.replicate buf 0 = z ∧ z.length = buf := ⟨_, rfl, by simp⟩
  rw [hz] at S
  go_wp2_with (first | ((with_reducible show Code.wp _ (Code.region _ _ true) _ _ _); refine St.regionLast S ?_; (repeat (first | (go_big_quiet_step (fail)) | (go_big_quiet_want; (first | refine quiet_ld S ?_ | refine quiet_ld8 S ?_ | refine quiet_ld0 ?_ | refine quiet_ldA S ?_ | refine quiet_b2sB S ?_ | refine quiet_b2sR S ?_ | refine quiet_ldc S ?_); go_big_quiet_on))); refine wpQuiet_nil ?_; clear S; intro wq S) | (refine wpList_ld S ?_) | (refine wpList_ld8 S ?_) | (refine wpList_ld0 ?_) | (refine wpList_ldA S ?_) | (refine wpList_st8 S ?_; (clear S; intro ws S)) | (refine wpList_st S ?_; (clear S; intro ws S)) | (refine wpList_box S ?_; (clear S; intro nb wb hnb S)) | (refine wpList_alloc S ?_; (clear S; intro nb wb hnb S)) | (refine wpList_mk8 S ?_; (clear S; intro nb wb hnb S)) | (refine wpList_mk S ?_; (clear S; intro nb wb hnb S)) | (refine wpList_bs S ?_; (clear S; intro nb wb hnb S)) | (refine wpList_stA S ?_; (clear S; intro ws S; simp only [splice, List.take_zero, List.take_succ_cons, List.drop_succ_cons, List.drop_zero, List.drop_nil, List.length_cons, List.length_nil, Nat.reduceAdd, Nat.zero_add, List.nil_append, List.cons_append, List.append_nil] at S)) | (refine wpList_b2sB S ?_) | (refine wpList_b2sR S ?_) | (refine wpList_ldc S ?_))
  refine Calls.mono (put64 q 0 _ _ (u8s z) lt _ _ S.sel1 h0 h1 (by omega) (by simp; omega)) ?_
  rintro e w2 ⟨rfl, C⟩
  rw [← u8s_splice] at C
  obtain ⟨l1, H1, hl1⟩ : ∃ x, Hid (splice z 0 (le 8 lt.toNat) = x) ∧ x.length = buf := ⟨_, rfl, by rw [splice_length _ _ _ (by simp; omega)]; exact hzl⟩
  rw [H1.out] at C
  have S2 := S.call C; clear S C; simp only [List.cons_append, List.nil_append] at S2; have S := S2; clear S2
  go_wp2_with (first | ((with_reducible show Code.wp _ (Code.region _ _ true) _ _ _); refine St.regionLast S ?_; (repeat (first | (go_big_quiet_step (fail)) | (go_big_quiet_want; (first | refine quiet_ld S ?_ | refine quiet_ld8 S ?_ | refine quiet_ld0 ?_ | refine quiet_ldA S ?_ | refine quiet_b2sB S ?_ | refine quiet_b2sR S ?_ | refine quiet_ldc S ?_); go_big_quiet_on))); refine wpQuiet_nil ?_; clear S; intro wq S) | (refine wpList_copy8 S (ht.out.on S.chg) ?_; (clear S; intro ws S); rw [take_min _ _ (by have := hwl.out; simp; omega)] at S; obtain ⟨l4, H4, hl4⟩ : ∃ x, Hid (splice l1 8 (lw.drop 8) = x) ∧ x.length = buf := ⟨_, rfl, by rw [splice_length _ _ _ (by have := hwl.out; simp; omega)]; exact hl1⟩; rw [H4.out] at S) | (refine wpList_slcL n ?_; intro j2 hj2) | (refine wpList_copy8 S (hl.on S.chg) ?_; (clear S; intro ws S); rw [splice_end _ _ n j2 _ (by omega), take_min _ _ (by have := hll.out; omega)] at S))
  have hwl := hwl.out
  have hll := hll.out
  have hxl : (le 8 lt.toNat ++ lw.drop 8 ++ lm).length = n + m := by simp; omega
  have e : splice l4 n lm = splice z 0 (le 8 lt.toNat ++ lw.drop 8 ++ lm) := by
    rw [← H4.out, ← H1.out]
    exact more_laid z _ _ lm n (by simp) (by simp; omega) (by omega)
  rw [e] at S
  have S2 := S.toRow (b := q) (n := n + m) (cap := buf) 1 (by repeat (first | exact Pull.head | apply Pull.tail)) (by rw [length_u8s, splice_length _ _ _ (by omega)]; omega) (by omega) (by unfold maxLen; omega)
  rw [Nat.mul_one, ← u8s_take, show (splice z 0 (le 8 lt.toNat ++ lw.drop 8 ++ lm)).take (n + m) = le 8 lt.toNat ++ lw.drop 8 ++ lm by
    have := splice_at z 0 (le 8 lt.toNat ++ lw.drop 8 ++ lm) (by omega)
    rwa [hxl, List.drop_zero] at this] at S2
  clear S
  go_ret
  exact ⟨_, _, rfl, S2.sel (.cons .head .nil)⟩

set_option maxHeartbeats 1600000 in
set_option maxRecDepth 100000 in
theorem appWrappedA (lt : Int) (ad : Addr) (n c : Nat) (lw : List UInt8) (v : Value) (m : Nat) (lm : List UInt8) (p q buf : Nat) (F : List Res) (w0 w : World) (h0 : 0 ≤ lt) (h1 : lt < 18446744073709551616)
    (hn : 18 ≤ n) (hn2 : (n : Int) ≤ 17179869184) (hcn : n ≤ c) (hm : (m : Int) ≤ 17179869184) (hb : (buf : Int) ≤ 65536) (hw : Src w0 1 (.slice (some ad) n c) n (u8s lw)) (hl : Src w0 1 v m (u8s lm)) (hv : ∃ a c, v = .slice a m c)
    (S : St w0 [] w (.blk p (.cells [.slice (some ⟨q, 0, none⟩) buf buf].toArray 26 (0, 0)) :: .blk q (.cells (u8s (List.replicate buf 0)).toArray 5 (0, 0)) :: F)) (hfit : ((n : Int) + (m : Int) > (buf : Int))) :
    Calls Try.prog 78 #[.int .u64 lt, .slice (some ad) n c, v, .pointer (some ⟨p, 0, none⟩)] w fun e w' => ∃ b cap, e = .returned (.slice (some ⟨b, 0, none⟩) (n + m) cap) ∧ St w0 [] w' [.row 5 1 (.slice (some ⟨b, 0, none⟩) (n + m) cap) (n + m) (u8s (le 8 lt.toNat ++ lw.drop 8 ++ lm))] := by
  obtain ⟨va, vc, rfl⟩ := hv
  have ht := hidden (hw.tail 8 (c - 8) (by omega))
  have hwl := hidden hw.len8
  have hll := hidden hl.len8
  go_enter Try.func78, Try.ntmps78
  go_wp2_with (first | (refine wpList_mk8 (ln := n + m) (cn := n + m) S ?_ (hln := by omega) (hcn := by omega); (clear S; intro nb wb hnb S)) | (refine wpList_ld S ?_) | (refine wpList_ld0 ?_) | (refine wpList_st S ?_; (clear S; intro ws S)))
  obtain ⟨z, hz, hzl⟩ : ∃ z : List UInt8, List.replicate (n + m) 0 = z ∧ z.length = n + m := ⟨_, rfl, by simp⟩
  rw [hz] at S
  refine Calls.mono (put64 nb 0 _ _ (u8s z) lt _ _ S.sel1 h0 h1 (by omega) (by simp; omega)) ?_
  rintro e w2 ⟨rfl, C⟩
  rw [← u8s_splice] at C
  obtain ⟨l1, H1, hl1⟩ : ∃ x, Hid (splice z 0 (le 8 lt.toNat) = x) ∧ x.length = n + m := ⟨_, rfl, by rw [splice_length _ _ _ (by simp; omega)]; exact hzl⟩
  rw [H1.out] at C
  have S2 := S.call C; clear S C; simp only [List.cons_append, List.nil_append] at S2; have S := S2; clear S2
  go_wp2_with (first | ((with_reducible show Code.wp _ (Code.region _ _ true) _ _ _); refine St.regionLast S ?_; (repeat (first | (go_big_quiet_step (fail)) | (go_big_quiet_want; (first | refine quiet_ld S ?_ | refine quiet_ld8 S ?_ | refine quiet_ld0 ?_ | refine quiet_ldA S ?_ | refine quiet_b2sB S ?_ | refine quiet_b2sR S ?_ | refine quiet_ldc S ?_); go_big_quiet_on))); refine wpQuiet_nil ?_; clear S; intro wq S) | (refine wpList_copy8 S (ht.out.on S.chg) ?_; (clear S; intro ws S); rw [take_min _ _ (by have := hwl.out; simp; omega)] at S; obtain ⟨l4, H4, hl4⟩ : ∃ x, Hid (splice l1 8 (lw.drop 8) = x) ∧ x.length = n + m := ⟨_, rfl, by rw [splice_length _ _ _ (by have := hwl.out; simp; omega)]; exact hl1⟩; rw [H4.out] at S) | (refine wpList_slcL n ?_; intro j2 hj2) | (refine wpList_copy8 S (hl.on S.chg) ?_; (clear S; intro ws S); rw [splice_end _ _ n j2 _ (by omega), take_min _ _ (by have := hll.out; omega)] at S))
  have hwl := hwl.out
  have hll := hll.out
  have hxl : (le 8 lt.toNat ++ lw.drop 8 ++ lm).length = n + m := by simp; omega
  have e : splice l4 n lm = splice z 0 (le 8 lt.toNat ++ lw.drop 8 ++ lm) := by
    rw [← H4.out, ← H1.out]
    exact more_laid z _ _ lm n (by simp) (by simp; omega) (by omega)
  rw [e] at S
  have S2 := S.toRow (b := nb) (n := n + m) (cap := n + m) 1 (by repeat (first | exact Pull.head | apply Pull.tail)) (by rw [length_u8s, splice_length _ _ _ (by omega)]; omega) (by omega) (by unfold maxLen; omega)
  rw [Nat.mul_one, ← u8s_take, show (splice z 0 (le 8 lt.toNat ++ lw.drop 8 ++ lm)).take (n + m) = le 8 lt.toNat ++ lw.drop 8 ++ lm by
    have := splice_at z 0 (le 8 lt.toNat ++ lw.drop 8 ++ lm) (by omega)
    rwa [hxl, List.drop_zero] at this] at S2
  clear S
  go_ret
  exact ⟨_, _, rfl, S2.sel (.cons .head .nil)⟩

theorem idle45 (p q : Option Addr) : Idle Try.prog 52 #[.pointer p, .pointer q] := by
  intro w
  refine callsD_of_wpS Try.func52 rfl fun c₀ cs hu => ?_
  apply wpS_seq
  apply wpS_region
  simp [wpOpsS, go_sem, recoverD, hu, Try.ntmps52, Exit.thenS]
  refine wpS_cond (t := false) (by simp [Act.eval, Array.replicate]) ?_
  simp only [Bool.false_eq_true, if_false]
  refine wpS_of_wp (wp_skip ?_)
  cases c₀
  simp_all [bodyPostS, results, Try.results52]

theorem appWrapped (lt : Int) (ad : Addr) (n c : Nat) (lw : List UInt8) (v : Value) (m : Nat) (lm : List UInt8) (p q buf : Nat) (F : List Res) (w0 w : World) (h0 : 0 ≤ lt) (h1 : lt < 18446744073709551616)
    (hn : 18 ≤ n) (hn2 : (n : Int) ≤ 17179869184) (hcn : n ≤ c) (hm : (m : Int) ≤ 17179869184) (hb : (buf : Int) ≤ 65536) (hw : Src w0 1 (.slice (some ad) n c) n (u8s lw)) (hl : Src w0 1 v m (u8s lm)) (hv : ∃ a c, v = .slice a m c)
    (S : St w0 [] w (.blk p (.cells [.slice (some ⟨q, 0, none⟩) buf buf].toArray 26 (0, 0)) :: .blk q (.cells (u8s (List.replicate buf 0)).toArray 5 (0, 0)) :: F)) :
    Calls Try.prog 78 #[.int .u64 lt, .slice (some ad) n c, v, .pointer (some ⟨p, 0, none⟩)] w fun e w' => ∃ b cap, e = .returned (.slice (some ⟨b, 0, none⟩) (n + m) cap) ∧ St w0 [] w' [.row 5 1 (.slice (some ⟨b, 0, none⟩) (n + m) cap) (n + m) (u8s (le 8 lt.toNat ++ lw.drop 8 ++ lm))] := by
  by_cases hfit : (n : Int) + (m : Int) > (buf : Int)
  · exact appWrappedA lt ad n c lw v m lm p q buf F w0 w h0 h1 hn hn2 hcn hm hb hw hl hv S hfit
  · exact appWrappedB lt ad n c lw v m lm p q buf F w0 w h0 h1 hn hn2 hcn hm hb hw hl hv S hfit

set_option maxHeartbeats 800000 in
theorem zzAppend (lt : Int) (ad : Addr) (n c : Nat) (lw : List UInt8) (v : Value) (m : Nat) (lm : List UInt8) (buf : Nat) (w : World) (h0 : 0 ≤ lt) (h1 : lt < 18446744073709551616)
    (hn : 18 ≤ n) (hn2 : (n : Int) ≤ 17179869184) (hcn : n ≤ c) (hm : (m : Int) ≤ 17179869184) (hb : (buf : Int) ≤ 65536) (hw : Src w 1 (.slice (some ad) n c) n (u8s lw)) (hl : Src w 1 v m (u8s lm)) (hv : ∃ a c, v = .slice a m c) :
    Calls Try.prog 53 #[.int .u64 lt, .slice (some ad) n c, v, .int .i64 buf] w fun e w' => ∃ b cap, e = .returned (.slice (some ⟨b, 0, none⟩) (n + m) cap) ∧ St w [] w' [.row 5 1 (.slice (some ⟨b, 0, none⟩) (n + m) cap) (n + m) (u8s (le 8 lt.toNat ++ lw.drop 8 ++ lm))] := by
  have S := St.begin w
  obtain ⟨va, vc, rfl⟩ := hv
  have q1 := hidden (And.intro hn (And.intro hn2 (And.intro hcn hm)))
  clear hn hn2 hcn hm
  go_enter Try.func53, Try.ntmps53
  go_wp2_with (first | ((with_reducible show Code.wp _ (Code.region _ _ true) _ _ _); refine St.regionLast S ?_; (repeat (first | (go_big_quiet_step (fail)) | (go_big_quiet_want; (first | refine quiet_ld S ?_ | refine quiet_ld8 S ?_ | refine quiet_ld0 ?_ | refine quiet_ldA S ?_ | refine quiet_b2sB S ?_ | refine quiet_b2sR S ?_ | refine quiet_ldc S ?_); go_big_quiet_on))); refine wpQuiet_nil ?_; clear S; intro wq S) | (refine wpList_ld S ?_) | (refine wpList_ld8 S ?_) | (refine wpList_ld0 ?_) | (refine wpList_ldA S ?_) | (refine wpList_st8 S ?_; (clear S; intro ws S)) | (refine wpList_st S ?_; (clear S; intro ws S)) | (refine wpList_box S ?_; (clear S; intro nb wb hnb S)) | (refine wpList_alloc S ?_; (clear S; intro nb wb hnb S)) | (refine wpList_mk8 S ?_; (clear S; intro nb wb hnb S)) | (refine wpList_mk S ?_; (clear S; intro nb wb hnb S)) | (refine wpList_bs S ?_; (clear S; intro nb wb hnb S)) | (refine wpList_stA S ?_; (clear S; intro ws S; simp only [splice, List.take_zero, List.take_succ_cons, List.drop_succ_cons, List.drop_zero, List.drop_nil, List.length_cons, List.length_nil, Nat.reduceAdd, Nat.zero_add, List.nil_append, List.cons_append, List.append_nil] at S)) | (refine wpList_b2sB S ?_) | (refine wpList_b2sR S ?_) | (refine wpList_ldc S ?_))
  obtain ⟨hn, hn2, hcn, hm⟩ := q1.out
  refine Calls.mono (appWrapped lt ad n c lw _ m lm _ _ buf _ w _ h0 h1 hn hn2 hcn hm (by omega) hw hl ⟨_, _, rfl⟩ S) ?_
  rintro e w2 ⟨b, cap, rfl, S2⟩
  clear S
  have S := S2
  clear S2
  clear hn hn2 hcn hm
  go_wp2_with (first | ((with_reducible show Code.wp _ (Code.region _ _ true) _ _ _); refine St.regionLast S ?_; (repeat (first | (go_big_quiet_step (fail)) | (go_big_quiet_want; (first | refine quiet_ld S ?_ | refine quiet_ld8 S ?_ | refine quiet_ld0 ?_ | refine quiet_ldA S ?_ | refine quiet_b2sB S ?_ | refine quiet_b2sR S ?_ | refine quiet_ldc S ?_); go_big_quiet_on))); refine wpQuiet_nil ?_; clear S; intro wq S) | (refine wpList_ld S ?_) | (refine wpList_ld8 S ?_) | (refine wpList_ld0 ?_) | (refine wpList_ldA S ?_) | (refine wpList_st8 S ?_; (clear S; intro ws S)) | (refine wpList_st S ?_; (clear S; intro ws S)) | (refine wpList_box S ?_; (clear S; intro nb wb hnb S)) | (refine wpList_alloc S ?_; (clear S; intro nb wb hnb S)) | (refine wpList_mk8 S ?_; (clear S; intro nb wb hnb S)) | (refine wpList_mk S ?_; (clear S; intro nb wb hnb S)) | (refine wpList_bs S ?_; (clear S; intro nb wb hnb S)) | (refine wpList_stA S ?_; (clear S; intro ws S; simp only [splice, List.take_zero, List.take_succ_cons, List.drop_succ_cons, List.drop_zero, List.drop_nil, List.length_cons, List.length_nil, Nat.reduceAdd, Nat.zero_add, List.nil_append, List.cons_append, List.append_nil] at S)) | (refine wpList_b2sB S ?_) | (refine wpList_b2sR S ?_) | (refine wpList_ldc S ?_))
  go_ret
  exact ⟨_, _, rfl, S⟩

set_option maxHeartbeats 800000 in
theorem implMore (lt : Int) (ad : Addr) (n c : Nat) (lw : List UInt8) (v : Value) (m : Nat) (lm : List UInt8) (buf : Nat) (w : World) (h0 : 0 ≤ lt) (h1 : lt < 18446744073709551616)
    (hn : 18 ≤ n) (hn2 : (n : Int) ≤ 17179869184) (hcn : n ≤ c) (hm : (m : Int) ≤ 17179869184) (hb : ¬ (buf : Int) > 65536) (hb' : ¬ (buf : Int) < 0) (hw : Src w 1 (.slice (some ad) n c) n (u8s lw)) (hl : Src w 1 v m (u8s lm)) (hv : ∃ a c, v = .slice a m c) :
    Calls Try.prog 32 #[.int .u64 lt, .slice (some ad) n c, v, .int .i64 buf] w fun e w' => ∃ b cap, e = .returned (.tuple #[.slice (some ⟨b, 0, none⟩) (n + m) cap, .int .i64 0]) ∧ St w [] w' [.row 5 1 (.slice (some ⟨b, 0, none⟩) (n + m) cap) (n + m) (u8s (le 8 lt.toNat ++ lw.drop 8 ++ lm))] := by
  have S := St.begin w
  have hmf : ∀ (fn : Fn) (first cap : Array Value) (w : World), (Instr.makeFunc fn first cap).run Try.prog w = .ok (.func fn first cap) w := fun _ _ _ _ => rfl
  obtain ⟨va, vc, rfl⟩ := hv
  have q1 := hidden (And.intro hn (And.intro hn2 (And.intro hcn (And.intro hm (And.intro h0 h1)))))
  clear hn hn2 hcn hm h0 h1
  go_enter_defers Try.func32, Try.ntmps32
  go_wp2_with (first | ((with_reducible show Code.wp _ (Code.region _ _ true) _ _ _); refine St.regionLast S ?_; (repeat (first | (go_big_quiet_step (fail)) | (go_big_quiet_want; (first | refine quiet_ld S ?_ | refine quiet_ld8 S ?_ | refine quiet_ld0 ?_ | refine quiet_ldA S ?_ | refine quiet_b2sB S ?_ | refine quiet_b2sR S ?_ | refine quiet_ldc S ?_); go_big_quiet_on))); refine wpQuiet_nil ?_; clear S; intro wq S) | (refine wpList_ld S ?_) | (refine wpList_ld8 S ?_) | (refine wpList_ld0 ?_) | (refine wpList_ldA S ?_) | (refine wpList_st8 S ?_; (clear S; intro ws S)) | (refine wpList_st S ?_; (clear S; intro ws S)) | (refine wpList_box S ?_; (clear S; intro nb wb hnb S)) | (refine wpList_alloc S ?_; (clear S; intro nb wb hnb S)) | (refine wpList_mk8 S ?_; (clear S; intro nb wb hnb S)) | (refine wpList_mk S ?_; (clear S; intro nb wb hnb S)) | (refine wpList_bs S ?_; (clear S; intro nb wb hnb S)) | (refine wpList_stA S ?_; (clear S; intro ws S; simp only [splice, List.take_zero, List.take_succ_cons, List.drop_succ_cons, List.drop_zero, List.drop_nil, List.length_cons, List.length_nil, Nat.reduceAdd, Nat.zero_add, List.nil_append, List.cons_append, List.append_nil] at S)) | (refine wpList_b2sB S ?_) | (refine wpList_b2sR S ?_) | (refine wpList_ldc S ?_))
  obtain ⟨hn, hn2, hcn, hm, h0, h1⟩ := q1.out
  refine Calls.mono (zzAppend lt ad n c lw _ m lm buf _ h0 h1 hn hn2 hcn hm (by omega) (hw.on S.chg) (hl.on S.chg) ⟨_, _, rfl⟩) ?_
  rintro e w2 ⟨b, cap, rfl, C⟩
  have S2 := S.call C; clear S C; simp only [List.cons_append, List.nil_append] at S2; have S := S2; clear S2
  clear hn hn2 hcn hm
  go_wp2_with (first | ((with_reducible show Code.wp _ (Code.region _ _ true) _ _ _); refine St.regionLast S ?_; (repeat (first | (go_big_quiet_step (fail)) | (go_big_quiet_want; (first | refine quiet_ld S ?_ | refine quiet_ld8 S ?_ | refine quiet_ld0 ?_ | refine quiet_ldA S ?_ | refine quiet_b2sB S ?_ | refine quiet_b2sR S ?_ | refine quiet_ldc S ?_); go_big_quiet_on))); refine wpQuiet_nil ?_; clear S; intro wq S) | (refine wpList_ld S ?_) | (refine wpList_ld8 S ?_) | (refine wpList_ld0 ?_) | (refine wpList_ldA S ?_) | (refine wpList_st8 S ?_; (clear S; intro ws S)) | (refine wpList_st S ?_; (clear S; intro ws S)) | (refine wpList_box S ?_; (clear S; intro nb wb hnb S)) | (refine wpList_alloc S ?_; (clear S; intro nb wb hnb S)) | (refine wpList_mk8 S ?_; (clear S; intro nb wb hnb S)) | (refine wpList_mk S ?_; (clear S; intro nb wb hnb S)) | (refine wpList_bs S ?_; (clear S; intro nb wb hnb S)) | (refine wpList_stA S ?_; (clear S; intro ws S; simp only [splice, List.take_zero, List.take_succ_cons, List.drop_succ_cons, List.drop_zero, List.drop_nil, List.length_cons, List.length_nil, Nat.reduceAdd, Nat.zero_add, List.nil_append, List.cons_append, List.append_nil] at S)) | (refine wpList_b2sB S ?_) | (refine wpList_b2sR S ?_) | (refine wpList_ldc S ?_))
  exact door2 S (idle45 _ _) ⟨b, cap, rfl, S.sel (by repeat (first | exact Sel.nil | (apply Sel.cons; (repeat (first | exact Pull.head | apply Pull.tail)))))⟩

theorem wrapB_more (tm lt hs : Int) (key : ByteArray) (l lm : List UInt8) : le 8 lt.toNat ++ (wrapB tm hs key l).drop 8 ++ lm = wrapB lt hs key (l ++ lm) := by
  unfold wrapB
  rw [List.append_assoc (le 8 tm.toNat), List.append_assoc (le 8 tm.toNat), List.append_assoc (le 8 tm.toNat), List.drop_left' (by simp)]
  simp [List.append_assoc]

end Go.Proofs.Ytkfkcinkkgdebaa
