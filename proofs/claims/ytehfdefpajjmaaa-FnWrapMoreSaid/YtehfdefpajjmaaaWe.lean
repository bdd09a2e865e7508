/- An entry is wrapped as its bytes are told: for keys of less than 65518 bytes, and buffers of 0 to 65536 bytes. -/
import Derived.Test.YtehfdefpajjmaaaCl
import Derived.Test.YtehfdefpajjmaaaHdr
namespace Go.Proofs.Ytehfdefpajjmaaa
open Go.RowKit Go.Vil
set_option linter.unusedSimpArgs false
set_option linter.unusedVariables false

theorem wrap_laid (z a b c d e : List UInt8) (k : Nat) (ha : a.length = 8) (hb : b.length = 8) (hc : c.length = 2) (hd : d.length = k) (hl : 18 + k + e.length ≤ z.length) :
    splice (splice (splice (splice (splice z 0 a) 8 b) 16 c) 18 d) (18 + k) e = splice z 0 (a ++ b ++ c ++ d ++ e) := by
  have e1 := splice_splice z 0 a b (by omega)
  rw [ha, Nat.zero_add] at e1
  have e2 := splice_splice z 0 (a ++ b) c (by simp; omega)
  have e3 := splice_splice z 0 (a ++ b ++ c) d (by simp; omega)
  have e4 := splice_splice z 0 (a ++ b ++ c ++ d) e (by simp; omega)
  simp only [List.length_append, ha, hb, hc, hd, Nat.zero_add, Nat.reduceAdd] at e2 e3 e4
  rw [e1, e2, e3, e4]

/-- All things behind some. -/
theorem Sel.self : ∀ (F : List Res), Sel F F
  | [] => .nil
  | _ :: F => .cons .head (Sel.self F)

set_option maxHeartbeats 1600000 in
set_option maxRecDepth 100000 in
theorem wrapEntryB (tm hs : Int) (key : ByteArray) (v : Value) (n : Nat) (l : List UInt8) (p m buf : Nat) (F : List Res) (w0 w : World) (h0 : 0 ≤ tm) (h1 : tm < 18446744073709551616) (h2 : 0 ≤ hs) (h3 : hs < 18446744073709551616)
    (hk : (key.size : Int) + 18 < 65536) (hn : ¬ (n : Int) > 2147483647) (hb : (buf : Int) ≤ 65536) (hl : Src w0 1 v n (u8s l)) (hv : ∃ a c, v = .slice a n c)
    (S : St w0 [] w (.blk p (.cells [.slice (some ⟨m, 0, none⟩) buf buf].toArray 28 (0, 0)) :: .blk m (.cells (u8s (List.replicate buf 0)).toArray 5 (0, 0)) :: F)) (hfit : ¬ ((n : Int) + 18 + (key.size : Int) > (buf : Int))) :
    Calls Try.prog 59 #[.int .u64 tm, .int .u64 hs, .string key, v, .pointer (some ⟨p, 0, none⟩)] w fun e w' => ∃ b cap, e = .returned (.slice (some ⟨b, 0, none⟩) (18 + key.size + n) cap) ∧ St w0 [] w' [.row 5 1 (.slice (some ⟨b, 0, none⟩) (18 + key.size + n) cap) (18 + key.size + n) (u8s (wrapB tm hs key l))] := by
  obtain ⟨va, vc, rfl⟩ := hv
  go_enter Try.func59, Try.ntmps59
  obtain ⟨z, hz, hzl⟩ : ∃ z : List UInt8, List.replicate buf 0 = z ∧ z.length = buf := ⟨_, rfl, by simp⟩
  rw [hz] at S
  go_wp2_with (first | ((with_reducible show Code.wp _ (Code.region _ _ true) _ _ _); refine St.regionLast S ?_; (repeat (first | (go_big_quiet_step (fail)) | (go_big_quiet_want; (first | refine quiet_ld S ?_ | refine quiet_ld8 S ?_ | refine quiet_ld0 ?_ | refine quiet_ldA S ?_ | refine quiet_b2sB S ?_ | refine quiet_b2sR S ?_ | refine quiet_ldc S ?_); go_big_quiet_on))); refine wpQuiet_nil ?_; clear S; intro wq S) | (refine wpList_ld S ?_) | (refine wpList_ld8 S ?_) | (refine wpList_ld0 ?_) | (refine wpList_ldA S ?_) | (refine wpList_st8 S ?_; (clear S; intro ws S)) | (refine wpList_st S ?_; (clear S; intro ws S)) | (refine wpList_box S ?_; (clear S; intro nb wb hnb S)) | (refine wpList_alloc S ?_; (clear S; intro nb wb hnb S)) | (refine wpList_mk8 S ?_; (clear S; intro nb wb hnb S)) | (refine wpList_mk S ?_; (clear S; intro nb wb hnb S)) | (refine wpList_bs S ?_; (clear S; intro nb wb hnb S)) | (refine wpList_stA S ?_; (clear S; intro ws S; simp only [splice, List.take_zero, List.take_succ_cons, List.drop_succ_cons, List.drop_zero, List.drop_nil, List.length_cons, List.length_nil, Nat.reduceAdd, Nat.zero_add, List.nil_append, List.cons_append, List.append_nil] at S)) | (refine wpList_b2sB S ?_) | (refine wpList_b2sR S ?_) | (refine wpList_ldc S ?_))
  refine Calls.mono (put64 m 0 _ _ (u8s z) tm _ _ S.sel1 h0 h1 (by omega) (by simp; omega)) ?_
  rintro e w2 ⟨rfl, C⟩
  rw [← u8s_splice] at C
  obtain ⟨l1, H1, hl1⟩ : ∃ x, Hid (splice z 0 (le 8 tm.toNat) = x) ∧ x.length = buf := ⟨_, rfl, by rw [splice_length _ _ _ (by simp; omega)]; exact hzl⟩
  rw [H1.out] at C
  have S2 := S.call C; clear S C; simp only [List.cons_append, List.nil_append] at S2; have S := S2; clear S2
  go_wp2_with (first | ((with_reducible show Code.wp _ (Code.region _ _ true) _ _ _); refine St.regionLast S ?_; (repeat (first | (go_big_quiet_step (fail)) | (go_big_quiet_want; (first | refine quiet_ld S ?_ | refine quiet_ld8 S ?_ | refine quiet_ld0 ?_ | refine quiet_ldA S ?_ | refine quiet_b2sB S ?_ | refine quiet_b2sR S ?_ | refine quiet_ldc S ?_); go_big_quiet_on))); refine wpQuiet_nil ?_; clear S; intro wq S) | (refine wpList_ld S ?_) | (refine wpList_ld8 S ?_) | (refine wpList_ld0 ?_) | (refine wpList_ldA S ?_) | (refine wpList_st8 S ?_; (clear S; intro ws S)) | (refine wpList_st S ?_; (clear S; intro ws S)) | (refine wpList_box S ?_; (clear S; intro nb wb hnb S)) | (refine wpList_alloc S ?_; (clear S; intro nb wb hnb S)) | (refine wpList_mk8 S ?_; (clear S; intro nb wb hnb S)) | (refine wpList_mk S ?_; (clear S; intro nb wb hnb S)) | (refine wpList_bs S ?_; (clear S; intro nb wb hnb S)) | (refine wpList_stA S ?_; (clear S; intro ws S; simp only [splice, List.take_zero, List.take_succ_cons, List.drop_succ_cons, List.drop_zero, List.drop_nil, List.length_cons, List.length_nil, Nat.reduceAdd, Nat.zero_add, List.nil_append, List.cons_append, List.append_nil] at S)) | (refine wpList_b2sB S ?_) | (refine wpList_b2sR S ?_) | (refine wpList_ldc S ?_))
  refine Calls.mono (put64 m 8 _ _ (u8s l1) hs _ _ S.sel1 h2 h3 (by omega) (by simp; omega)) ?_
  rintro e w2 ⟨rfl, C⟩
  rw [← u8s_splice] at C
  obtain ⟨l2, H2, hl2⟩ : ∃ x, Hid (splice l1 8 (le 8 hs.toNat) = x) ∧ x.length = buf := ⟨_, rfl, by rw [splice_length _ _ _ (by simp; omega)]; exact hl1⟩
  rw [H2.out] at C
  have S2 := S.call C; clear S C; simp only [List.cons_append, List.nil_append] at S2; have S := S2; clear S2
  go_wp2_with (first | ((with_reducible show Code.wp _ (Code.region _ _ true) _ _ _); refine St.regionLast S ?_; (repeat (first | (go_big_quiet_step (fail)) | (go_big_quiet_want; (first | refine quiet_ld S ?_ | refine quiet_ld8 S ?_ | refine quiet_ld0 ?_ | refine quiet_ldA S ?_ | refine quiet_b2sB S ?_ | refine quiet_b2sR S ?_ | refine quiet_ldc S ?_); go_big_quiet_on))); refine wpQuiet_nil ?_; clear S; intro wq S) | (refine wpList_ld S ?_) | (refine wpList_ld8 S ?_) | (refine wpList_ld0 ?_) | (refine wpList_ldA S ?_) | (refine wpList_st8 S ?_; (clear S; intro ws S)) | (refine wpList_st S ?_; (clear S; intro ws S)) | (refine wpList_box S ?_; (clear S; intro nb wb hnb S)) | (refine wpList_alloc S ?_; (clear S; intro nb wb hnb S)) | (refine wpList_mk8 S ?_; (clear S; intro nb wb hnb S)) | (refine wpList_mk S ?_; (clear S; intro nb wb hnb S)) | (refine wpList_bs S ?_; (clear S; intro nb wb hnb S)) | (refine wpList_stA S ?_; (clear S; intro ws S; simp only [splice, List.take_zero, List.take_succ_cons, List.drop_succ_cons, List.drop_zero, List.drop_nil, List.length_cons, List.length_nil, Nat.reduceAdd, Nat.zero_add, List.nil_append, List.cons_append, List.append_nil] at S)) | (refine wpList_b2sB S ?_) | (refine wpList_b2sR S ?_) | (refine wpList_ldc S ?_))
  refine Calls.mono (put16 m 16 _ _ l2 key.size _ _ S.sel1 (by omega) (by omega) (by omega) (by omega)) ?_
  rintro e w2 ⟨rfl, C⟩
  obtain ⟨l3, H3, hl3⟩ : ∃ x, Hid (splice l2 16 (le 2 (key.size : Int).toNat) = x) ∧ x.length = buf := ⟨_, rfl, by rw [splice_length _ _ _ (by simp; omega)]; exact hl2⟩
  rw [H3.out] at C
  have S2 := S.call C; clear S C; simp only [List.cons_append, List.nil_append] at S2; have S := S2; clear S2
  go_wp2_with (first | (refine wpList_slcL 18 ?_; intro j1 hj1) | (refine wpList_copy8 S (Src.string _ key) ?_; (clear S; intro ws S); rw [splice_end _ _ 18 j1 _ (by omega), take_min _ _ (by simp; omega)] at S; obtain ⟨l4, H4, hl4⟩ : ∃ x, Hid (splice l3 18 key.data.toList = x) ∧ x.length = buf := ⟨_, rfl, by rw [splice_length _ _ _ (by simp; omega)]; exact hl3⟩; rw [H4.out] at S) | (refine wpList_slcL (18 + key.size) ?_; intro j2 hj2) | (refine wpList_copy8 S (hl.on S.chg) ?_; (clear S; intro ws S); rw [splice_end _ _ (18 + key.size) j2 _ (by omega), take_min _ _ (by have := hl.len8; omega)] at S))
  have hll := hl.len8
  have hks : key.data.toList.length = key.size := by simp
  have e : splice l4 (18 + key.size) l = splice z 0 (wrapB tm hs key l) := by
    rw [← H4.out, ← H3.out, ← H2.out, ← H1.out, Int.toNat_natCast]
    exact wrap_laid z _ _ _ _ l _ (by simp) (by simp) (by simp) hks (by omega)
  rw [e] at S
  have hwl := wrapB_length tm hs key l
  have S2 := S.toRow (b := m) (n := 18 + key.size + n) (cap := buf) 1 (by repeat (first | exact Pull.head | apply Pull.tail)) (by rw [length_u8s, splice_length _ _ _ (by omega)]; omega) (by omega) (by unfold maxLen; omega)
  rw [Nat.mul_one, ← u8s_take, show (splice z 0 (wrapB tm hs key l)).take (18 + key.size + n) = wrapB tm hs key l by
    have := splice_at z 0 (wrapB tm hs key l) (by omega)
    rwa [hwl, hll, List.drop_zero] at this] at S2
  clear S
  go_ret
  have e2 : n + 18 + key.size = 18 + key.size + n := by omega
  rw [e2]
  exact ⟨_, _, rfl, S2.sel (.cons .head .nil)⟩
set_option maxHeartbeats 1600000 in
set_option maxRecDepth 100000 in
theorem wrapEntryA (tm hs : Int) (key : ByteArray) (v : Value) (n : Nat) (l : List UInt8) (p m buf : Nat) (F : List Res) (w0 w : World) (h0 : 0 ≤ tm) (h1 : tm < 18446744073709551616) (h2 : 0 ≤ hs) (h3 : hs < 18446744073709551616)
    (hk : (key.size : Int) + 18 < 65536) (hn : ¬ (n : Int) > 2147483647) (hb : (buf : Int) ≤ 65536) (hl : Src w0 1 v n (u8s l)) (hv : ∃ a c, v = .slice a n c)
    (S : St w0 [] w (.blk p (.cells [.slice (some ⟨m, 0, none⟩) buf buf].toArray 28 (0, 0)) :: .blk m (.cells (u8s (List.replicate buf 0)).toArray 5 (0, 0)) :: F)) (hfit : ((n : Int) + 18 + (key.size : Int) > (buf : Int))) :
    Calls Try.prog 59 #[.int .u64 tm, .int .u64 hs, .string key, v, .pointer (some ⟨p, 0, none⟩)] w fun e w' => ∃ b cap, e = .returned (.slice (some ⟨b, 0, none⟩) (18 + key.size + n) cap) ∧ St w0 [] w' [.row 5 1 (.slice (some ⟨b, 0, none⟩) (18 + key.size + n) cap) (18 + key.size + n) (u8s (wrapB tm hs key l))] := by
  obtain ⟨va, vc, rfl⟩ := hv
  go_enter Try.func59, Try.ntmps59
  go_wp2_with (first | (refine wpList_mk8 (ln := 18 + key.size + n) (cn := 18 + key.size + n) S ?_ (hln := by omega) (hcn := by omega); (clear S; intro nb wb hnb S)) | (refine wpList_ld S ?_) | (refine wpList_ld0 ?_) | (refine wpList_st S ?_; (clear S; intro ws S)))
  obtain ⟨z, hz, hzl⟩ : ∃ z : List UInt8, List.replicate (18 + key.size + n) 0 = z ∧ z.length = 18 + key.size + n := ⟨_, rfl, by simp⟩
  rw [hz] at S
  refine Calls.mono (put64 nb 0 _ _ (u8s z) tm _ _ S.sel1 h0 h1 (by omega) (by simp; omega)) ?_
  rintro e w2 ⟨rfl, C⟩
  rw [← u8s_splice] at C
  obtain ⟨l1, H1, hl1⟩ : ∃ x, Hid (splice z 0 (le 8 tm.toNat) = x) ∧ x.length = 18 + key.size + n := ⟨_, rfl, by rw [splice_length _ _ _ (by simp; omega)]; exact hzl⟩
  rw [H1.out] at C
  have S2 := S.call C; clear S C; simp only [List.cons_append, List.nil_append] at S2; have S := S2; clear S2
  go_wp2_with (first | ((with_reducible show Code.wp _ (Code.region _ _ true) _ _ _); refine St.regionLast S ?_; (repeat (first | (go_big_quiet_step (fail)) | (go_big_quiet_want; (first | refine quiet_ld S ?_ | refine quiet_ld8 S ?_ | refine quiet_ld0 ?_ | refine quiet_ldA S ?_ | refine quiet_b2sB S ?_ | refine quiet_b2sR S ?_ | refine quiet_ldc S ?_); go_big_quiet_on))); refine wpQuiet_nil ?_; clear S; intro wq S) | (refine wpList_ld S ?_) | (refine wpList_ld8 S ?_) | (refine wpList_ld0 ?_) | (refine wpList_ldA S ?_) | (refine wpList_st8 S ?_; (clear S; intro ws S)) | (refine wpList_st S ?_; (clear S; intro ws S)) | (refine wpList_box S ?_; (clear S; intro nb wb hnb S)) | (refine wpList_alloc S ?_; (clear S; intro nb wb hnb S)) | (refine wpList_mk8 S ?_; (clear S; intro nb wb hnb S)) | (refine wpList_mk S ?_; (clear S; intro nb wb hnb S)) | (refine wpList_bs S ?_; (clear S; intro nb wb hnb S)) | (refine wpList_stA S ?_; (clear S; intro ws S; simp only [splice, List.take_zero, List.take_succ_cons, List.drop_succ_cons, List.drop_zero, List.drop_nil, List.length_cons, List.length_nil, Nat.reduceAdd, Nat.zero_add, List.nil_append, List.cons_append, List.append_nil] at S)) | (refine wpList_b2sB S ?_) | (refine wpList_b2sR S ?_) | (refine wpList_ldc S ?_))
  refine Calls.mono (put64 nb 8 _ _ (u8s l1) hs _ _ S.sel1 h2 h3 (by omega) (by simp; omega)) ?_
  rintro e w2 ⟨rfl, C⟩
  rw [← u8s_splice] at C
  obtain ⟨l2, H2, hl2⟩ : ∃ x, Hid (splice l1 8 (le 8 hs.toNat) = x) ∧ x.length = 18 + key.size + n := ⟨_, rfl, by rw [splice_length _ _ _ (by simp; omega)]; exact hl1⟩
  rw [H2.out] at C
  have S2 := S.call C; clear S C; simp only [List.cons_append, List.nil_append] at S2; have S := S2; clear S2
  go_wp2_with (first | ((with_reducible show Code.wp _ (Code.region _ _ true) _ _ _); refine St.regionLast S ?_; (repeat (first | (go_big_quiet_step (fail)) | (go_big_quiet_want; (first | refine quiet_ld S ?_ | refine quiet_ld8 S ?_ | refine quiet_ld0 ?_ | refine quiet_ldA S ?_ | refine quiet_b2sB S ?_ | refine quiet_b2sR S ?_ | refine quiet_ldc S ?_); go_big_quiet_on))); refine wpQuiet_nil ?_; clear S; intro wq S) | (refine wpList_ld S ?_) | (refine wpList_ld8 S ?_) | (refine wpList_ld0 ?_) | (refine wpList_ldA S ?_) | (refine wpList_st8 S ?_; (clear S; intro ws S)) | (refine wpList_st S ?_; (clear S; intro ws S)) | (refine wpList_box S ?_; (clear S; intro nb wb hnb S)) | (refine wpList_alloc S ?_; (clear S; intro nb wb hnb S)) | (refine wpList_mk8 S ?_; (clear S; intro nb wb hnb S)) | (refine wpList_mk S ?_; (clear S; intro nb wb hnb S)) | (refine wpList_bs S ?_; (clear S; intro nb wb hnb S)) | (refine wpList_stA S ?_; (clear S; intro ws S; simp only [splice, List.take_zero, List.take_succ_cons, List.drop_succ_cons, List.drop_zero, List.drop_nil, List.length_cons, List.length_nil, Nat.reduceAdd, Nat.zero_add, List.nil_append, List.cons_append, List.append_nil] at S)) | (refine wpList_b2sB S ?_) | (refine wpList_b2sR S ?_) | (refine wpList_ldc S ?_))
  refine Calls.mono (put16 nb 16 _ _ l2 key.size _ _ S.sel1 (by omega) (by omega) (by omega) (by omega)) ?_
  rintro e w2 ⟨rfl, C⟩
  obtain ⟨l3, H3, hl3⟩ : ∃ x, Hid (splice l2 16 (le 2 (key.size : Int).toNat) = x) ∧ x.length = 18 + key.size + n := ⟨_, rfl, by rw [splice_length _ _ _ (by simp; omega)]; exact hl2⟩
  rw [H3.out] at C
  have S2 := S.call C; clear S C; simp only [List.cons_append, List.nil_append] at S2; have S := S2; clear S2
  go_wp2_with (first | (refine wpList_slcL 18 ?_; intro j1 hj1) | (refine wpList_copy8 S (Src.string _ key) ?_; (clear S; intro ws S); rw [splice_end _ _ 18 j1 _ (by omega), take_min _ _ (by simp; omega)] at S; obtain ⟨l4, H4, hl4⟩ : ∃ x, Hid (splice l3 18 key.data.toList = x) ∧ x.length = 18 + key.size + n := ⟨_, rfl, by rw [splice_length _ _ _ (by simp; omega)]; exact hl3⟩; rw [H4.out] at S) | (refine wpList_slcL (18 + key.size) ?_; intro j2 hj2) | (refine wpList_copy8 S (hl.on S.chg) ?_; (clear S; intro ws S); rw [splice_end _ _ (18 + key.size) j2 _ (by omega), take_min _ _ (by have := hl.len8; omega)] at S))
  have hll := hl.len8
  have hks : key.data.toList.length = key.size := by simp
  have e : splice l4 (18 + key.size) l = splice z 0 (wrapB tm hs key l) := by
    rw [← H4.out, ← H3.out, ← H2.out, ← H1.out, Int.toNat_natCast]
    exact wrap_laid z _ _ _ _ l _ (by simp) (by simp) (by simp) hks (by omega)
  rw [e] at S
  have hwl := wrapB_length tm hs key l
  have S2 := S.toRow (b := nb) (n := 18 + key.size + n) (cap := 18 + key.size + n) 1 (by repeat (first | exact Pull.head | apply Pull.tail)) (by rw [length_u8s, splice_length _ _ _ (by omega)]; omega) (by omega) (by unfold maxLen; omega)
  rw [Nat.mul_one, ← u8s_take, show (splice z 0 (wrapB tm hs key l)).take (18 + key.size + n) = wrapB tm hs key l by
    have := splice_at z 0 (wrapB tm hs key l) (by omega)
    rwa [hwl, hll, List.drop_zero] at this] at S2
  clear S
  go_ret
  have e2 : n + 18 + key.size = 18 + key.size + n := by omega
  rw [e2]
  exact ⟨_, _, rfl, S2.sel (.cons .head .nil)⟩

theorem wrapEntry (tm hs : Int) (key : ByteArray) (v : Value) (n : Nat) (l : List UInt8) (p m buf : Nat) (F : List Res) (w0 w : World) (h0 : 0 ≤ tm) (h1 : tm < 18446744073709551616) (h2 : 0 ≤ hs) (h3 : hs < 18446744073709551616)
    (hk : (key.size : Int) + 18 < 65536) (hn : ¬ (n : Int) > 2147483647) (hb : (buf : Int) ≤ 65536) (hl : Src w0 1 v n (u8s l)) (hv : ∃ a c, v = .slice a n c)
    (S : St w0 [] w (.blk p (.cells [.slice (some ⟨m, 0, none⟩) buf buf].toArray 28 (0, 0)) :: .blk m (.cells (u8s (List.replicate buf 0)).toArray 5 (0, 0)) :: F)) :
    Calls Try.prog 59 #[.int .u64 tm, .int .u64 hs, .string key, v, .pointer (some ⟨p, 0, none⟩)] w fun e w' => ∃ b cap, e = .returned (.slice (some ⟨b, 0, none⟩) (18 + key.size + n) cap) ∧ St w0 [] w' [.row 5 1 (.slice (some ⟨b, 0, none⟩) (18 + key.size + n) cap) (18 + key.size + n) (u8s (wrapB tm hs key l))] := by
  by_cases hfit : (n : Int) + 18 + (key.size : Int) > (buf : Int)
  · exact wrapEntryA tm hs key v n l p m buf F w0 w h0 h1 h2 h3 hk hn hb hl hv S hfit
  · exact wrapEntryB tm hs key v n l p m buf F w0 w h0 h1 h2 h3 hk hn hb hl hv S hfit

set_option maxHeartbeats 800000 in
theorem zzWrap (tm hs : Int) (key : ByteArray) (v : Value) (n : Nat) (l : List UInt8) (buf : Nat) (w : World) (h0 : 0 ≤ tm) (h1 : tm < 18446744073709551616) (h2 : 0 ≤ hs) (h3 : hs < 18446744073709551616)
    (hk : (key.size : Int) + 18 < 65536) (hn : ¬ (n : Int) > 2147483647) (hb : (buf : Int) ≤ 65536) (hl : Src w 1 v n (u8s l)) (hv : ∃ a c, v = .slice a n c) :
    Calls Try.prog 47 #[.int .u64 tm, .int .u64 hs, .string key, v, .int .i64 buf] w fun e w' => ∃ b cap, e = .returned (.slice (some ⟨b, 0, none⟩) (18 + key.size + n) cap) ∧ St w [] w' [.row 5 1 (.slice (some ⟨b, 0, none⟩) (18 + key.size + n) cap) (18 + key.size + n) (u8s (wrapB tm hs key l))] := by
  have S := St.begin w
  obtain ⟨va, vc, rfl⟩ := hv
  go_enter Try.func47, Try.ntmps47
  go_wp2_with (first | ((with_reducible show Code.wp _ (Code.region _ _ true) _ _ _); refine St.regionLast S ?_; (repeat (first | (go_big_quiet_step (fail)) | (go_big_quiet_want; (first | refine quiet_ld S ?_ | refine quiet_ld8 S ?_ | refine quiet_ld0 ?_ | refine quiet_ldA S ?_ | refine quiet_b2sB S ?_ | refine quiet_b2sR S ?_ | refine quiet_ldc S ?_); go_big_quiet_on))); refine wpQuiet_nil ?_; clear S; intro wq S) | (refine wpList_ld S ?_) | (refine wpList_ld8 S ?_) | (refine wpList_ld0 ?_) | (refine wpList_ldA S ?_) | (refine wpList_st8 S ?_; (clear S; intro ws S)) | (refine wpList_st S ?_; (clear S; intro ws S)) | (refine wpList_box S ?_; (clear S; intro nb wb hnb S)) | (refine wpList_alloc S ?_; (clear S; intro nb wb hnb S)) | (refine wpList_mk8 S ?_; (clear S; intro nb wb hnb S)) | (refine wpList_mk S ?_; (clear S; intro nb wb hnb S)) | (refine wpList_bs S ?_; (clear S; intro nb wb hnb S)) | (refine wpList_stA S ?_; (clear S; intro ws S; simp only [splice, List.take_zero, List.take_succ_cons, List.drop_succ_cons, List.drop_zero, List.drop_nil, List.length_cons, List.length_nil, Nat.reduceAdd, Nat.zero_add, List.nil_append, List.cons_append, List.append_nil] at S)) | (refine wpList_b2sB S ?_) | (refine wpList_b2sR S ?_) | (refine wpList_ldc S ?_))
  refine Calls.mono (wrapEntry tm hs key _ n l _ _ buf _ w _ h0 h1 h2 h3 hk (by omega) hb hl ⟨_, _, rfl⟩ S) ?_
  rintro e w2 ⟨b, cap, rfl, S2⟩
  clear S
  have S := S2
  clear S2
  go_wp2_with (first | ((with_reducible show Code.wp _ (Code.region _ _ true) _ _ _); refine St.regionLast S ?_; (repeat (first | (go_big_quiet_step (fail)) | (go_big_quiet_want; (first | refine quiet_ld S ?_ | refine quiet_ld8 S ?_ | refine quiet_ld0 ?_ | refine quiet_ldA S ?_ | refine quiet_b2sB S ?_ | refine quiet_b2sR S ?_ | refine quiet_ldc S ?_); go_big_quiet_on))); refine wpQuiet_nil ?_; clear S; intro wq S) | (refine wpList_ld S ?_) | (refine wpList_ld8 S ?_) | (refine wpList_ld0 ?_) | (refine wpList_ldA S ?_) | (refine wpList_st8 S ?_; (clear S; intro ws S)) | (refine wpList_st S ?_; (clear S; intro ws S)) | (refine wpList_box S ?_; (clear S; intro nb wb hnb S)) | (refine wpList_alloc S ?_; (clear S; intro nb wb hnb S)) | (refine wpList_mk8 S ?_; (clear S; intro nb wb hnb S)) | (refine wpList_mk S ?_; (clear S; intro nb wb hnb S)) | (refine wpList_bs S ?_; (clear S; intro nb wb hnb S)) | (refine wpList_stA S ?_; (clear S; intro ws S; simp only [splice, List.take_zero, List.take_succ_cons, List.drop_succ_cons, List.drop_zero, List.drop_nil, List.length_cons, List.length_nil, Nat.reduceAdd, Nat.zero_add, List.nil_append, List.cons_append, List.append_nil] at S)) | (refine wpList_b2sB S ?_) | (refine wpList_b2sR S ?_) | (refine wpList_ldc S ?_))
  go_ret
  exact ⟨_, _, rfl, S⟩

set_option maxHeartbeats 800000 in
theorem implWrap (tm hs : Int) (key : ByteArray) (v : Value) (n : Nat) (l : List UInt8) (buf : Nat) (w : World) (h0 : 0 ≤ tm) (h1 : tm < 18446744073709551616) (h2 : 0 ≤ hs) (h3 : hs < 18446744073709551616)
    (hk : (key.size : Int) + 18 < 65536) (hk' : ¬ (key.size : Int) > 65535) (hn : ¬ (n : Int) > 2147483647) (hb : ¬ (buf : Int) > 65536) (hb' : ¬ (buf : Int) < 0) (hl : Src w 1 v n (u8s l)) (hv : ∃ a c, v = .slice a n c) :
    Calls Try.prog 31 #[.int .u64 tm, .int .u64 hs, .string key, v, .int .i64 buf] w fun e w' => ∃ b cap, e = .returned (.slice (some ⟨b, 0, none⟩) (18 + key.size + n) cap) ∧ St w [] w' [.row 5 1 (.slice (some ⟨b, 0, none⟩) (18 + key.size + n) cap) (18 + key.size + n) (u8s (wrapB tm hs key l))] := by
  have S := St.begin w
  obtain ⟨va, vc, rfl⟩ := hv
  go_enter Try.func31, Try.ntmps31
  go_wp2_with (first | ((with_reducible show Code.wp _ (Code.region _ _ true) _ _ _); refine St.regionLast S ?_; (repeat (first | (go_big_quiet_step (fail)) | (go_big_quiet_want; (first | refine quiet_ld S ?_ | refine quiet_ld8 S ?_ | refine quiet_ld0 ?_ | refine quiet_ldA S ?_ | refine quiet_b2sB S ?_ | refine quiet_b2sR S ?_ | refine quiet_ldc S ?_); go_big_quiet_on))); refine wpQuiet_nil ?_; clear S; intro wq S) | (refine wpList_ld S ?_) | (refine wpList_ld8 S ?_) | (refine wpList_ld0 ?_) | (refine wpList_ldA S ?_) | (refine wpList_st8 S ?_; (clear S; intro ws S)) | (refine wpList_st S ?_; (clear S; intro ws S)) | (refine wpList_box S ?_; (clear S; intro nb wb hnb S)) | (refine wpList_alloc S ?_; (clear S; intro nb wb hnb S)) | (refine wpList_mk8 S ?_; (clear S; intro nb wb hnb S)) | (refine wpList_mk S ?_; (clear S; intro nb wb hnb S)) | (refine wpList_bs S ?_; (clear S; intro nb wb hnb S)) | (refine wpList_stA S ?_; (clear S; intro ws S; simp only [splice, List.take_zero, List.take_succ_cons, List.drop_succ_cons, List.drop_zero, List.drop_nil, List.length_cons, List.length_nil, Nat.reduceAdd, Nat.zero_add, List.nil_append, List.cons_append, List.append_nil] at S)) | (refine wpList_b2sB S ?_) | (refine wpList_b2sR S ?_) | (refine wpList_ldc S ?_))
  refine Calls.mono (zzWrap tm hs key _ n l buf _ h0 h1 h2 h3 hk (by omega) (by omega) (hl.on S.chg) ⟨_, _, rfl⟩) ?_
  rintro e w2 ⟨b, cap, rfl, C⟩
  have S2 := S.call C; clear S C; simp only [List.cons_append, List.nil_append] at S2; have S := S2; clear S2
  go_wp2_with (first | ((with_reducible show Code.wp _ (Code.region _ _ true) _ _ _); refine St.regionLast S ?_; (repeat (first | (go_big_quiet_step (fail)) | (go_big_quiet_want; (first | refine quiet_ld S ?_ | refine quiet_ld8 S ?_ | refine quiet_ld0 ?_ | refine quiet_ldA S ?_ | refine quiet_b2sB S ?_ | refine quiet_b2sR S ?_ | refine quiet_ldc S ?_); go_big_quiet_on))); refine wpQuiet_nil ?_; clear S; intro wq S) | (refine wpList_ld S ?_) | (refine wpList_ld8 S ?_) | (refine wpList_ld0 ?_) | (refine wpList_ldA S ?_) | (refine wpList_st8 S ?_; (clear S; intro ws S)) | (refine wpList_st S ?_; (clear S; intro ws S)) | (refine wpList_box S ?_; (clear S; intro nb wb hnb S)) | (refine wpList_alloc S ?_; (clear S; intro nb wb hnb S)) | (refine wpList_mk8 S ?_; (clear S; intro nb wb hnb S)) | (refine wpList_mk S ?_; (clear S; intro nb wb hnb S)) | (refine wpList_bs S ?_; (clear S; intro nb wb hnb S)) | (refine wpList_stA S ?_; (clear S; intro ws S; simp only [splice, List.take_zero, List.take_succ_cons, List.drop_succ_cons, List.drop_zero, List.drop_nil, List.length_cons, List.length_nil, Nat.reduceAdd, Nat.zero_add, List.nil_append, List.cons_append, List.append_nil] at S)) | (refine wpList_b2sB S ?_) | (refine wpList_b2sR S ?_) | (refine wpList_ldc S ?_))
  go_ret
  exact ⟨_, _, rfl, S⟩

set_option maxHeartbeats 1600000 in
set_option maxRecDepth 100000 in
theorem lawWrap1 (tm hs : Int) (key : ByteArray) (v : Value) (n : Nat) (l : List UInt8) (buf : Nat) (w : World) (h0 : 0 ≤ tm) (h1 : tm < 18446744073709551616) (h2 : 0 ≤ hs) (h3 : hs < 18446744073709551616)
    (hk : (key.size : Int) + 18 < 65536) (hk' : ¬ (key.size : Int) > 2147483647) (hn : ¬ (n : Int) > 2147483647) (hb : ¬ (buf : Int) > 65536) (hb' : ¬ (buf : Int) < 0) (hl : Src w 1 v n (u8s l)) (hv : ∃ a c, v = .slice a n c) :
    Calls Try.prog 13 #[.int .u64 tm, .int .u64 hs, .string key, v, .int .i64 buf] w fun e w' => e = .returned (.bool true) ∧ Below w.heap.size w w' := by
  have S := St.begin w
  obtain ⟨a, c, rfl⟩ := hv
  have q1 := hidden hb
  have q2 := hidden hb'
  clear hb hb'
  go_enter Try.func13, Try.ntmps13
  go_wp2_with (first | ((with_reducible show Code.wp _ (Code.region _ _ true) _ _ _); refine St.regionLast S ?_; (repeat (first | (go_big_quiet_step (fail)) | (go_big_quiet_want; (first | refine quiet_ld S ?_ | refine quiet_ld8 S ?_ | refine quiet_ld0 ?_ | refine quiet_ldA S ?_ | refine quiet_b2sB S ?_ | refine quiet_b2sR S ?_ | refine quiet_ldc S ?_); go_big_quiet_on))); refine wpQuiet_nil ?_; clear S; intro wq S) | (refine wpList_ld S ?_) | (refine wpList_ld8 S ?_) | (refine wpList_ld0 ?_) | (refine wpList_ldA S ?_) | (refine wpList_st8 S ?_; (clear S; intro ws S)) | (refine wpList_st S ?_; (clear S; intro ws S)) | (refine wpList_box S ?_; (clear S; intro nb wb hnb S)) | (refine wpList_alloc S ?_; (clear S; intro nb wb hnb S)) | (refine wpList_mk8 S ?_; (clear S; intro nb wb hnb S)) | (refine wpList_mk S ?_; (clear S; intro nb wb hnb S)) | (refine wpList_bs S ?_; (clear S; intro nb wb hnb S)) | (refine wpList_stA S ?_; (clear S; intro ws S; simp only [splice, List.take_zero, List.take_succ_cons, List.drop_succ_cons, List.drop_zero, List.drop_nil, List.length_cons, List.length_nil, Nat.reduceAdd, Nat.zero_add, List.nil_append, List.cons_append, List.append_nil] at S)) | (refine wpList_b2sB S ?_) | (refine wpList_b2sR S ?_) | (refine wpList_ldc S ?_))
  refine Calls.mono (keyed key _ (by omega)) ?_
  rintro e w2 ⟨rfl, C⟩
  have S2 := S.call C; clear S C; simp only [List.cons_append, List.nil_append] at S2; have S := S2; clear S2
  rw [decide_eq_true (by omega : (key.size : Int) + 18 < 65536)]
  have hb := q1.out
  have hb' := q2.out
  have q3 := hidden (And.intro hk (And.intro hk' (And.intro hn (And.intro h0 (And.intro h1 (And.intro h2 h3))))))
  clear hk hk' hn h0 h1 h2 h3
  go_wp2_with (first | ((with_reducible show Code.wp _ (Code.region _ _ true) _ _ _); refine St.regionLast S ?_; (repeat (first | (go_big_quiet_step (fail)) | (go_big_quiet_want; (first | refine quiet_ld S ?_ | refine quiet_ld8 S ?_ | refine quiet_ld0 ?_ | refine quiet_ldA S ?_ | refine quiet_b2sB S ?_ | refine quiet_b2sR S ?_ | refine quiet_ldc S ?_); go_big_quiet_on))); refine wpQuiet_nil ?_; clear S; intro wq S) | (refine wpList_ld S ?_) | (refine wpList_ld8 S ?_) | (refine wpList_ld0 ?_) | (refine wpList_ldA S ?_) | (refine wpList_st8 S ?_; (clear S; intro ws S)) | (refine wpList_st S ?_; (clear S; intro ws S)) | (refine wpList_box S ?_; (clear S; intro nb wb hnb S)) | (refine wpList_alloc S ?_; (clear S; intro nb wb hnb S)) | (refine wpList_mk8 S ?_; (clear S; intro nb wb hnb S)) | (refine wpList_mk S ?_; (clear S; intro nb wb hnb S)) | (refine wpList_bs S ?_; (clear S; intro nb wb hnb S)) | (refine wpList_stA S ?_; (clear S; intro ws S; simp only [splice, List.take_zero, List.take_succ_cons, List.drop_succ_cons, List.drop_zero, List.drop_nil, List.length_cons, List.length_nil, Nat.reduceAdd, Nat.zero_add, List.nil_append, List.cons_append, List.append_nil] at S)) | (refine wpList_b2sB S ?_) | (refine wpList_b2sR S ?_) | (refine wpList_ldc S ?_))
  obtain ⟨hk, hk', hn, h0, h1, h2, h3⟩ := q3.out
  refine Calls.mono (implWrap tm hs key _ n l buf _ h0 h1 h2 h3 (by omega) (by omega) (by omega) (by omega) (by omega) (hl.on S.chg) ⟨_, _, rfl⟩) ?_
  rintro e w2 ⟨b1, c1, rfl, C⟩
  have S2 := S.call C; clear S C; simp only [List.cons_append, List.nil_append] at S2; have S := S2; clear S2
  go_wp2_with (first | ((with_reducible show Code.wp _ (Code.region _ _ true) _ _ _); refine St.regionLast S ?_; (repeat (first | (go_big_quiet_step (fail)) | (go_big_quiet_want; (first | refine quiet_ld S ?_ | refine quiet_ld8 S ?_ | refine quiet_ld0 ?_ | refine quiet_ldA S ?_ | refine quiet_b2sB S ?_ | refine quiet_b2sR S ?_ | refine quiet_ldc S ?_); go_big_quiet_on))); refine wpQuiet_nil ?_; clear S; intro wq S) | (refine wpList_ld S ?_) | (refine wpList_ld8 S ?_) | (refine wpList_ld0 ?_) | (refine wpList_ldA S ?_) | (refine wpList_st8 S ?_; (clear S; intro ws S)) | (refine wpList_st S ?_; (clear S; intro ws S)) | (refine wpList_box S ?_; (clear S; intro nb wb hnb S)) | (refine wpList_alloc S ?_; (clear S; intro nb wb hnb S)) | (refine wpList_mk8 S ?_; (clear S; intro nb wb hnb S)) | (refine wpList_mk S ?_; (clear S; intro nb wb hnb S)) | (refine wpList_bs S ?_; (clear S; intro nb wb hnb S)) | (refine wpList_stA S ?_; (clear S; intro ws S; simp only [splice, List.take_zero, List.take_succ_cons, List.drop_succ_cons, List.drop_zero, List.drop_nil, List.length_cons, List.length_nil, Nat.reduceAdd, Nat.zero_add, List.nil_append, List.cons_append, List.append_nil] at S)) | (refine wpList_b2sB S ?_) | (refine wpList_b2sR S ?_) | (refine wpList_ldc S ?_))
  refine Calls.mono (wrapped tm hs key _ n l _ h0 h1 h2 h3 (by omega) (by omega) (hl.on S.chg)) ?_
  rintro e w2 ⟨s3, rfl, C⟩
  have S2 := S.call C; clear S C; simp only [List.cons_append, List.nil_append] at S2; have S := S2; clear S2
  obtain ⟨a3, c3, rfl, hc3, hc4⟩ := S.rowSlice (hp := Pull.head)
  go_wp2_with (first | ((with_reducible show Code.wp _ (Code.region _ _ true) _ _ _); refine St.regionLast S ?_; (repeat (first | (go_big_quiet_step (fail)) | (go_big_quiet_want; (first | refine quiet_ld S ?_ | refine quiet_ld8 S ?_ | refine quiet_ld0 ?_ | refine quiet_ldA S ?_ | refine quiet_b2sB S ?_ | refine quiet_b2sR S ?_ | refine quiet_ldc S ?_); go_big_quiet_on))); refine wpQuiet_nil ?_; clear S; intro wq S) | (refine wpList_ld S ?_) | (refine wpList_ld8 S ?_) | (refine wpList_ld0 ?_) | (refine wpList_ldA S ?_) | (refine wpList_st8 S ?_; (clear S; intro ws S)) | (refine wpList_st S ?_; (clear S; intro ws S)) | (refine wpList_box S ?_; (clear S; intro nb wb hnb S)) | (refine wpList_alloc S ?_; (clear S; intro nb wb hnb S)) | (refine wpList_mk8 S ?_; (clear S; intro nb wb hnb S)) | (refine wpList_mk S ?_; (clear S; intro nb wb hnb S)) | (refine wpList_bs S ?_; (clear S; intro nb wb hnb S)) | (refine wpList_stA S ?_; (clear S; intro ws S; simp only [splice, List.take_zero, List.take_succ_cons, List.drop_succ_cons, List.drop_zero, List.drop_nil, List.length_cons, List.length_nil, Nat.reduceAdd, Nat.zero_add, List.nil_append, List.cons_append, List.append_nil] at S)) | (refine wpList_b2sB S ?_) | (refine wpList_b2sR S ?_) | (refine wpList_ldc S ?_))
  refine Calls.mono (sameBytes _ _ _ _ _ _ _ (S.rowSrc (hp := .tail .head)) (S.rowSrc (hp := .head)) ⟨_, _, rfl, hc4, (S.rowLe (hp := .tail .head))⟩ ⟨_, _, rfl, hc4, hc3⟩) ?_
  rintro e w2 ⟨rfl, C⟩
  have S2 := S.call C; clear S C; simp only [List.cons_append, List.nil_append] at S2; have S := S2; clear S2
  simp only [decide_true]
  go_wp2_with (first | ((with_reducible show Code.wp _ (Code.region _ _ true) _ _ _); refine St.regionLast S ?_; (repeat (first | (go_big_quiet_step (fail)) | (go_big_quiet_want; (first | refine quiet_ld S ?_ | refine quiet_ld8 S ?_ | refine quiet_ld0 ?_ | refine quiet_ldA S ?_ | refine quiet_b2sB S ?_ | refine quiet_b2sR S ?_ | refine quiet_ldc S ?_); go_big_quiet_on))); refine wpQuiet_nil ?_; clear S; intro wq S) | (refine wpList_ld S ?_) | (refine wpList_ld8 S ?_) | (refine wpList_ld0 ?_) | (refine wpList_ldA S ?_) | (refine wpList_st8 S ?_; (clear S; intro ws S)) | (refine wpList_st S ?_; (clear S; intro ws S)) | (refine wpList_box S ?_; (clear S; intro nb wb hnb S)) | (refine wpList_alloc S ?_; (clear S; intro nb wb hnb S)) | (refine wpList_mk8 S ?_; (clear S; intro nb wb hnb S)) | (refine wpList_mk S ?_; (clear S; intro nb wb hnb S)) | (refine wpList_bs S ?_; (clear S; intro nb wb hnb S)) | (refine wpList_stA S ?_; (clear S; intro ws S; simp only [splice, List.take_zero, List.take_succ_cons, List.drop_succ_cons, List.drop_zero, List.drop_nil, List.length_cons, List.length_nil, Nat.reduceAdd, Nat.zero_add, List.nil_append, List.cons_append, List.append_nil] at S)) | (refine wpList_b2sB S ?_) | (refine wpList_b2sR S ?_) | (refine wpList_ldc S ?_))
  go_ret
  exact ⟨rfl, S.chg.below⟩

set_option maxHeartbeats 1600000 in
set_option maxRecDepth 100000 in
theorem lawWrap (tm hs : Int) (key : ByteArray) (v : Value) (n : Nat) (l : List UInt8) (bf : Int) (w : World) (h0 : (Lit.int .u64 tm).wf = true) (h1 : (Lit.int .u64 hs).wf = true) (k0 : key.size ≤ maxLen)
    (hl : Src w 1 v n (u8s l)) (ll : l.length = n) (hv : ∃ a c, v = .slice a n c ∧ n ≤ maxLen ∧ n ≤ c) (hbf : (Lit.int .i64 bf).wf = true) :
    Calls Try.prog 13 #[.int .u64 tm, .int .u64 hs, .string key, v, .int .i64 bf] w fun e w' => e = .returned (.bool true) ∧ Below w.heap.size w w' := by
  obtain ⟨h0, h0'⟩ := wf64 h0
  obtain ⟨h1, h1'⟩ := wf64 h1
  obtain ⟨a, c, rfl, hn, hc⟩ := hv
  clear k0 ll hbf
  have S := St.begin w
  by_cases g1 : (key.size : Int) > 2147483647
  · clear hl
    go_enter Try.func13, Try.ntmps13
    go_wp2_with (first | ((with_reducible show Code.wp _ (Code.region _ _ true) _ _ _); refine St.regionLast S ?_; (repeat (first | (go_big_quiet_step (fail)) | (go_big_quiet_want; (first | refine quiet_ld S ?_ | refine quiet_ld8 S ?_ | refine quiet_ld0 ?_ | refine quiet_ldA S ?_ | refine quiet_b2sB S ?_ | refine quiet_b2sR S ?_ | refine quiet_ldc S ?_); go_big_quiet_on))); refine wpQuiet_nil ?_; clear S; intro wq S) | (refine wpList_ld S ?_) | (refine wpList_ld8 S ?_) | (refine wpList_ld0 ?_) | (refine wpList_ldA S ?_) | (refine wpList_st8 S ?_; (clear S; intro ws S)) | (refine wpList_st S ?_; (clear S; intro ws S)) | (refine wpList_box S ?_; (clear S; intro nb wb hnb S)) | (refine wpList_alloc S ?_; (clear S; intro nb wb hnb S)) | (refine wpList_mk8 S ?_; (clear S; intro nb wb hnb S)) | (refine wpList_mk S ?_; (clear S; intro nb wb hnb S)) | (refine wpList_bs S ?_; (clear S; intro nb wb hnb S)) | (refine wpList_stA S ?_; (clear S; intro ws S; simp only [splice, List.take_zero, List.take_succ_cons, List.drop_succ_cons, List.drop_zero, List.drop_nil, List.length_cons, List.length_nil, Nat.reduceAdd, Nat.zero_add, List.nil_append, List.cons_append, List.append_nil] at S)) | (refine wpList_b2sB S ?_) | (refine wpList_b2sR S ?_) | (refine wpList_ldc S ?_))
    go_ret
    exact ⟨rfl, S.chg.below⟩
  by_cases g2 : (n : Int) > 2147483647
  · clear hl
    go_enter Try.func13, Try.ntmps13
    go_wp2_with (first | ((with_reducible show Code.wp _ (Code.region _ _ true) _ _ _); refine St.regionLast S ?_; (repeat (first | (go_big_quiet_step (fail)) | (go_big_quiet_want; (first | refine quiet_ld S ?_ | refine quiet_ld8 S ?_ | refine quiet_ld0 ?_ | refine quiet_ldA S ?_ | refine quiet_b2sB S ?_ | refine quiet_b2sR S ?_ | refine quiet_ldc S ?_); go_big_quiet_on))); refine wpQuiet_nil ?_; clear S; intro wq S) | (refine wpList_ld S ?_) | (refine wpList_ld8 S ?_) | (refine wpList_ld0 ?_) | (refine wpList_ldA S ?_) | (refine wpList_st8 S ?_; (clear S; intro ws S)) | (refine wpList_st S ?_; (clear S; intro ws S)) | (refine wpList_box S ?_; (clear S; intro nb wb hnb S)) | (refine wpList_alloc S ?_; (clear S; intro nb wb hnb S)) | (refine wpList_mk8 S ?_; (clear S; intro nb wb hnb S)) | (refine wpList_mk S ?_; (clear S; intro nb wb hnb S)) | (refine wpList_bs S ?_; (clear S; intro nb wb hnb S)) | (refine wpList_stA S ?_; (clear S; intro ws S; simp only [splice, List.take_zero, List.take_succ_cons, List.drop_succ_cons, List.drop_zero, List.drop_nil, List.length_cons, List.length_nil, Nat.reduceAdd, Nat.zero_add, List.nil_append, List.cons_append, List.append_nil] at S)) | (refine wpList_b2sB S ?_) | (refine wpList_b2sR S ?_) | (refine wpList_ldc S ?_))
    go_ret
    exact ⟨rfl, S.chg.below⟩
  by_cases g4 : (key.size : Int) + 18 < 65536
  · by_cases g5 : bf < 0
    · clear hl
      go_enter Try.func13, Try.ntmps13
      go_wp2_with (first | ((with_reducible show Code.wp _ (Code.region _ _ true) _ _ _); refine St.regionLast S ?_; (repeat (first | (go_big_quiet_step (fail)) | (go_big_quiet_want; (first | refine quiet_ld S ?_ | refine quiet_ld8 S ?_ | refine quiet_ld0 ?_ | refine quiet_ldA S ?_ | refine quiet_b2sB S ?_ | refine quiet_b2sR S ?_ | refine quiet_ldc S ?_); go_big_quiet_on))); refine wpQuiet_nil ?_; clear S; intro wq S) | (refine wpList_ld S ?_) | (refine wpList_ld8 S ?_) | (refine wpList_ld0 ?_) | (refine wpList_ldA S ?_) | (refine wpList_st8 S ?_; (clear S; intro ws S)) | (refine wpList_st S ?_; (clear S; intro ws S)) | (refine wpList_box S ?_; (clear S; intro nb wb hnb S)) | (refine wpList_alloc S ?_; (clear S; intro nb wb hnb S)) | (refine wpList_mk8 S ?_; (clear S; intro nb wb hnb S)) | (refine wpList_mk S ?_; (clear S; intro nb wb hnb S)) | (refine wpList_bs S ?_; (clear S; intro nb wb hnb S)) | (refine wpList_stA S ?_; (clear S; intro ws S; simp only [splice, List.take_zero, List.take_succ_cons, List.drop_succ_cons, List.drop_zero, List.drop_nil, List.length_cons, List.length_nil, Nat.reduceAdd, Nat.zero_add, List.nil_append, List.cons_append, List.append_nil] at S)) | (refine wpList_b2sB S ?_) | (refine wpList_b2sR S ?_) | (refine wpList_ldc S ?_))
      refine Calls.mono (keyed key _ (by omega)) ?_
      rintro e w2 ⟨rfl, C⟩
      have S2 := S.call C; clear S C; simp only [List.cons_append, List.nil_append] at S2; have S := S2; clear S2
      rw [decide_eq_true (by omega : (key.size : Int) + 18 < 65536)]
      go_wp2_with (first | ((with_reducible show Code.wp _ (Code.region _ _ true) _ _ _); refine St.regionLast S ?_; (repeat (first | (go_big_quiet_step (fail)) | (go_big_quiet_want; (first | refine quiet_ld S ?_ | refine quiet_ld8 S ?_ | refine quiet_ld0 ?_ | refine quiet_ldA S ?_ | refine quiet_b2sB S ?_ | refine quiet_b2sR S ?_ | refine quiet_ldc S ?_); go_big_quiet_on))); refine wpQuiet_nil ?_; clear S; intro wq S) | (refine wpList_ld S ?_) | (refine wpList_ld8 S ?_) | (refine wpList_ld0 ?_) | (refine wpList_ldA S ?_) | (refine wpList_st8 S ?_; (clear S; intro ws S)) | (refine wpList_st S ?_; (clear S; intro ws S)) | (refine wpList_box S ?_; (clear S; intro nb wb hnb S)) | (refine wpList_alloc S ?_; (clear S; intro nb wb hnb S)) | (refine wpList_mk8 S ?_; (clear S; intro nb wb hnb S)) | (refine wpList_mk S ?_; (clear S; intro nb wb hnb S)) | (refine wpList_bs S ?_; (clear S; intro nb wb hnb S)) | (refine wpList_stA S ?_; (clear S; intro ws S; simp only [splice, List.take_zero, List.take_succ_cons, List.drop_succ_cons, List.drop_zero, List.drop_nil, List.length_cons, List.length_nil, Nat.reduceAdd, Nat.zero_add, List.nil_append, List.cons_append, List.append_nil] at S)) | (refine wpList_b2sB S ?_) | (refine wpList_b2sR S ?_) | (refine wpList_ldc S ?_))
      go_ret
      exact ⟨rfl, S.chg.below⟩
    · by_cases g6 : bf > 65536
      · clear hl
        go_enter Try.func13, Try.ntmps13
        go_wp2_with (first | ((with_reducible show Code.wp _ (Code.region _ _ true) _ _ _); refine St.regionLast S ?_; (repeat (first | (go_big_quiet_step (fail)) | (go_big_quiet_want; (first | refine quiet_ld S ?_ | refine quiet_ld8 S ?_ | refine quiet_ld0 ?_ | refine quiet_ldA S ?_ | refine quiet_b2sB S ?_ | refine quiet_b2sR S ?_ | refine quiet_ldc S ?_); go_big_quiet_on))); refine wpQuiet_nil ?_; clear S; intro wq S) | (refine wpList_ld S ?_) | (refine wpList_ld8 S ?_) | (refine wpList_ld0 ?_) | (refine wpList_ldA S ?_) | (refine wpList_st8 S ?_; (clear S; intro ws S)) | (refine wpList_st S ?_; (clear S; intro ws S)) | (refine wpList_box S ?_; (clear S; intro nb wb hnb S)) | (refine wpList_alloc S ?_; (clear S; intro nb wb hnb S)) | (refine wpList_mk8 S ?_; (clear S; intro nb wb hnb S)) | (refine wpList_mk S ?_; (clear S; intro nb wb hnb S)) | (refine wpList_bs S ?_; (clear S; intro nb wb hnb S)) | (refine wpList_stA S ?_; (clear S; intro ws S; simp only [splice, List.take_zero, List.take_succ_cons, List.drop_succ_cons, List.drop_zero, List.drop_nil, List.length_cons, List.length_nil, Nat.reduceAdd, Nat.zero_add, List.nil_append, List.cons_append, List.append_nil] at S)) | (refine wpList_b2sB S ?_) | (refine wpList_b2sR S ?_) | (refine wpList_ldc S ?_))
        refine Calls.mono (keyed key _ (by omega)) ?_
        rintro e w2 ⟨rfl, C⟩
        have S2 := S.call C; clear S C; simp only [List.cons_append, List.nil_append] at S2; have S := S2; clear S2
        rw [decide_eq_true (by omega : (key.size : Int) + 18 < 65536)]
        go_wp2_with (first | ((with_reducible show Code.wp _ (Code.region _ _ true) _ _ _); refine St.regionLast S ?_; (repeat (first | (go_big_quiet_step (fail)) | (go_big_quiet_want; (first | refine quiet_ld S ?_ | refine quiet_ld8 S ?_ | refine quiet_ld0 ?_ | refine quiet_ldA S ?_ | refine quiet_b2sB S ?_ | refine quiet_b2sR S ?_ | refine quiet_ldc S ?_); go_big_quiet_on))); refine wpQuiet_nil ?_; clear S; intro wq S) | (refine wpList_ld S ?_) | (refine wpList_ld8 S ?_) | (refine wpList_ld0 ?_) | (refine wpList_ldA S ?_) | (refine wpList_st8 S ?_; (clear S; intro ws S)) | (refine wpList_st S ?_; (clear S; intro ws S)) | (refine wpList_box S ?_; (clear S; intro nb wb hnb S)) | (refine wpList_alloc S ?_; (clear S; intro nb wb hnb S)) | (refine wpList_mk8 S ?_; (clear S; intro nb wb hnb S)) | (refine wpList_mk S ?_; (clear S; intro nb wb hnb S)) | (refine wpList_bs S ?_; (clear S; intro nb wb hnb S)) | (refine wpList_stA S ?_; (clear S; intro ws S; simp only [splice, List.take_zero, List.take_succ_cons, List.drop_succ_cons, List.drop_zero, List.drop_nil, List.length_cons, List.length_nil, Nat.reduceAdd, Nat.zero_add, List.nil_append, List.cons_append, List.append_nil] at S)) | (refine wpList_b2sB S ?_) | (refine wpList_b2sR S ?_) | (refine wpList_ldc S ?_))
        go_ret
        exact ⟨rfl, S.chg.below⟩
      · obtain ⟨buf, rfl⟩ : ∃ buf : Nat, bf = buf := ⟨bf.toNat, by omega⟩
        exact lawWrap1 tm hs key _ n l buf w h0 h0' h1 h1' g4 g1 g2 g6 g5 hl ⟨a, c, rfl⟩
  · clear hl
    go_enter Try.func13, Try.ntmps13
    go_wp2_with (first | ((with_reducible show Code.wp _ (Code.region _ _ true) _ _ _); refine St.regionLast S ?_; (repeat (first | (go_big_quiet_step (fail)) | (go_big_quiet_want; (first | refine quiet_ld S ?_ | refine quiet_ld8 S ?_ | refine quiet_ld0 ?_ | refine quiet_ldA S ?_ | refine quiet_b2sB S ?_ | refine quiet_b2sR S ?_ | refine quiet_ldc S ?_); go_big_quiet_on))); refine wpQuiet_nil ?_; clear S; intro wq S) | (refine wpList_ld S ?_) | (refine wpList_ld8 S ?_) | (refine wpList_ld0 ?_) | (refine wpList_ldA S ?_) | (refine wpList_st8 S ?_; (clear S; intro ws S)) | (refine wpList_st S ?_; (clear S; intro ws S)) | (refine wpList_box S ?_; (clear S; intro nb wb hnb S)) | (refine wpList_alloc S ?_; (clear S; intro nb wb hnb S)) | (refine wpList_mk8 S ?_; (clear S; intro nb wb hnb S)) | (refine wpList_mk S ?_; (clear S; intro nb wb hnb S)) | (refine wpList_bs S ?_; (clear S; intro nb wb hnb S)) | (refine wpList_stA S ?_; (clear S; intro ws S; simp only [splice, List.take_zero, List.take_succ_cons, List.drop_succ_cons, List.drop_zero, List.drop_nil, List.length_cons, List.length_nil, Nat.reduceAdd, Nat.zero_add, List.nil_append, List.cons_append, List.append_nil] at S)) | (refine wpList_b2sB S ?_) | (refine wpList_b2sR S ?_) | (refine wpList_ldc S ?_))
    refine Calls.mono (keyed key _ (by omega)) ?_
    rintro e w2 ⟨rfl, C⟩
    have S2 := S.call C; clear S C; simp only [List.cons_append, List.nil_append] at S2; have S := S2; clear S2
    rw [decide_eq_false (by omega : ¬ ((key.size : Int) + 18 < 65536))]
    go_wp2_with (first | ((with_reducible show Code.wp _ (Code.region _ _ true) _ _ _); refine St.regionLast S ?_; (repeat (first | (go_big_quiet_step (fail)) | (go_big_quiet_want; (first | refine quiet_ld S ?_ | refine quiet_ld8 S ?_ | refine quiet_ld0 ?_ | refine quiet_ldA S ?_ | refine quiet_b2sB S ?_ | refine quiet_b2sR S ?_ | refine quiet_ldc S ?_); go_big_quiet_on))); refine wpQuiet_nil ?_; clear S; intro wq S) | (refine wpList_ld S ?_) | (refine wpList_ld8 S ?_) | (refine wpList_ld0 ?_) | (refine wpList_ldA S ?_) | (refine wpList_st8 S ?_; (clear S; intro ws S)) | (refine wpList_st S ?_; (clear S; intro ws S)) | (refine wpList_box S ?_; (clear S; intro nb wb hnb S)) | (refine wpList_alloc S ?_; (clear S; intro nb wb hnb S)) | (refine wpList_mk8 S ?_; (clear S; intro nb wb hnb S)) | (refine wpList_mk S ?_; (clear S; intro nb wb hnb S)) | (refine wpList_bs S ?_; (clear S; intro nb wb hnb S)) | (refine wpList_stA S ?_; (clear S; intro ws S; simp only [splice, List.take_zero, List.take_succ_cons, List.drop_succ_cons, List.drop_zero, List.drop_nil, List.length_cons, List.length_nil, Nat.reduceAdd, Nat.zero_add, List.nil_append, List.cons_append, List.append_nil] at S)) | (refine wpList_b2sB S ?_) | (refine wpList_b2sR S ?_) | (refine wpList_ldc S ?_))
    go_ret
    exact ⟨rfl, S.chg.below⟩

end Go.Proofs.Ytehfdefpajjmaaa
