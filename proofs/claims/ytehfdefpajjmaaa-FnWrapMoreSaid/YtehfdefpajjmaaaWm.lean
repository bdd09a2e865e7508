/- A wrapped entry with more bytes has these at its end, and another time: for keys of less than 65518 bytes, and buffers of 0 to 65536 bytes. -/
import Derived.Test.YtehfdefpajjmaaaWe
namespace Go.Proofs.Ytehfdefpajjmaaa
open Go.RowKit Go.Vil
set_option linter.unusedSimpArgs false
set_option linter.unusedVariables false

theorem more_laid (z a b e : List UInt8) (n : Nat) (ha : a.length = 8) (hb : 8 + b.length = n) (hl : n + e.length ≤ z.length) :
    splice (splice (splice z 0 a) 8 b) n e = splice z 0 (a ++ b ++ e) := by
  have e1 := splice_splice z 0 a b (by omega)
  rw [ha, Nat.zero_add] at e1
  have e2 := splice_splice z 0 (a ++ b) e (by simp; omega)
  simp only [List.length_append, ha, hb, Nat.zero_add] at e2
  rw [e1, e2]

set_option maxHeartbeats 1600000 in
set_option maxRecDepth 100000 in
theorem appWrappedB (lt : Int) (ad : Addr) (n c : Nat) (lw : List UInt8) (v : Value) (m : Nat) (lm : List UInt8) (p q buf : Nat) (F : List Res) (w0 w : World) (h0 : 0 ≤ lt) (h1 : lt < 18446744073709551616)
    (hn : 18 ≤ n) (hn2 : (n : Int) ≤ 4294967296) (hcn : n ≤ c) (hm : (m : Int) ≤ 2147483647) (hb : (buf : Int) ≤ 65536) (hw : Src w0 1 (.slice (some ad) n c) n (u8s lw)) (hl : Src w0 1 v m (u8s lm)) (hv : ∃ a c, v = .slice a m c)
    (S : St w0 [] w (.blk p (.cells [.slice (some ⟨q, 0, none⟩) buf buf].toArray 28 (0, 0)) :: .blk q (.cells (u8s (List.replicate buf 0)).toArray 5 (0, 0)) :: F)) (hfit : ¬ ((n : Int) + (m : Int) > (buf : Int))) :
    Calls Try.prog 58 #[.int .u64 lt, .slice (some ad) n c, v, .pointer (some ⟨p, 0, none⟩)] w fun e w' => ∃ b cap, e = .returned (.slice (some ⟨b, 0, none⟩) (n + m) cap) ∧ St w0 [] w' [.row 5 1 (.slice (some ⟨b, 0, none⟩) (n + m) cap) (n + m) (u8s (le 8 lt.toNat ++ lw.drop 8 ++ lm))] := by
  obtain ⟨va, vc, rfl⟩ := hv
  have ht := hidden (hw.tail 8 (c - 8) (by omega))
  have hwl := hidden hw.len8
  have hll := hidden hl.len8
  go_enter Try.func58, Try.ntmps58
  obtain ⟨z, hz, hzl⟩ : ∃ z : List UInt8, List.replicate buf 0 = z ∧ z.length = buf := ⟨_, rfl, by simp⟩
  rw [hz] at S
  go_wp2_with (first | ((with_reducible show Code.wp _ (Code.region _ _ true) _ _ _); refine St.regionLast S ?_; (repeat (first | (go_big_quiet_step (fail)) | (go_big_quiet_want; (first | refine quiet_ld S ?_ | refine quiet_ld8 S ?_ | refine quiet_ld0 ?_ | refine quiet_ldA S ?_ | refine quiet_b2sB S ?_ | refine quiet_b2sR S ?_ | refine quiet_ldc S ?_); go_big_quiet_on))); refine wpQuiet_nil ?_; clear S; intro wq S) | (refine wpList_ld S ?_) | (refine wpList_ld8 S ?_) | (refine wpList_ld0 ?_) | (refine wpList_ldA S ?_) | (refine wpList_st8 S ?_; (clear S; intro ws S)) | (refine wpList_st S ?_; (clear S; intro ws S)) | (refine wpList_box S ?_; (clear S; intro nb wb hnb S)) | (refine wpList_alloc S ?_; (clear S; intro nb wb hnb S)) | (refine wpList_mk8 S ?_; (clear S; intro nb wb hnb S)) | (refine wpList_mk S ?_; (clear S; intro nb wb hnb S)) | (refine wpList_bs S ?_; (clear S; intro nb wb hnb S)) | (refine wpList_stA S ?_; (clear S; intro ws S; simp only [splice, List.take_zero, List.take_succ_cons, List.drop_succ_cons, List.drop_zero, List.drop_nil, List.length_cons, List.length_nil, Nat.reduceAdd, Nat.zero_add, List.nil_append, List.cons_append, List.append_nil] at S)) | (refine wpList_b2sB S ?_) | (refine wpList_b2sR S ?_) | (refine wpList_ldc S ?_))
  refine Calls.mono (put64 q 0 _ _ (u8s z) lt _ _ S.sel1 h0 h1 (by omega) (by simp; omega)) ?_
  rintro e w2 ⟨rfl, C⟩
  rw [← u8s_splice] at C
  obtain ⟨l1, H1, hl1⟩ : ∃ x, Hid (splice z 0 (le 8 lt.toNat) = x) ∧ x.length = buf := ⟨_, rfl, by rw [splice_length _ _ _ (by simp; omega)]; exact hzl⟩
  rw [H1.out] at C
  have S2 := S.call C; clear S C; simp only [List.cons_append, List.nil_append] at S2; have S := S2; clear S2
  go_wp2_with (first | ((with_reducible show Code.wp _ (Code.region _ _ true) _ _ _); refine St.regionLast S ?_; (repeat (first | (go_big_quiet_step (fail)) | (go_big_quiet_want; (first | refine quiet_ld S ?_ | refine quiet_ld8 S ?_ | refine quiet_ld0 ?_ | refine quiet_ldA S ?_ | refine quiet_b2sB S ?_ | refine quiet_b2sR S ?_ | refine quiet_ldc S ?_); go_big_quiet_on))); refine wpQuiet_nil ?_; clear S; intro wq S) | (refine wpList_copy8 S (ht.out.on S.chg) ?_; (clear S; intro ws S); rw [take_min _ _ (by have := hwl.out; simp; omega)] at S; obtain ⟨l4, H4, hl4⟩ : ∃ x, Hid (splice l1 8 (lw.drop 8) = x) ∧ x.length = buf := ⟨_, rfl, by rw [splice_length _ _ _ (by have := hwl.out; simp; omega)]; exact hl1⟩; rw [H4.out] at S) | (refine wpList_slcL n ?_; intro j2 hj2) | (refine wpList_copy8 S (hl.on S.chg) ?_; (clear S; intro ws S); rw [splice_end _ _ n j2 _ (by omega), take_min _ _ (by have := hll.out; omega)] at S))
  have hwl := hwl.out
  have hll := hll.out
  have hxl : (le 8 lt.toNat ++ lw.drop 8 ++ lm).length = n + m := by simp; omega
  have e : splice l4 n lm = splice z 0 (le 8 lt.toNat ++ lw.drop 8 ++ lm) := by
    rw [← H4.out, ← H1.out]
    exact more_laid z _ _ lm n (by simp) (by simp; omega) (by omega)
  rw [e] at S
  have S2 := S.toRow (b := q) (n := n + m) (cap := buf) 1 (by repeat (first | exact Pull.head | apply Pull.tail)) (by rw [length_u8s, splice_length _ _ _ (by omega)]; omega) (by omega) (by unfold maxLen; omega)
  rw [Nat.mul_one, ← u8s_take, show (splice z 0 (le 8 lt.toNat ++ lw.drop 8 ++ lm)).take (n + m) = le 8 lt.toNat ++ lw.drop 8 ++ lm by
    have := splice_at z 0 (le 8 lt.toNat ++ lw.drop 8 ++ lm) (by omega)
    rwa [hxl, List.drop_zero] at this] at S2
  clear S
  go_ret
  exact ⟨_, _, rfl, S2.sel (.cons .head .nil)⟩

set_option maxHeartbeats 1600000 in
set_option maxRecDepth 100000 in
theorem appWrappedA (lt : Int) (ad : Addr) (n c : Nat) (lw : List UInt8) (v : Value) (m : Nat) (lm : List UInt8) (p q buf : Nat) (F : List Res) (w0 w : World) (h0 : 0 ≤ lt) (h1 : lt < 18446744073709551616)
    (hn : 18 ≤ n) (hn2 : (n : Int) ≤ 4294967296) (hcn : n ≤ c) (hm : (m : Int) ≤ 2147483647) (hb : (buf : Int) ≤ 65536) (hw : Src w0 1 (.slice (some ad) n c) n (u8s lw)) (hl : Src w0 1 v m (u8s lm)) (hv : ∃ a c, v = .slice a m c)
    (S : St w0 [] w (.blk p (.cells [.slice (some ⟨q, 0, none⟩) buf buf].toArray 28 (0, 0)) :: .blk q (.cells (u8s (List.replicate buf 0)).toArray 5 (0, 0)) :: F)) (hfit : ((n : Int) + (m : Int) > (buf : Int))) :
    Calls Try.prog 58 #[.int .u64 lt, .slice (some ad) n c, v, .pointer (some ⟨p, 0, none⟩)] w fun e w' => ∃ b cap, e = .returned (.slice (some ⟨b, 0, none⟩) (n + m) cap) ∧ St w0 [] w' [.row 5 1 (.slice (some ⟨b, 0, none⟩) (n + m) cap) (n + m) (u8s (le 8 lt.toNat ++ lw.drop 8 ++ lm))] := by
  obtain ⟨va, vc, rfl⟩ := hv
  have ht := hidden (hw.tail 8 (c - 8) (by omega))
  have hwl := hidden hw.len8
  have hll := hidden hl.len8
  go_enter Try.func58, Try.ntmps58
  go_wp2_with (first | (refine wpList_mk8 (ln := n + m) (cn := n + m) S ?_ (hln := by omega) (hcn := by omega); (clear S; intro nb wb hnb S)) | (refine wpList_ld S ?_) | (refine wpList_ld0 ?_) | (refine wpList_st S ?_; (clear S; intro ws S)))
  obtain ⟨z, hz, hzl⟩ : ∃ z : List UInt8, List.replicate (n + m) 0 = z ∧ z.length = n + m := ⟨_, rfl, by simp⟩
  rw [hz] at S
  refine Calls.mono (put64 nb 0 _ _ (u8s z) lt _ _ S.sel1 h0 h1 (by omega) (by simp; omega)) ?_
  rintro e w2 ⟨rfl, C⟩
  rw [← u8s_splice] at C
  obtain ⟨l1, H1, hl1⟩ : ∃ x, Hid (splice z 0 (le 8 lt.toNat) = x) ∧ x.length = n + m := ⟨_, rfl, by rw [splice_length _ _ _ (by simp; omega)]; exact hzl⟩
  rw [H1.out] at C
  have S2 := S.call C; clear S C; simp only [List.cons_append, List.nil_append] at S2; have S := S2; clear S2
  go_wp2_with (first | ((with_reducible show Code.wp _ (Code.region _ _ true) _ _ _); refine St.regionLast S ?_; (repeat (first | (go_big_quiet_step (fail)) | (go_big_quiet_want; (first | refine quiet_ld S ?_ | refine quiet_ld8 S ?_ | refine quiet_ld0 ?_ | refine quiet_ldA S ?_ | refine quiet_b2sB S ?_ | refine quiet_b2sR S ?_ | refine quiet_ldc S ?_); go_big_quiet_on))); refine wpQuiet_nil ?_; clear S; intro wq S) | (refine wpList_copy8 S (ht.out.on S.chg) ?_; (clear S; intro ws S); rw [take_min _ _ (by have := hwl.out; simp; omega)] at S; obtain ⟨l4, H4, hl4⟩ : ∃ x, Hid (splice l1 8 (lw.drop 8) = x) ∧ x.length = n + m := ⟨_, rfl, by rw [splice_length _ _ _ (by have := hwl.out; simp; omega)]; exact hl1⟩; rw [H4.out] at S) | (refine wpList_slcL n ?_; intro j2 hj2) | (refine wpList_copy8 S (hl.on S.chg) ?_; (clear S; intro ws S); rw [splice_end _ _ n j2 _ (by omega), take_min _ _ (by have := hll.out; omega)] at S))
  have hwl := hwl.out
  have hll := hll.out
  have hxl : (le 8 lt.toNat ++ lw.drop 8 ++ lm).length = n + m := by simp; omega
  have e : splice l4 n lm = splice z 0 (le 8 lt.toNat ++ lw.drop 8 ++ lm) := by
    rw [← H4.out, ← H1.out]
    exact more_laid z _ _ lm n (by simp) (by simp; omega) (by omega)
  rw [e] at S
  have S2 := S.toRow (b := nb) (n := n + m) (cap := n + m) 1 (by repeat (first | exact Pull.head | apply Pull.tail)) (by rw [length_u8s, splice_length _ _ _ (by omega)]; omega) (by omega) (by unfold maxLen; omega)
  rw [Nat.mul_one, ← u8s_take, show (splice z 0 (le 8 lt.toNat ++ lw.drop 8 ++ lm)).take (n + m) = le 8 lt.toNat ++ lw.drop 8 ++ lm by
    have := splice_at z 0 (le 8 lt.toNat ++ lw.drop 8 ++ lm) (by omega)
    rwa [hxl, List.drop_zero] at this] at S2
  clear S
  go_ret
  exact ⟨_, _, rfl, S2.sel (.cons .head .nil)⟩

theorem idle45 (p q : Option Addr) : Idle Try.prog 45 #[.pointer p, .pointer q] := by
  intro w
  refine callsD_of_wpS Try.func45 rfl fun c₀ cs hu => ?_
  apply wpS_seq
  apply wpS_region
  simp [wpOpsS, go_sem, recoverD, hu, Try.ntmps45, Exit.thenS]
  refine wpS_cond (t := false) (by simp [Act.eval, Array.replicate]) ?_
  simp only [Bool.false_eq_true, if_false]
  refine wpS_of_wp (wp_skip ?_)
  cases c₀
  simp_all [bodyPostS, results, Try.results45]


theorem appWrapped (lt : Int) (ad : Addr) (n c : Nat) (lw : List UInt8) (v : Value) (m : Nat) (lm : List UInt8) (p q buf : Nat) (F : List Res) (w0 w : World) (h0 : 0 ≤ lt) (h1 : lt < 18446744073709551616)
    (hn : 18 ≤ n) (hn2 : (n : Int) ≤ 4294967296) (hcn : n ≤ c) (hm : (m : Int) ≤ 2147483647) (hb : (buf : Int) ≤ 65536) (hw : Src w0 1 (.slice (some ad) n c) n (u8s lw)) (hl : Src w0 1 v m (u8s lm)) (hv : ∃ a c, v = .slice a m c)
    (S : St w0 [] w (.blk p (.cells [.slice (some ⟨q, 0, none⟩) buf buf].toArray 28 (0, 0)) :: .blk q (.cells (u8s (List.replicate buf 0)).toArray 5 (0, 0)) :: F)) :
    Calls Try.prog 58 #[.int .u64 lt, .slice (some ad) n c, v, .pointer (some ⟨p, 0, none⟩)] w fun e w' => ∃ b cap, e = .returned (.slice (some ⟨b, 0, none⟩) (n + m) cap) ∧ St w0 [] w' [.row 5 1 (.slice (some ⟨b, 0, none⟩) (n + m) cap) (n + m) (u8s (le 8 lt.toNat ++ lw.drop 8 ++ lm))] := by
  by_cases hfit : (n : Int) + (m : Int) > (buf : Int)
  · exact appWrappedA lt ad n c lw v m lm p q buf F w0 w h0 h1 hn hn2 hcn hm hb hw hl hv S hfit
  · exact appWrappedB lt ad n c lw v m lm p q buf F w0 w h0 h1 hn hn2 hcn hm hb hw hl hv S hfit

set_option maxHeartbeats 800000 in
theorem zzAppend (lt : Int) (ad : Addr) (n c : Nat) (lw : List UInt8) (v : Value) (m : Nat) (lm : List UInt8) (buf : Nat) (w : World) (h0 : 0 ≤ lt) (h1 : lt < 18446744073709551616)
    (hn : 18 ≤ n) (hn2 : (n : Int) ≤ 4294967296) (hcn : n ≤ c) (hm : (m : Int) ≤ 2147483647) (hb : (buf : Int) ≤ 65536) (hw : Src w 1 (.slice (some ad) n c) n (u8s lw)) (hl : Src w 1 v m (u8s lm)) (hv : ∃ a c, v = .slice a m c) :
    Calls Try.prog 46 #[.int .u64 lt, .slice (some ad) n c, v, .int .i64 buf] w fun e w' => ∃ b cap, e = .returned (.slice (some ⟨b, 0, none⟩) (n + m) cap) ∧ St w [] w' [.row 5 1 (.slice (some ⟨b, 0, none⟩) (n + m) cap) (n + m) (u8s (le 8 lt.toNat ++ lw.drop 8 ++ lm))] := by
  have S := St.begin w
  obtain ⟨va, vc, rfl⟩ := hv
  have q1 := hidden (And.intro hn (And.intro hn2 (And.intro hcn hm)))
  clear hn hn2 hcn hm
  go_enter Try.func46, Try.ntmps46
  go_wp2_with (first | ((with_reducible show Code.wp _ (Code.region _ _ true) _ _ _); refine St.regionLast S ?_; (repeat (first | (go_big_quiet_step (fail)) | (go_big_quiet_want; (first | refine quiet_ld S ?_ | refine quiet_ld8 S ?_ | refine quiet_ld0 ?_ | refine quiet_ldA S ?_ | refine quiet_b2sB S ?_ | refine quiet_b2sR S ?_ | refine quiet_ldc S ?_); go_big_quiet_on))); refine wpQuiet_nil ?_; clear S; intro wq S) | (refine wpList_ld S ?_) | (refine wpList_ld8 S ?_) | (refine wpList_ld0 ?_) | (refine wpList_ldA S ?_) | (refine wpList_st8 S ?_; (clear S; intro ws S)) | (refine wpList_st S ?_; (clear S; intro ws S)) | (refine wpList_box S ?_; (clear S; intro nb wb hnb S)) | (refine wpList_alloc S ?_; (clear S; intro nb wb hnb S)) | (refine wpList_mk8 S ?_; (clear S; intro nb wb hnb S)) | (refine wpList_mk S ?_; (clear S; intro nb wb hnb S)) | (refine wpList_bs S ?_; (clear S; intro nb wb hnb S)) | (refine wpList_stA S ?_; (clear S; intro ws S; simp only [splice, List.take_zero, List.take_succ_cons, List.drop_succ_cons, List.drop_zero, List.drop_nil, List.length_cons, List.length_nil, Nat.reduceAdd, Nat.zero_add, List.nil_append, List.cons_append, List.append_nil] at S)) | (refine wpList_b2sB S ?_) | (refine wpList_b2sR S ?_) | (refine wpList_ldc S ?_))
  obtain ⟨hn, hn2, hcn, hm⟩ := q1.out
  refine Calls.mono (appWrapped lt ad n c lw _ m lm _ _ buf _ w _ h0 h1 hn hn2 hcn hm (by omega) hw hl ⟨_, _, rfl⟩ S) ?_
  rintro e w2 ⟨b, cap, rfl, S2⟩
  clear S
  have S := S2
  clear S2
  clear hn hn2 hcn hm
  go_wp2_with (first | ((with_reducible show Code.wp _ (Code.region _ _ true) _ _ _); refine St.regionLast S ?_; (repeat (first | (go_big_quiet_step (fail)) | (go_big_quiet_want; (first | refine quiet_ld S ?_ | refine quiet_ld8 S ?_ | refine quiet_ld0 ?_ | refine quiet_ldA S ?_ | refine quiet_b2sB S ?_ | refine quiet_b2sR S ?_ | refine quiet_ldc S ?_); go_big_quiet_on))); refine wpQuiet_nil ?_; clear S; intro wq S) | (refine wpList_ld S ?_) | (refine wpList_ld8 S ?_) | (refine wpList_ld0 ?_) | (refine wpList_ldA S ?_) | (refine wpList_st8 S ?_; (clear S; intro ws S)) | (refine wpList_st S ?_; (clear S; intro ws S)) | (refine wpList_box S ?_; (clear S; intro nb wb hnb S)) | (refine wpList_alloc S ?_; (clear S; intro nb wb hnb S)) | (refine wpList_mk8 S ?_; (clear S; intro nb wb hnb S)) | (refine wpList_mk S ?_; (clear S; intro nb wb hnb S)) | (refine wpList_bs S ?_; (clear S; intro nb wb hnb S)) | (refine wpList_stA S ?_; (clear S; intro ws S; simp only [splice, List.take_zero, List.take_succ_cons, List.drop_succ_cons, List.drop_zero, List.drop_nil, List.length_cons, List.length_nil, Nat.reduceAdd, Nat.zero_add, List.nil_append, List.cons_append, List.append_nil] at S)) | (refine wpList_b2sB S ?_) | (refine wpList_b2sR S ?_) | (refine wpList_ldc S ?_))
  go_ret
  exact ⟨_, _, rfl, S⟩

set_option maxHeartbeats 800000 in
theorem implMore (lt : Int) (ad : Addr) (n c : Nat) (lw : List UInt8) (v : Value) (m : Nat) (lm : List UInt8) (buf : Nat) (w : World) (h0 : 0 ≤ lt) (h1 : lt < 18446744073709551616)
    (hn : 18 ≤ n) (hn2 : (n : Int) ≤ 4294967296) (hcn : n ≤ c) (hm : (m : Int) ≤ 2147483647) (hb : ¬ (buf : Int) > 65536) (hb' : ¬ (buf : Int) < 0) (hw : Src w 1 (.slice (some ad) n c) n (u8s lw)) (hl : Src w 1 v m (u8s lm)) (hv : ∃ a c, v = .slice a m c) :
    Calls Try.prog 30 #[.int .u64 lt, .slice (some ad) n c, v, .int .i64 buf] w fun e w' => ∃ b cap, e = .returned (.tuple #[.slice (some ⟨b, 0, none⟩) (n + m) cap, .int .i64 0]) ∧ St w [] w' [.row 5 1 (.slice (some ⟨b, 0, none⟩) (n + m) cap) (n + m) (u8s (le 8 lt.toNat ++ lw.drop 8 ++ lm))] := by
  have S := St.begin w
  have hmf : ∀ (fn : Fn) (first cap : Array Value) (w : World), (Instr.makeFunc fn first cap).run Try.prog w = .ok (.func fn first cap) w := fun _ _ _ _ => rfl
  obtain ⟨va, vc, rfl⟩ := hv
  have q1 := hidden (And.intro hn (And.intro hn2 (And.intro hcn (And.intro hm (And.intro h0 h1)))))
  clear hn hn2 hcn hm h0 h1
  go_enter_defers Try.func30, Try.ntmps30
  go_wp2_with (first | ((with_reducible show Code.wp _ (Code.region _ _ true) _ _ _); refine St.regionLast S ?_; (repeat (first | (go_big_quiet_step (fail)) | (go_big_quiet_want; (first | refine quiet_ld S ?_ | refine quiet_ld8 S ?_ | refine quiet_ld0 ?_ | refine quiet_ldA S ?_ | refine quiet_b2sB S ?_ | refine quiet_b2sR S ?_ | refine quiet_ldc S ?_); go_big_quiet_on))); refine wpQuiet_nil ?_; clear S; intro wq S) | (refine wpList_ld S ?_) | (refine wpList_ld8 S ?_) | (refine wpList_ld0 ?_) | (refine wpList_ldA S ?_) | (refine wpList_st8 S ?_; (clear S; intro ws S)) | (refine wpList_st S ?_; (clear S; intro ws S)) | (refine wpList_box S ?_; (clear S; intro nb wb hnb S)) | (refine wpList_alloc S ?_; (clear S; intro nb wb hnb S)) | (refine wpList_mk8 S ?_; (clear S; intro nb wb hnb S)) | (refine wpList_mk S ?_; (clear S; intro nb wb hnb S)) | (refine wpList_bs S ?_; (clear S; intro nb wb hnb S)) | (refine wpList_stA S ?_; (clear S; intro ws S; simp only [splice, List.take_zero, List.take_succ_cons, List.drop_succ_cons, List.drop_zero, List.drop_nil, List.length_cons, List.length_nil, Nat.reduceAdd, Nat.zero_add, List.nil_append, List.cons_append, List.append_nil] at S)) | (refine wpList_b2sB S ?_) | (refine wpList_b2sR S ?_) | (refine wpList_ldc S ?_))
  obtain ⟨hn, hn2, hcn, hm, h0, h1⟩ := q1.out
  refine Calls.mono (zzAppend lt ad n c lw _ m lm buf _ h0 h1 hn hn2 hcn hm (by omega) (hw.on S.chg) (hl.on S.chg) ⟨_, _, rfl⟩) ?_
  rintro e w2 ⟨b, cap, rfl, C⟩
  have S2 := S.call C; clear S C; simp only [List.cons_append, List.nil_append] at S2; have S := S2; clear S2
  clear hn hn2 hcn hm
  go_wp2_with (first | ((with_reducible show Code.wp _ (Code.region _ _ true) _ _ _); refine St.regionLast S ?_; (repeat (first | (go_big_quiet_step (fail)) | (go_big_quiet_want; (first | refine quiet_ld S ?_ | refine quiet_ld8 S ?_ | refine quiet_ld0 ?_ | refine quiet_ldA S ?_ | refine quiet_b2sB S ?_ | refine quiet_b2sR S ?_ | refine quiet_ldc S ?_); go_big_quiet_on))); refine wpQuiet_nil ?_; clear S; intro wq S) | (refine wpList_ld S ?_) | (refine wpList_ld8 S ?_) | (refine wpList_ld0 ?_) | (refine wpList_ldA S ?_) | (refine wpList_st8 S ?_; (clear S; intro ws S)) | (refine wpList_st S ?_; (clear S; intro ws S)) | (refine wpList_box S ?_; (clear S; intro nb wb hnb S)) | (refine wpList_alloc S ?_; (clear S; intro nb wb hnb S)) | (refine wpList_mk8 S ?_; (clear S; intro nb wb hnb S)) | (refine wpList_mk S ?_; (clear S; intro nb wb hnb S)) | (refine wpList_bs S ?_; (clear S; intro nb wb hnb S)) | (refine wpList_stA S ?_; (clear S; intro ws S; simp only [splice, List.take_zero, List.take_succ_cons, List.drop_succ_cons, List.drop_zero, List.drop_nil, List.length_cons, List.length_nil, Nat.reduceAdd, Nat.zero_add, List.nil_append, List.cons_append, List.append_nil] at S)) | (refine wpList_b2sB S ?_) | (refine wpList_b2sR S ?_) | (refine wpList_ldc S ?_))
  exact door2 S (idle45 _ _) ⟨b, cap, rfl, S.sel (by repeat (first | exact Sel.nil | (apply Sel.cons; (repeat (first | exact Pull.head | apply Pull.tail)))))⟩

theorem wrapB_more (tm lt hs : Int) (key : ByteArray) (l lm : List UInt8) : le 8 lt.toNat ++ (wrapB tm hs key l).drop 8 ++ lm = wrapB lt hs key (l ++ lm) := by
  unfold wrapB
  rw [List.append_assoc (le 8 tm.toNat), List.append_assoc (le 8 tm.toNat), List.append_assoc (le 8 tm.toNat), List.drop_left' (by simp)]
  simp [List.append_assoc]

set_option maxHeartbeats 1600000 in
set_option maxRecDepth 100000 in
theorem lawMore1 (tm hs : Int) (key : ByteArray) (v : Value) (n : Nat) (l : List UInt8) (lt : Int) (u : Value) (m : Nat) (lm : List UInt8) (buf : Nat) (w : World) (h0 : 0 ≤ tm) (h1 : tm < 18446744073709551616) (h2 : 0 ≤ hs) (h3 : hs < 18446744073709551616) (h4 : 0 ≤ lt) (h5 : lt < 18446744073709551616)
    (hk : (key.size : Int) + 18 < 65536) (hk' : ¬ (key.size : Int) > 2147483647) (hn : ¬ (n : Int) > 2147483647) (hm : ¬ (m : Int) > 2147483647) (hb : ¬ (buf : Int) > 65536) (hb' : ¬ (buf : Int) < 0) (hl : Src w 1 v n (u8s l)) (hv : ∃ a c, v = .slice a n c) (hl2 : Src w 1 u m (u8s lm)) (hu : ∃ a c, u = .slice a m c) :
    Calls Try.prog 12 #[.int .u64 tm, .int .u64 hs, .string key, v, .int .u64 lt, u, .int .i64 buf] w fun e w' => e = .returned (.bool true) ∧ Below w.heap.size w w' := by
  have S := St.begin w
  obtain ⟨a, c, rfl⟩ := hv
  obtain ⟨a', c', rfl⟩ := hu
  have q1 := hidden hb
  have q2 := hidden hb'
  clear hb hb'
  go_enter Try.func12, Try.ntmps12
  go_wp2_with (first | ((with_reducible show Code.wp _ (Code.region _ _ true) _ _ _); refine St.regionLast S ?_; (repeat (first | (go_big_quiet_step (fail)) | (go_big_quiet_want; (first | refine quiet_ld S ?_ | refine quiet_ld8 S ?_ | refine quiet_ld0 ?_ | refine quiet_ldA S ?_ | refine quiet_b2sB S ?_ | refine quiet_b2sR S ?_ | refine quiet_ldc S ?_); go_big_quiet_on))); refine wpQuiet_nil ?_; clear S; intro wq S) | (refine wpList_ld S ?_) | (refine wpList_ld8 S ?_) | (refine wpList_ld0 ?_) | (refine wpList_ldA S ?_) | (refine wpList_st8 S ?_; (clear S; intro ws S)) | (refine wpList_st S ?_; (clear S; intro ws S)) | (refine wpList_box S ?_; (clear S; intro nb wb hnb S)) | (refine wpList_alloc S ?_; (clear S; intro nb wb hnb S)) | (refine wpList_mk8 S ?_; (clear S; intro nb wb hnb S)) | (refine wpList_mk S ?_; (clear S; intro nb wb hnb S)) | (refine wpList_bs S ?_; (clear S; intro nb wb hnb S)) | (refine wpList_stA S ?_; (clear S; intro ws S; simp only [splice, List.take_zero, List.take_succ_cons, List.drop_succ_cons, List.drop_zero, List.drop_nil, List.length_cons, List.length_nil, Nat.reduceAdd, Nat.zero_add, List.nil_append, List.cons_append, List.append_nil] at S)) | (refine wpList_b2sB S ?_) | (refine wpList_b2sR S ?_) | (refine wpList_ldc S ?_))
  refine Calls.mono (keyed key _ (by omega)) ?_
  rintro e w2 ⟨rfl, C⟩
  have S2 := S.call C; clear S C; simp only [List.cons_append, List.nil_append] at S2; have S := S2; clear S2
  rw [decide_eq_true (by omega : (key.size : Int) + 18 < 65536)]
  have hb := q1.out
  have hb' := q2.out
  have q3 := hidden (And.intro hk (And.intro hk' (And.intro hn (And.intro h0 (And.intro h1 (And.intro h2 (And.intro h3 (And.intro hm (And.intro h4 h5)))))))))
  clear hk hk' hn h0 h1 h2 h3 hm h4 h5
  go_wp2_with (first | ((with_reducible show Code.wp _ (Code.region _ _ true) _ _ _); refine St.regionLast S ?_; (repeat (first | (go_big_quiet_step (fail)) | (go_big_quiet_want; (first | refine quiet_ld S ?_ | refine quiet_ld8 S ?_ | refine quiet_ld0 ?_ | refine quiet_ldA S ?_ | refine quiet_b2sB S ?_ | refine quiet_b2sR S ?_ | refine quiet_ldc S ?_); go_big_quiet_on))); refine wpQuiet_nil ?_; clear S; intro wq S) | (refine wpList_ld S ?_) | (refine wpList_ld8 S ?_) | (refine wpList_ld0 ?_) | (refine wpList_ldA S ?_) | (refine wpList_st8 S ?_; (clear S; intro ws S)) | (refine wpList_st S ?_; (clear S; intro ws S)) | (refine wpList_box S ?_; (clear S; intro nb wb hnb S)) | (refine wpList_alloc S ?_; (clear S; intro nb wb hnb S)) | (refine wpList_mk8 S ?_; (clear S; intro nb wb hnb S)) | (refine wpList_mk S ?_; (clear S; intro nb wb hnb S)) | (refine wpList_bs S ?_; (clear S; intro nb wb hnb S)) | (refine wpList_stA S ?_; (clear S; intro ws S; simp only [splice, List.take_zero, List.take_succ_cons, List.drop_succ_cons, List.drop_zero, List.drop_nil, List.length_cons, List.length_nil, Nat.reduceAdd, Nat.zero_add, List.nil_append, List.cons_append, List.append_nil] at S)) | (refine wpList_b2sB S ?_) | (refine wpList_b2sR S ?_) | (refine wpList_ldc S ?_))
  obtain ⟨hk, hk', hn, h0, h1, h2, h3, hm, h4, h5⟩ := q3.out
  refine Calls.mono (wrapped tm hs key _ n l _ h0 h1 h2 h3 (by omega) (by omega) (hl.on S.chg)) ?_
  rintro e w2 ⟨s1, rfl, C⟩
  have S2 := S.call C; clear S C; simp only [List.cons_append, List.nil_append] at S2; have S := S2; clear S2
  have hrow := hidden S.rowSrc
  obtain ⟨a1, c1, rfl, hc1, hc2⟩ := S.rowSlice
  obtain ⟨a1, rfl⟩ : ∃ x, a1 = some x := by
    cases a1 with
    | some x => exact ⟨x, rfl⟩
    | none => have := (hrow.out.2.2 : _ ∧ u8s (wrapB tm hs key l) = []).2; have := congrArg List.length this; simp [wrapB_length] at this
  clear hrow
  have q4 := hidden (And.intro hk (And.intro hk' (And.intro hn (And.intro h0 (And.intro h1 (And.intro h2 (And.intro h3 (And.intro hm (And.intro h4 (And.intro h5 (And.intro hc1 hc2)))))))))))
  clear hk hk' hn h0 h1 h2 h3 hm h4 h5 hb hb' q3 hc1 hc2
  go_wp2_with (first | ((with_reducible show Code.wp _ (Code.region _ _ true) _ _ _); refine St.regionLast S ?_; (repeat (first | (go_big_quiet_step (fail)) | (go_big_quiet_want; (first | refine quiet_ld S ?_ | refine quiet_ld8 S ?_ | refine quiet_ld0 ?_ | refine quiet_ldA S ?_ | refine quiet_b2sB S ?_ | refine quiet_b2sR S ?_ | refine quiet_ldc S ?_); go_big_quiet_on))); refine wpQuiet_nil ?_; clear S; intro wq S) | (refine wpList_ld S ?_) | (refine wpList_ld8 S ?_) | (refine wpList_ld0 ?_) | (refine wpList_ldA S ?_) | (refine wpList_st8 S ?_; (clear S; intro ws S)) | (refine wpList_st S ?_; (clear S; intro ws S)) | (refine wpList_box S ?_; (clear S; intro nb wb hnb S)) | (refine wpList_alloc S ?_; (clear S; intro nb wb hnb S)) | (refine wpList_mk8 S ?_; (clear S; intro nb wb hnb S)) | (refine wpList_mk S ?_; (clear S; intro nb wb hnb S)) | (refine wpList_bs S ?_; (clear S; intro nb wb hnb S)) | (refine wpList_stA S ?_; (clear S; intro ws S; simp only [splice, List.take_zero, List.take_succ_cons, List.drop_succ_cons, List.drop_zero, List.drop_nil, List.length_cons, List.length_nil, Nat.reduceAdd, Nat.zero_add, List.nil_append, List.cons_append, List.append_nil] at S)) | (refine wpList_b2sB S ?_) | (refine wpList_b2sR S ?_) | (refine wpList_ldc S ?_))
  obtain ⟨hk, hk', hn, h0, h1, h2, h3, hm, h4, h5, hc1, hc2⟩ := q4.out
  refine Calls.mono (implMore lt a1 _ _ _ _ m lm buf _ h4 h5 (by omega) (by omega) hc1 (by omega) (by have := q1.out; omega) (by omega) S.rowSrc (hl2.on S.chg) ⟨_, _, rfl⟩) ?_
  rintro e w2 ⟨b2, c2, rfl, C⟩
  have S2 := S.call C; clear S C; simp only [List.cons_append, List.nil_append] at S2; have S := S2; clear S2
  rw [wrapB_more] at S
  clear h0 h1 h2 h3 h4 h5 hk hk' hc1 hc2
  go_wp2_with (first | (refine wpList_bs0 S ?_; (clear S; intro nb wb hnb S)) | (refine wpList_appO0 S hl ?_; (clear S; intro va wa hva S)) | (refine wpList_appO S hl2 ?_; (clear S; intro va wa hva S)))
  obtain ⟨hk, hk', hn, h0, h1, h2, h3, hm, h4, h5, hc1, hc2⟩ := q4.out
  refine Calls.mono (wrapped lt hs key _ (n + m) (l ++ lm) _ h4 h5 h2 h3 (by omega) (by omega) (S.rowSrc (hp := Pull.head))) ?_
  rintro e w2 ⟨s3, rfl, C⟩
  have S2 := S.call C; clear S C; simp only [List.cons_append, List.nil_append] at S2; have S := S2; clear S2
  clear h0 h1 h2 h3 h4 h5 hk hk' hc1 hc2 hn hm
  obtain ⟨a3, c3, rfl, hc3, hc4⟩ := S.rowSlice (hp := Pull.head)
  have q5 := hidden (And.intro hc3 hc4)
  clear hc3 hc4
  go_wp2_with (first | ((with_reducible show Code.wp _ (Code.region _ _ true) _ _ _); refine St.regionLast S ?_; (repeat (first | (go_big_quiet_step (fail)) | (go_big_quiet_want; (first | refine quiet_ld S ?_ | refine quiet_ld8 S ?_ | refine quiet_ld0 ?_ | refine quiet_ldA S ?_ | refine quiet_b2sB S ?_ | refine quiet_b2sR S ?_ | refine quiet_ldc S ?_); go_big_quiet_on))); refine wpQuiet_nil ?_; clear S; intro wq S) | (refine wpList_ld S ?_) | (refine wpList_ld8 S ?_) | (refine wpList_ld0 ?_) | (refine wpList_ldA S ?_) | (refine wpList_st8 S ?_; (clear S; intro ws S)) | (refine wpList_st S ?_; (clear S; intro ws S)) | (refine wpList_box S ?_; (clear S; intro nb wb hnb S)) | (refine wpList_alloc S ?_; (clear S; intro nb wb hnb S)) | (refine wpList_mk8 S ?_; (clear S; intro nb wb hnb S)) | (refine wpList_mk S ?_; (clear S; intro nb wb hnb S)) | (refine wpList_bs S ?_; (clear S; intro nb wb hnb S)) | (refine wpList_stA S ?_; (clear S; intro ws S; simp only [splice, List.take_zero, List.take_succ_cons, List.drop_succ_cons, List.drop_zero, List.drop_nil, List.length_cons, List.length_nil, Nat.reduceAdd, Nat.zero_add, List.nil_append, List.cons_append, List.append_nil] at S)) | (refine wpList_b2sB S ?_) | (refine wpList_b2sR S ?_) | (refine wpList_ldc S ?_))
  obtain ⟨hc3, hc4⟩ := q5.out
  refine Calls.mono (sameBytes _ _ _ _ _ _ _ (S.rowSrc (hp := .tail (.tail .head))) (S.rowSrc (hp := .head)) ⟨_, _, rfl, (by omega), (S.rowLe (hp := .tail (.tail .head)))⟩ ⟨_, _, rfl, hc4, hc3⟩) ?_
  rintro e w2 ⟨rfl, C⟩
  have S2 := S.call C; clear S C; simp only [List.cons_append, List.nil_append] at S2; have S := S2; clear S2
  simp only [decide_true]
  clear hc3 hc4
  go_wp2_with (first | ((with_reducible show Code.wp _ (Code.region _ _ true) _ _ _); refine St.regionLast S ?_; (repeat (first | (go_big_quiet_step (fail)) | (go_big_quiet_want; (first | refine quiet_ld S ?_ | refine quiet_ld8 S ?_ | refine quiet_ld0 ?_ | refine quiet_ldA S ?_ | refine quiet_b2sB S ?_ | refine quiet_b2sR S ?_ | refine quiet_ldc S ?_); go_big_quiet_on))); refine wpQuiet_nil ?_; clear S; intro wq S) | (refine wpList_ld S ?_) | (refine wpList_ld8 S ?_) | (refine wpList_ld0 ?_) | (refine wpList_ldA S ?_) | (refine wpList_st8 S ?_; (clear S; intro ws S)) | (refine wpList_st S ?_; (clear S; intro ws S)) | (refine wpList_box S ?_; (clear S; intro nb wb hnb S)) | (refine wpList_alloc S ?_; (clear S; intro nb wb hnb S)) | (refine wpList_mk8 S ?_; (clear S; intro nb wb hnb S)) | (refine wpList_mk S ?_; (clear S; intro nb wb hnb S)) | (refine wpList_bs S ?_; (clear S; intro nb wb hnb S)) | (refine wpList_stA S ?_; (clear S; intro ws S; simp only [splice, List.take_zero, List.take_succ_cons, List.drop_succ_cons, List.drop_zero, List.drop_nil, List.length_cons, List.length_nil, Nat.reduceAdd, Nat.zero_add, List.nil_append, List.cons_append, List.append_nil] at S)) | (refine wpList_b2sB S ?_) | (refine wpList_b2sR S ?_) | (refine wpList_ldc S ?_))
  go_ret
  exact ⟨rfl, S.chg.below⟩

set_option maxHeartbeats 1600000 in
set_option maxRecDepth 100000 in
theorem lawMore (tm hs : Int) (key : ByteArray) (v : Value) (n : Nat) (l : List UInt8) (lt : Int) (u : Value) (m : Nat) (lm : List UInt8) (bf : Int) (w : World) (h0 : (Lit.int .u64 tm).wf = true) (h1 : (Lit.int .u64 hs).wf = true) (k0 : key.size ≤ maxLen)
    (hl : Src w 1 v n (u8s l)) (ll : l.length = n) (hv : ∃ a c, v = .slice a n c ∧ n ≤ maxLen ∧ n ≤ c) (h2 : (Lit.int .u64 lt).wf = true) (hl2 : Src w 1 u m (u8s lm)) (ll2 : lm.length = m) (hu : ∃ a c, u = .slice a m c ∧ m ≤ maxLen ∧ m ≤ c) (hbf : (Lit.int .i64 bf).wf = true) :
    Calls Try.prog 12 #[.int .u64 tm, .int .u64 hs, .string key, v, .int .u64 lt, u, .int .i64 bf] w fun e w' => e = .returned (.bool true) ∧ Below w.heap.size w w' := by
  have q := hidden (And.intro (wf64 h0) (And.intro (wf64 h1) (wf64 h2)))
  obtain ⟨a, c, rfl, hn, hc⟩ := hv
  obtain ⟨a', c', rfl, hm, hc'⟩ := hu
  clear k0 ll hbf h0 h1 h2 hn hc hm hc' ll2
  have S := St.begin w
  by_cases g1 : (key.size : Int) > 2147483647
  · clear hl hl2
    go_enter Try.func12, Try.ntmps12
    go_wp2_with (first | ((with_reducible show Code.wp _ (Code.region _ _ true) _ _ _); refine St.regionLast S ?_; (repeat (first | (go_big_quiet_step (fail)) | (go_big_quiet_want; (first | refine quiet_ld S ?_ | refine quiet_ld8 S ?_ | refine quiet_ld0 ?_ | refine quiet_ldA S ?_ | refine quiet_b2sB S ?_ | refine quiet_b2sR S ?_ | refine quiet_ldc S ?_); go_big_quiet_on))); refine wpQuiet_nil ?_; clear S; intro wq S) | (refine wpList_ld S ?_) | (refine wpList_ld8 S ?_) | (refine wpList_ld0 ?_) | (refine wpList_ldA S ?_) | (refine wpList_st8 S ?_; (clear S; intro ws S)) | (refine wpList_st S ?_; (clear S; intro ws S)) | (refine wpList_box S ?_; (clear S; intro nb wb hnb S)) | (refine wpList_alloc S ?_; (clear S; intro nb wb hnb S)) | (refine wpList_mk8 S ?_; (clear S; intro nb wb hnb S)) | (refine wpList_mk S ?_; (clear S; intro nb wb hnb S)) | (refine wpList_bs S ?_; (clear S; intro nb wb hnb S)) | (refine wpList_stA S ?_; (clear S; intro ws S; simp only [splice, List.take_zero, List.take_succ_cons, List.drop_succ_cons, List.drop_zero, List.drop_nil, List.length_cons, List.length_nil, Nat.reduceAdd, Nat.zero_add, List.nil_append, List.cons_append, List.append_nil] at S)) | (refine wpList_b2sB S ?_) | (refine wpList_b2sR S ?_) | (refine wpList_ldc S ?_))
    go_ret
    exact ⟨rfl, S.chg.below⟩
  by_cases g2 : (n : Int) > 2147483647
  · clear hl hl2
    go_enter Try.func12, Try.ntmps12
    go_wp2_with (first | ((with_reducible show Code.wp _ (Code.region _ _ true) _ _ _); refine St.regionLast S ?_; (repeat (first | (go_big_quiet_step (fail)) | (go_big_quiet_want; (first | refine quiet_ld S ?_ | refine quiet_ld8 S ?_ | refine quiet_ld0 ?_ | refine quiet_ldA S ?_ | refine quiet_b2sB S ?_ | refine quiet_b2sR S ?_ | refine quiet_ldc S ?_); go_big_quiet_on))); refine wpQuiet_nil ?_; clear S; intro wq S) | (refine wpList_ld S ?_) | (refine wpList_ld8 S ?_) | (refine wpList_ld0 ?_) | (refine wpList_ldA S ?_) | (refine wpList_st8 S ?_; (clear S; intro ws S)) | (refine wpList_st S ?_; (clear S; intro ws S)) | (refine wpList_box S ?_; (clear S; intro nb wb hnb S)) | (refine wpList_alloc S ?_; (clear S; intro nb wb hnb S)) | (refine wpList_mk8 S ?_; (clear S; intro nb wb hnb S)) | (refine wpList_mk S ?_; (clear S; intro nb wb hnb S)) | (refine wpList_bs S ?_; (clear S; intro nb wb hnb S)) | (refine wpList_stA S ?_; (clear S; intro ws S; simp only [splice, List.take_zero, List.take_succ_cons, List.drop_succ_cons, List.drop_zero, List.drop_nil, List.length_cons, List.length_nil, Nat.reduceAdd, Nat.zero_add, List.nil_append, List.cons_append, List.append_nil] at S)) | (refine wpList_b2sB S ?_) | (refine wpList_b2sR S ?_) | (refine wpList_ldc S ?_))
    go_ret
    exact ⟨rfl, S.chg.below⟩
  by_cases g3 : (m : Int) > 2147483647
  · clear hl hl2
    go_enter Try.func12, Try.ntmps12
    go_wp2_with (first | ((with_reducible show Code.wp _ (Code.region _ _ true) _ _ _); refine St.regionLast S ?_; (repeat (first | (go_big_quiet_step (fail)) | (go_big_quiet_want; (first | refine quiet_ld S ?_ | refine quiet_ld8 S ?_ | refine quiet_ld0 ?_ | refine quiet_ldA S ?_ | refine quiet_b2sB S ?_ | refine quiet_b2sR S ?_ | refine quiet_ldc S ?_); go_big_quiet_on))); refine wpQuiet_nil ?_; clear S; intro wq S) | (refine wpList_ld S ?_) | (refine wpList_ld8 S ?_) | (refine wpList_ld0 ?_) | (refine wpList_ldA S ?_) | (refine wpList_st8 S ?_; (clear S; intro ws S)) | (refine wpList_st S ?_; (clear S; intro ws S)) | (refine wpList_box S ?_; (clear S; intro nb wb hnb S)) | (refine wpList_alloc S ?_; (clear S; intro nb wb hnb S)) | (refine wpList_mk8 S ?_; (clear S; intro nb wb hnb S)) | (refine wpList_mk S ?_; (clear S; intro nb wb hnb S)) | (refine wpList_bs S ?_; (clear S; intro nb wb hnb S)) | (refine wpList_stA S ?_; (clear S; intro ws S; simp only [splice, List.take_zero, List.take_succ_cons, List.drop_succ_cons, List.drop_zero, List.drop_nil, List.length_cons, List.length_nil, Nat.reduceAdd, Nat.zero_add, List.nil_append, List.cons_append, List.append_nil] at S)) | (refine wpList_b2sB S ?_) | (refine wpList_b2sR S ?_) | (refine wpList_ldc S ?_))
    go_ret
    exact ⟨rfl, S.chg.below⟩
  by_cases g4 : (key.size : Int) + 18 < 65536
  · by_cases g5 : bf < 0
    · clear hl hl2
      go_enter Try.func12, Try.ntmps12
      go_wp2_with (first | ((with_reducible show Code.wp _ (Code.region _ _ true) _ _ _); refine St.regionLast S ?_; (repeat (first | (go_big_quiet_step (fail)) | (go_big_quiet_want; (first | refine quiet_ld S ?_ | refine quiet_ld8 S ?_ | refine quiet_ld0 ?_ | refine quiet_ldA S ?_ | refine quiet_b2sB S ?_ | refine quiet_b2sR S ?_ | refine quiet_ldc S ?_); go_big_quiet_on))); refine wpQuiet_nil ?_; clear S; intro wq S) | (refine wpList_ld S ?_) | (refine wpList_ld8 S ?_) | (refine wpList_ld0 ?_) | (refine wpList_ldA S ?_) | (refine wpList_st8 S ?_; (clear S; intro ws S)) | (refine wpList_st S ?_; (clear S; intro ws S)) | (refine wpList_box S ?_; (clear S; intro nb wb hnb S)) | (refine wpList_alloc S ?_; (clear S; intro nb wb hnb S)) | (refine wpList_mk8 S ?_; (clear S; intro nb wb hnb S)) | (refine wpList_mk S ?_; (clear S; intro nb wb hnb S)) | (refine wpList_bs S ?_; (clear S; intro nb wb hnb S)) | (refine wpList_stA S ?_; (clear S; intro ws S; simp only [splice, List.take_zero, List.take_succ_cons, List.drop_succ_cons, List.drop_zero, List.drop_nil, List.length_cons, List.length_nil, Nat.reduceAdd, Nat.zero_add, List.nil_append, List.cons_append, List.append_nil] at S)) | (refine wpList_b2sB S ?_) | (refine wpList_b2sR S ?_) | (refine wpList_ldc S ?_))
      refine Calls.mono (keyed key _ (by omega)) ?_
      rintro e w2 ⟨rfl, C⟩
      have S2 := S.call C; clear S C; simp only [List.cons_append, List.nil_append] at S2; have S := S2; clear S2
      rw [decide_eq_true (by omega : (key.size : Int) + 18 < 65536)]
      clear g1 g2 g3 g4
      go_wp2_with (first | ((with_reducible show Code.wp _ (Code.region _ _ true) _ _ _); refine St.regionLast S ?_; (repeat (first | (go_big_quiet_step (fail)) | (go_big_quiet_want; (first | refine quiet_ld S ?_ | refine quiet_ld8 S ?_ | refine quiet_ld0 ?_ | refine quiet_ldA S ?_ | refine quiet_b2sB S ?_ | refine quiet_b2sR S ?_ | refine quiet_ldc S ?_); go_big_quiet_on))); refine wpQuiet_nil ?_; clear S; intro wq S) | (refine wpList_ld S ?_) | (refine wpList_ld8 S ?_) | (refine wpList_ld0 ?_) | (refine wpList_ldA S ?_) | (refine wpList_st8 S ?_; (clear S; intro ws S)) | (refine wpList_st S ?_; (clear S; intro ws S)) | (refine wpList_box S ?_; (clear S; intro nb wb hnb S)) | (refine wpList_alloc S ?_; (clear S; intro nb wb hnb S)) | (refine wpList_mk8 S ?_; (clear S; intro nb wb hnb S)) | (refine wpList_mk S ?_; (clear S; intro nb wb hnb S)) | (refine wpList_bs S ?_; (clear S; intro nb wb hnb S)) | (refine wpList_stA S ?_; (clear S; intro ws S; simp only [splice, List.take_zero, List.take_succ_cons, List.drop_succ_cons, List.drop_zero, List.drop_nil, List.length_cons, List.length_nil, Nat.reduceAdd, Nat.zero_add, List.nil_append, List.cons_append, List.append_nil] at S)) | (refine wpList_b2sB S ?_) | (refine wpList_b2sR S ?_) | (refine wpList_ldc S ?_))
      go_ret
      exact ⟨rfl, S.chg.below⟩
    · by_cases g6 : bf > 65536
      · clear hl hl2
        have hg := hidden g6
        clear g6 g5
        go_enter Try.func12, Try.ntmps12
        go_wp2_with (first | ((with_reducible show Code.wp _ (Code.region _ _ true) _ _ _); refine St.regionLast S ?_; (repeat (first | (go_big_quiet_step (fail)) | (go_big_quiet_want; (first | refine quiet_ld S ?_ | refine quiet_ld8 S ?_ | refine quiet_ld0 ?_ | refine quiet_ldA S ?_ | refine quiet_b2sB S ?_ | refine quiet_b2sR S ?_ | refine quiet_ldc S ?_); go_big_quiet_on))); refine wpQuiet_nil ?_; clear S; intro wq S) | (refine wpList_ld S ?_) | (refine wpList_ld8 S ?_) | (refine wpList_ld0 ?_) | (refine wpList_ldA S ?_) | (refine wpList_st8 S ?_; (clear S; intro ws S)) | (refine wpList_st S ?_; (clear S; intro ws S)) | (refine wpList_box S ?_; (clear S; intro nb wb hnb S)) | (refine wpList_alloc S ?_; (clear S; intro nb wb hnb S)) | (refine wpList_mk8 S ?_; (clear S; intro nb wb hnb S)) | (refine wpList_mk S ?_; (clear S; intro nb wb hnb S)) | (refine wpList_bs S ?_; (clear S; intro nb wb hnb S)) | (refine wpList_stA S ?_; (clear S; intro ws S; simp only [splice, List.take_zero, List.take_succ_cons, List.drop_succ_cons, List.drop_zero, List.drop_nil, List.length_cons, List.length_nil, Nat.reduceAdd, Nat.zero_add, List.nil_append, List.cons_append, List.append_nil] at S)) | (refine wpList_b2sB S ?_) | (refine wpList_b2sR S ?_) | (refine wpList_ldc S ?_))
        refine Calls.mono (keyed key _ (by omega)) ?_
        rintro e w2 ⟨rfl, C⟩
        have S2 := S.call C; clear S C; simp only [List.cons_append, List.nil_append] at S2; have S := S2; clear S2
        rw [decide_eq_true (by omega : (key.size : Int) + 18 < 65536)]
        clear g1 g2 g3 g4
        have g6 := hg.out
        have g5 : ¬ bf < 0 := by omega
        go_wp2_with (first | ((with_reducible show Code.wp _ (Code.region _ _ true) _ _ _); refine St.regionLast S ?_; (repeat (first | (go_big_quiet_step (fail)) | (go_big_quiet_want; (first | refine quiet_ld S ?_ | refine quiet_ld8 S ?_ | refine quiet_ld0 ?_ | refine quiet_ldA S ?_ | refine quiet_b2sB S ?_ | refine quiet_b2sR S ?_ | refine quiet_ldc S ?_); go_big_quiet_on))); refine wpQuiet_nil ?_; clear S; intro wq S) | (refine wpList_ld S ?_) | (refine wpList_ld8 S ?_) | (refine wpList_ld0 ?_) | (refine wpList_ldA S ?_) | (refine wpList_st8 S ?_; (clear S; intro ws S)) | (refine wpList_st S ?_; (clear S; intro ws S)) | (refine wpList_box S ?_; (clear S; intro nb wb hnb S)) | (refine wpList_alloc S ?_; (clear S; intro nb wb hnb S)) | (refine wpList_mk8 S ?_; (clear S; intro nb wb hnb S)) | (refine wpList_mk S ?_; (clear S; intro nb wb hnb S)) | (refine wpList_bs S ?_; (clear S; intro nb wb hnb S)) | (refine wpList_stA S ?_; (clear S; intro ws S; simp only [splice, List.take_zero, List.take_succ_cons, List.drop_succ_cons, List.drop_zero, List.drop_nil, List.length_cons, List.length_nil, Nat.reduceAdd, Nat.zero_add, List.nil_append, List.cons_append, List.append_nil] at S)) | (refine wpList_b2sB S ?_) | (refine wpList_b2sR S ?_) | (refine wpList_ldc S ?_))
        go_ret
        exact ⟨rfl, S.chg.below⟩
      · obtain ⟨buf, rfl⟩ : ∃ buf : Nat, bf = buf := ⟨bf.toNat, by omega⟩
        obtain ⟨⟨h0, h0'⟩, ⟨h1, h1'⟩, ⟨h2, h2'⟩⟩ := q.out
        exact lawMore1 tm hs key _ n l lt _ m lm buf w h0 h0' h1 h1' h2 h2' g4 g1 g2 g3 g6 g5 hl ⟨a, c, rfl⟩ hl2 ⟨a', c', rfl⟩
  · clear hl hl2
    go_enter Try.func12, Try.ntmps12
    go_wp2_with (first | ((with_reducible show Code.wp _ (Code.region _ _ true) _ _ _); refine St.regionLast S ?_; (repeat (first | (go_big_quiet_step (fail)) | (go_big_quiet_want; (first | refine quiet_ld S ?_ | refine quiet_ld8 S ?_ | refine quiet_ld0 ?_ | refine quiet_ldA S ?_ | refine quiet_b2sB S ?_ | refine quiet_b2sR S ?_ | refine quiet_ldc S ?_); go_big_quiet_on))); refine wpQuiet_nil ?_; clear S; intro wq S) | (refine wpList_ld S ?_) | (refine wpList_ld8 S ?_) | (refine wpList_ld0 ?_) | (refine wpList_ldA S ?_) | (refine wpList_st8 S ?_; (clear S; intro ws S)) | (refine wpList_st S ?_; (clear S; intro ws S)) | (refine wpList_box S ?_; (clear S; intro nb wb hnb S)) | (refine wpList_alloc S ?_; (clear S; intro nb wb hnb S)) | (refine wpList_mk8 S ?_; (clear S; intro nb wb hnb S)) | (refine wpList_mk S ?_; (clear S; intro nb wb hnb S)) | (refine wpList_bs S ?_; (clear S; intro nb wb hnb S)) | (refine wpList_stA S ?_; (clear S; intro ws S; simp only [splice, List.take_zero, List.take_succ_cons, List.drop_succ_cons, List.drop_zero, List.drop_nil, List.length_cons, List.length_nil, Nat.reduceAdd, Nat.zero_add, List.nil_append, List.cons_append, List.append_nil] at S)) | (refine wpList_b2sB S ?_) | (refine wpList_b2sR S ?_) | (refine wpList_ldc S ?_))
    refine Calls.mono (keyed key _ (by omega)) ?_
    rintro e w2 ⟨rfl, C⟩
    have S2 := S.call C; clear S C; simp only [List.cons_append, List.nil_append] at S2; have S := S2; clear S2
    rw [decide_eq_false (by omega : ¬ ((key.size : Int) + 18 < 65536))]
    clear g1 g2 g3 g4
    go_wp2_with (first | ((with_reducible show Code.wp _ (Code.region _ _ true) _ _ _); refine St.regionLast S ?_; (repeat (first | (go_big_quiet_step (fail)) | (go_big_quiet_want; (first | refine quiet_ld S ?_ | refine quiet_ld8 S ?_ | refine quiet_ld0 ?_ | refine quiet_ldA S ?_ | refine quiet_b2sB S ?_ | refine quiet_b2sR S ?_ | refine quiet_ldc S ?_); go_big_quiet_on))); refine wpQuiet_nil ?_; clear S; intro wq S) | (refine wpList_ld S ?_) | (refine wpList_ld8 S ?_) | (refine wpList_ld0 ?_) | (refine wpList_ldA S ?_) | (refine wpList_st8 S ?_; (clear S; intro ws S)) | (refine wpList_st S ?_; (clear S; intro ws S)) | (refine wpList_box S ?_; (clear S; intro nb wb hnb S)) | (refine wpList_alloc S ?_; (clear S; intro nb wb hnb S)) | (refine wpList_mk8 S ?_; (clear S; intro nb wb hnb S)) | (refine wpList_mk S ?_; (clear S; intro nb wb hnb S)) | (refine wpList_bs S ?_; (clear S; intro nb wb hnb S)) | (refine wpList_stA S ?_; (clear S; intro ws S; simp only [splice, List.take_zero, List.take_succ_cons, List.drop_succ_cons, List.drop_zero, List.drop_nil, List.length_cons, List.length_nil, Nat.reduceAdd, Nat.zero_add, List.nil_append, List.cons_append, List.append_nil] at S)) | (refine wpList_b2sB S ?_) | (refine wpList_b2sR S ?_) | (refine wpList_ldc S ?_))
    go_ret
    exact ⟨rfl, S.chg.below⟩

end Go.Proofs.Ytehfdefpajjmaaa
