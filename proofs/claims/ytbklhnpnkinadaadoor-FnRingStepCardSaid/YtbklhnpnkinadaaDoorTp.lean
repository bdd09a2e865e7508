/- An operation of the tape of the reference. · An operation of the tape of the reference: reads, and a new one. · An operation of the tape of the reference: reads. · An operation of the tape of the reference: what is read. · An operation of the tape of the reference: all kinds. -/
import Derived.Test.YtbklhnpnkinadaaDoorTd
import Derived.Test.YtbklhnpnkinadaaDoorTf
import Derived.Test.YtbklhnpnkinadaaDoorTg
import Derived.Test.YtbklhnpnkinadaaDoorTaP
section
namespace Go.Proofs.YtbklhnpnkinadaaDoor
open Go Go.RowKit Go.Vil
set_option linter.unusedSimpArgs false
set_option linter.unusedVariables false
set_option maxRecDepth 100000

theorem Seen.more {w0 : World} {bs : List Nat} {F F' : List Res} {v : Value} {n : Nat} {xs : List UInt8} (h : Seen w0 bs F v n xs) (hs : ∀ w, Mem w F' → Mem w F) : Seen w0 bs F' v n xs := fun w hM C => h w (hs w hM) C
/-- How an operation of a tape ends. -/
def TDoEnd (w0 : World) (bs : List Nat) (tp : Nat) (F : List Res) (p : Ta × TAns) (e : Ending) (w' : World) : Prop :=
  ∃ dv kv, e = .returned (.agg #[.int .i64 p.2.want.fault, .int .i64 p.2.want.n, .int .i64 p.2.want.m, .int .i64 p.2.want.len, dv, .bool p.2.want.is, kv, .bool p.2.open']) ∧
    TapeSt w0 bs w' tp p.1 (.row 5 1 dv p.2.want.data.length (u8s p.2.want.data) :: .row 4 1 kv p.2.known.length (bls p.2.known) :: F)
theorem tDoEnd_bare {w0 w' : World} {bs : List Nat} {tp : Nat} {F : List Res} {p : Ta × TAns} {e : Ending} (hd : p.2.want.data = []) (hk : p.2.known = []) (he : e = .returned (.agg #[.int .i64 p.2.want.fault, .int .i64 p.2.want.n, .int .i64 p.2.want.m, .int .i64 p.2.want.len, .slice none 0 0, .bool p.2.want.is, .slice none 0 0, .bool p.2.open']))
    (h : TapeSt w0 bs w' tp p.1 F) : TDoEnd w0 bs tp F p e w' := by
  obtain ⟨vb, vk, S⟩ := h
  have S2 := (S.nilRow 4 1).nilRow 5 1
  refine ⟨_, _, he, vb, vk, ?_⟩
  rw [hd, hk]
  exact S2.perm (List.perm_append_comm_assoc [_, _] [_, _, _] F)
theorem St.toTape {w0 w : World} {bs : List Nat} {tp : Nat} {t : Ta} {L F : List Res} {vb vk : Value} (S : St w0 bs w (L ++ (tHead tp t.size t.b t.e t.o vb vk :: .row 5 1 vb t.bytes.length (u8s t.bytes) :: .row 4 1 vk t.known.length (bls t.known) :: F))) : TapeSt w0 bs w tp t (L ++ F) :=
  ⟨vb, vk, S.perm (List.perm_append_comm_assoc L [_, _, _] F)⟩
theorem mem_more {L F : List Res} (w : World) (h : Mem w (L ++ F)) : Mem w F := by
  induction L with
  | nil => exact h
  | cons r L ih => exact ih h.tail
theorem TapeSt.drop {w0 w : World} {bs : List Nat} {tp : Nat} {t : Ta} {L F : List Res} (h : TapeSt w0 bs w tp t (L ++ F)) : TapeSt w0 bs w tp t F := by
  obtain ⟨vb, vk, S⟩ := h
  refine ⟨vb, vk, ?_⟩
  have S2 := S.perm (List.perm_append_comm_assoc [_, _, _] L F)
  exact ⟨mem_more _ S2.mem, S2.chg, fun r hr => S2.org r (List.mem_append_right _ hr)⟩

set_option maxHeartbeats 1600000 in
theorem tDo0 (tp : Nat) (t : Ta) (xs : List UInt8) (n c : Nat) (oa : Option Addr) (off len : Int) (F : List Res) (w0 : World) (bs : List Nat) (w : World) (hS : TapeSt w0 bs w tp t F)
    (ht : Mild t) (hs : Seen w0 bs F (.slice oa n c) n xs) (hn : n ≤ 1048576) (hl : 0 ≤ len ∧ len ≤ 1048576) (ho : -1152921504606846976 ≤ off ∧ off ≤ 1152921504606846976) (h8 : 0 = 8 → 0 ≤ off) :
    Calls Tryd.prog 14 #[.pointer (some ⟨tp, 0, none⟩), .agg #[.int .i64 0, .slice oa n c, .int .i64 off, .int .i64 len]] w (TDoEnd w0 bs tp F (t.step ⟨0, xs, off, len⟩)) := by
  have hpl := (hs w hS.mem.1 hS.mem.2).len8
  obtain ⟨vb, vk, S⟩ := hS
  have hst := hidden (Ta.step0 t xs off len)
  obtain ⟨ln, rfl⟩ : ∃ ln : Nat, len = ln := ⟨len.toNat, by omega⟩
  replace ht := hidden ht
  replace hs := hidden hs
  replace hpl := hidden hpl
  refine Calls.cps ?_; intro R hR
  go_enter Tryd.func14, Tryd.ntmps14
  go_wp2_with (first | go_big_skip | ((with_reducible show Code.wp _ (Code.region _ _ true) _ _ _); refine St.regionLast S ?_; (repeat (first | (go_big_quiet_step (fail)) | (go_big_quiet_want; (first | refine quiet_ld S ?_ | refine quiet_ld8 S ?_ | refine quiet_ld0 ?_ | refine quiet_ldA S ?_ | refine quiet_b2sB S ?_ | refine quiet_b2sR S ?_ | refine quiet_ldc S ?_); go_big_quiet_on))); refine wpQuiet_nil ?_; clear S; intro wq S) | go_big_skip | (refine wpList_ld S ?_) | (refine wpList_ld8 S ?_) | (refine wpList_ld0 ?_) | (refine wpList_ldA S ?_) | (refine wpList_st8 S ?_; (clear S; intro ws S)) | (refine wpList_st S ?_; (clear S; intro ws S)) | (refine wpList_box S ?_; (clear S; intro nb wb hnb S)) | (refine wpList_alloc S ?_; (clear S; intro nb wb hnb S)) | (refine wpList_mk8 S ?_; (clear S; intro nb wb hnb S)) | (refine wpList_mk S ?_; (clear S; intro nb wb hnb S)) | (refine wpList_bs S ?_; (clear S; intro nb wb hnb S)) | (refine wpList_stA S ?_; (clear S; intro ws S; simp only [splice, List.take_zero, List.take_succ_cons, List.drop_succ_cons, List.drop_zero, List.drop_nil, List.length_cons, List.length_nil, Nat.reduceAdd, Nat.zero_add, List.nil_append, List.cons_append, List.append_nil] at S)) | (refine wpList_b2sB S ?_) | (refine wpList_b2sR S ?_) | (refine wpList_ldc S ?_))
  refine Calls.mono (tapeWrite tp t xs n c oa _ w0 bs _ (St.toTape (L := [_, _, _]) S) ht.out (hs.out.more (fun w h => mem_more w h)) hn) ?_
  rintro e w2 ⟨rfl, vb2, vk2, S2⟩
  clear S
  have S := S2
  clear S2
  simp only [List.cons_append, List.nil_append] at S
  by_cases h0 : n ≤ t.size
  · rw [decide_eq_true h0]
    rw [hpl.out, if_pos h0] at hst
    rw [if_pos h0] at S
    go_wp2_with (first | go_big_skip | ((with_reducible show Code.wp _ (Code.region _ _ true) _ _ _); refine St.regionLast S ?_; (repeat (first | (go_big_quiet_step (fail)) | (go_big_quiet_want; (first | refine quiet_ld S ?_ | refine quiet_ld8 S ?_ | refine quiet_ld0 ?_ | refine quiet_ldA S ?_ | refine quiet_b2sB S ?_ | refine quiet_b2sR S ?_ | refine quiet_ldc S ?_); go_big_quiet_on))); refine wpQuiet_nil ?_; clear S; intro wq S) | go_big_skip | (refine wpList_ld S ?_) | (refine wpList_ld8 S ?_) | (refine wpList_ld0 ?_) | (refine wpList_ldA S ?_) | (refine wpList_st8 S ?_; (clear S; intro ws S)) | (refine wpList_st S ?_; (clear S; intro ws S)) | (refine wpList_box S ?_; (clear S; intro nb wb hnb S)) | (refine wpList_alloc S ?_; (clear S; intro nb wb hnb S)) | (refine wpList_mk8 S ?_; (clear S; intro nb wb hnb S)) | (refine wpList_mk S ?_; (clear S; intro nb wb hnb S)) | (refine wpList_bs S ?_; (clear S; intro nb wb hnb S)) | (refine wpList_stA S ?_; (clear S; intro ws S; simp only [splice, List.take_zero, List.take_succ_cons, List.drop_succ_cons, List.drop_zero, List.drop_nil, List.length_cons, List.length_nil, Nat.reduceAdd, Nat.zero_add, List.nil_append, List.cons_append, List.append_nil] at S)) | (refine wpList_b2sB S ?_) | (refine wpList_b2sR S ?_) | (refine wpList_ldc S ?_))
    refine ret_of (results_c S) ?_
    refine hR.out _ _ ?_
    rw [hst.out]
    exact tDoEnd_bare rfl rfl rfl (TapeSt.drop (L := [_, _, _]) ⟨_, _, S⟩)
  · rw [decide_eq_false h0]
    rw [hpl.out, if_neg h0] at hst
    rw [if_neg h0] at S
    go_wp2_with (first | go_big_skip | ((with_reducible show Code.wp _ (Code.region _ _ true) _ _ _); refine St.regionLast S ?_; (repeat (first | (go_big_quiet_step (fail)) | (go_big_quiet_want; (first | refine quiet_ld S ?_ | refine quiet_ld8 S ?_ | refine quiet_ld0 ?_ | refine quiet_ldA S ?_ | refine quiet_b2sB S ?_ | refine quiet_b2sR S ?_ | refine quiet_ldc S ?_); go_big_quiet_on))); refine wpQuiet_nil ?_; clear S; intro wq S) | go_big_skip | (refine wpList_ld S ?_) | (refine wpList_ld8 S ?_) | (refine wpList_ld0 ?_) | (refine wpList_ldA S ?_) | (refine wpList_st8 S ?_; (clear S; intro ws S)) | (refine wpList_st S ?_; (clear S; intro ws S)) | (refine wpList_box S ?_; (clear S; intro nb wb hnb S)) | (refine wpList_alloc S ?_; (clear S; intro nb wb hnb S)) | (refine wpList_mk8 S ?_; (clear S; intro nb wb hnb S)) | (refine wpList_mk S ?_; (clear S; intro nb wb hnb S)) | (refine wpList_bs S ?_; (clear S; intro nb wb hnb S)) | (refine wpList_stA S ?_; (clear S; intro ws S; simp only [splice, List.take_zero, List.take_succ_cons, List.drop_succ_cons, List.drop_zero, List.drop_nil, List.length_cons, List.length_nil, Nat.reduceAdd, Nat.zero_add, List.nil_append, List.cons_append, List.append_nil] at S)) | (refine wpList_b2sB S ?_) | (refine wpList_b2sR S ?_) | (refine wpList_ldc S ?_))
    refine ret_of (results_c S) ?_
    refine hR.out _ _ ?_
    rw [hst.out]
    exact tDoEnd_bare rfl rfl rfl (TapeSt.drop (L := [_, _, _]) ⟨_, _, S⟩)
set_option maxHeartbeats 1600000 in
theorem tDo2 (tp : Nat) (t : Ta) (xs : List UInt8) (n c : Nat) (oa : Option Addr) (off len : Int) (F : List Res) (w0 : World) (bs : List Nat) (w : World) (hS : TapeSt w0 bs w tp t F)
    (ht : Mild t) (hs : Seen w0 bs F (.slice oa n c) n xs) (hn : n ≤ 1048576) (hl : 0 ≤ len ∧ len ≤ 1048576) (ho : -1152921504606846976 ≤ off ∧ off ≤ 1152921504606846976) (h8 : 2 = 8 → 0 ≤ off) :
    Calls Tryd.prog 14 #[.pointer (some ⟨tp, 0, none⟩), .agg #[.int .i64 2, .slice oa n c, .int .i64 off, .int .i64 len]] w (TDoEnd w0 bs tp F (t.step ⟨2, xs, off, len⟩)) := by
  have hpl := (hs w hS.mem.1 hS.mem.2).len8
  obtain ⟨vb, vk, S⟩ := hS
  have hst := hidden (Ta.step2 t xs off len)
  obtain ⟨ln, rfl⟩ : ∃ ln : Nat, len = ln := ⟨len.toNat, by omega⟩
  replace ht := hidden ht
  replace hs := hidden hs
  replace hpl := hidden hpl
  refine Calls.cps ?_; intro R hR
  go_enter Tryd.func14, Tryd.ntmps14
  go_wp2_with (first | go_big_skip | ((with_reducible show Code.wp _ (Code.region _ _ true) _ _ _); refine St.regionLast S ?_; (repeat (first | (go_big_quiet_step (fail)) | (go_big_quiet_want; (first | refine quiet_ld S ?_ | refine quiet_ld8 S ?_ | refine quiet_ld0 ?_ | refine quiet_ldA S ?_ | refine quiet_b2sB S ?_ | refine quiet_b2sR S ?_ | refine quiet_ldc S ?_); go_big_quiet_on))); refine wpQuiet_nil ?_; clear S; intro wq S) | go_big_skip | (refine wpList_ld S ?_) | (refine wpList_ld8 S ?_) | (refine wpList_ld0 ?_) | (refine wpList_ldA S ?_) | (refine wpList_st8 S ?_; (clear S; intro ws S)) | (refine wpList_st S ?_; (clear S; intro ws S)) | (refine wpList_box S ?_; (clear S; intro nb wb hnb S)) | (refine wpList_alloc S ?_; (clear S; intro nb wb hnb S)) | (refine wpList_mk8 S ?_; (clear S; intro nb wb hnb S)) | (refine wpList_mk S ?_; (clear S; intro nb wb hnb S)) | (refine wpList_bs S ?_; (clear S; intro nb wb hnb S)) | (refine wpList_stA S ?_; (clear S; intro ws S; simp only [splice, List.take_zero, List.take_succ_cons, List.drop_succ_cons, List.drop_zero, List.drop_nil, List.length_cons, List.length_nil, Nat.reduceAdd, Nat.zero_add, List.nil_append, List.cons_append, List.append_nil] at S)) | (refine wpList_b2sB S ?_) | (refine wpList_b2sR S ?_) | (refine wpList_ldc S ?_))
  refine Calls.mono (tapePutAt tp t xs n c oa off _ w0 bs _ (St.toTape (L := [_, _, _]) S) ht.out (hs.out.more (fun w h => mem_more w h)) ho hn) ?_
  rintro e w2 ⟨rfl, vb2, vk2, S2⟩
  clear S
  have S := S2
  clear S2
  simp only [List.cons_append, List.nil_append] at S
  rw [hpl.out] at hst
  cases h0 : t.there off n with
  | true =>
    rw [h0] at hst
    simp only [h0, if_true] at S
    go_wp2_with (first | go_big_skip | ((with_reducible show Code.wp _ (Code.region _ _ true) _ _ _); refine St.regionLast S ?_; (repeat (first | (go_big_quiet_step (fail)) | (go_big_quiet_want; (first | refine quiet_ld S ?_ | refine quiet_ld8 S ?_ | refine quiet_ld0 ?_ | refine quiet_ldA S ?_ | refine quiet_b2sB S ?_ | refine quiet_b2sR S ?_ | refine quiet_ldc S ?_); go_big_quiet_on))); refine wpQuiet_nil ?_; clear S; intro wq S) | go_big_skip | (refine wpList_ld S ?_) | (refine wpList_ld8 S ?_) | (refine wpList_ld0 ?_) | (refine wpList_ldA S ?_) | (refine wpList_st8 S ?_; (clear S; intro ws S)) | (refine wpList_st S ?_; (clear S; intro ws S)) | (refine wpList_box S ?_; (clear S; intro nb wb hnb S)) | (refine wpList_alloc S ?_; (clear S; intro nb wb hnb S)) | (refine wpList_mk8 S ?_; (clear S; intro nb wb hnb S)) | (refine wpList_mk S ?_; (clear S; intro nb wb hnb S)) | (refine wpList_bs S ?_; (clear S; intro nb wb hnb S)) | (refine wpList_stA S ?_; (clear S; intro ws S; simp only [splice, List.take_zero, List.take_succ_cons, List.drop_succ_cons, List.drop_zero, List.drop_nil, List.length_cons, List.length_nil, Nat.reduceAdd, Nat.zero_add, List.nil_append, List.cons_append, List.append_nil] at S)) | (refine wpList_b2sB S ?_) | (refine wpList_b2sR S ?_) | (refine wpList_ldc S ?_))
    refine ret_of (results_c S) ?_
    refine hR.out _ _ ?_
    rw [hst.out]
    exact tDoEnd_bare rfl rfl rfl (TapeSt.drop (L := [_, _, _]) ⟨_, _, S⟩)
  | false =>
    rw [h0] at hst
    simp only [h0, Bool.false_eq_true, if_false] at S
    go_wp2_with (first | go_big_skip | ((with_reducible show Code.wp _ (Code.region _ _ true) _ _ _); refine St.regionLast S ?_; (repeat (first | (go_big_quiet_step (fail)) | (go_big_quiet_want; (first | refine quiet_ld S ?_ | refine quiet_ld8 S ?_ | refine quiet_ld0 ?_ | refine quiet_ldA S ?_ | refine quiet_b2sB S ?_ | refine quiet_b2sR S ?_ | refine quiet_ldc S ?_); go_big_quiet_on))); refine wpQuiet_nil ?_; clear S; intro wq S) | go_big_skip | (refine wpList_ld S ?_) | (refine wpList_ld8 S ?_) | (refine wpList_ld0 ?_) | (refine wpList_ldA S ?_) | (refine wpList_st8 S ?_; (clear S; intro ws S)) | (refine wpList_st S ?_; (clear S; intro ws S)) | (refine wpList_box S ?_; (clear S; intro nb wb hnb S)) | (refine wpList_alloc S ?_; (clear S; intro nb wb hnb S)) | (refine wpList_mk8 S ?_; (clear S; intro nb wb hnb S)) | (refine wpList_mk S ?_; (clear S; intro nb wb hnb S)) | (refine wpList_bs S ?_; (clear S; intro nb wb hnb S)) | (refine wpList_stA S ?_; (clear S; intro ws S; simp only [splice, List.take_zero, List.take_succ_cons, List.drop_succ_cons, List.drop_zero, List.drop_nil, List.length_cons, List.length_nil, Nat.reduceAdd, Nat.zero_add, List.nil_append, List.cons_append, List.append_nil] at S)) | (refine wpList_b2sB S ?_) | (refine wpList_b2sR S ?_) | (refine wpList_ldc S ?_))
    refine ret_of (results_c S) ?_
    refine hR.out _ _ ?_
    rw [hst.out]
    exact tDoEnd_bare rfl rfl rfl (TapeSt.drop (L := [_, _, _]) ⟨_, _, S⟩)
set_option maxHeartbeats 1600000 in
theorem tDo4 (tp : Nat) (t : Ta) (xs : List UInt8) (n c : Nat) (oa : Option Addr) (off len : Int) (F : List Res) (w0 : World) (bs : List Nat) (w : World) (hS : TapeSt w0 bs w tp t F)
    (ht : Mild t) (hs : Seen w0 bs F (.slice oa n c) n xs) (hn : n ≤ 1048576) (hl : 0 ≤ len ∧ len ≤ 1048576) (ho : -1152921504606846976 ≤ off ∧ off ≤ 1152921504606846976) (h8 : 4 = 8 → 0 ≤ off) :
    Calls Tryd.prog 14 #[.pointer (some ⟨tp, 0, none⟩), .agg #[.int .i64 4, .slice oa n c, .int .i64 off, .int .i64 len]] w (TDoEnd w0 bs tp F (t.step ⟨4, xs, off, len⟩)) := by
  have hpl := (hs w hS.mem.1 hS.mem.2).len8
  obtain ⟨vb, vk, S⟩ := hS
  have hst := hidden (Ta.step4 t xs off len)
  obtain ⟨ln, rfl⟩ : ∃ ln : Nat, len = ln := ⟨len.toNat, by omega⟩
  replace ht := hidden ht
  replace hs := hidden hs
  replace hpl := hidden hpl
  refine Calls.cps ?_; intro R hR
  go_enter Tryd.func14, Tryd.ntmps14
  go_wp2_with (first | go_big_skip | ((with_reducible show Code.wp _ (Code.region _ _ true) _ _ _); refine St.regionLast S ?_; (repeat (first | (go_big_quiet_step (fail)) | (go_big_quiet_want; (first | refine quiet_ld S ?_ | refine quiet_ld8 S ?_ | refine quiet_ld0 ?_ | refine quiet_ldA S ?_ | refine quiet_b2sB S ?_ | refine quiet_b2sR S ?_ | refine quiet_ldc S ?_); go_big_quiet_on))); refine wpQuiet_nil ?_; clear S; intro wq S) | go_big_skip | (refine wpList_ld S ?_) | (refine wpList_ld8 S ?_) | (refine wpList_ld0 ?_) | (refine wpList_ldA S ?_) | (refine wpList_st8 S ?_; (clear S; intro ws S)) | (refine wpList_st S ?_; (clear S; intro ws S)) | (refine wpList_box S ?_; (clear S; intro nb wb hnb S)) | (refine wpList_alloc S ?_; (clear S; intro nb wb hnb S)) | (refine wpList_mk8 S ?_; (clear S; intro nb wb hnb S)) | (refine wpList_mk S ?_; (clear S; intro nb wb hnb S)) | (refine wpList_bs S ?_; (clear S; intro nb wb hnb S)) | (refine wpList_stA S ?_; (clear S; intro ws S; simp only [splice, List.take_zero, List.take_succ_cons, List.drop_succ_cons, List.drop_zero, List.drop_nil, List.length_cons, List.length_nil, Nat.reduceAdd, Nat.zero_add, List.nil_append, List.cons_append, List.append_nil] at S)) | (refine wpList_b2sB S ?_) | (refine wpList_b2sR S ?_) | (refine wpList_ldc S ?_))
  refine Calls.mono (tapeSame tp t xs n c oa off _ w0 bs _ (St.toTape (L := [_, _, _]) S) ht.out (hs.out.more (fun w h => mem_more w h)) ho hn) ?_
  rintro e w2 ⟨rfl, vb2, vk2, S2⟩
  clear S
  have S := S2
  clear S2
  simp only [List.cons_append, List.nil_append] at S
  rw [hpl.out] at hst
  generalize (if t.there off n then t.same (off - t.o).toNat xs true else (false, true)) = pr at *
  obtain ⟨is, told⟩ := pr
  simp only at *
  cases told with
  | true =>
    go_wp2_with (first | go_big_skip | ((with_reducible show Code.wp _ (Code.region _ _ true) _ _ _); refine St.regionLast S ?_; (repeat (first | (go_big_quiet_step (fail)) | (go_big_quiet_want; (first | refine quiet_ld S ?_ | refine quiet_ld8 S ?_ | refine quiet_ld0 ?_ | refine quiet_ldA S ?_ | refine quiet_b2sB S ?_ | refine quiet_b2sR S ?_ | refine quiet_ldc S ?_); go_big_quiet_on))); refine wpQuiet_nil ?_; clear S; intro wq S) | go_big_skip | (refine wpList_ld S ?_) | (refine wpList_ld8 S ?_) | (refine wpList_ld0 ?_) | (refine wpList_ldA S ?_) | (refine wpList_st8 S ?_; (clear S; intro ws S)) | (refine wpList_st S ?_; (clear S; intro ws S)) | (refine wpList_box S ?_; (clear S; intro nb wb hnb S)) | (refine wpList_alloc S ?_; (clear S; intro nb wb hnb S)) | (refine wpList_mk8 S ?_; (clear S; intro nb wb hnb S)) | (refine wpList_mk S ?_; (clear S; intro nb wb hnb S)) | (refine wpList_bs S ?_; (clear S; intro nb wb hnb S)) | (refine wpList_stA S ?_; (clear S; intro ws S; simp only [splice, List.take_zero, List.take_succ_cons, List.drop_succ_cons, List.drop_zero, List.drop_nil, List.length_cons, List.length_nil, Nat.reduceAdd, Nat.zero_add, List.nil_append, List.cons_append, List.append_nil] at S)) | (refine wpList_b2sB S ?_) | (refine wpList_b2sR S ?_) | (refine wpList_ldc S ?_))
    refine ret_of (results_c S) ?_
    refine hR.out _ _ ?_
    rw [hst.out]
    exact tDoEnd_bare rfl rfl rfl (TapeSt.drop (L := [_, _, _]) ⟨_, _, S⟩)
  | false =>
    go_wp2_with (first | go_big_skip | ((with_reducible show Code.wp _ (Code.region _ _ true) _ _ _); refine St.regionLast S ?_; (repeat (first | (go_big_quiet_step (fail)) | (go_big_quiet_want; (first | refine quiet_ld S ?_ | refine quiet_ld8 S ?_ | refine quiet_ld0 ?_ | refine quiet_ldA S ?_ | refine quiet_b2sB S ?_ | refine quiet_b2sR S ?_ | refine quiet_ldc S ?_); go_big_quiet_on))); refine wpQuiet_nil ?_; clear S; intro wq S) | go_big_skip | (refine wpList_ld S ?_) | (refine wpList_ld8 S ?_) | (refine wpList_ld0 ?_) | (refine wpList_ldA S ?_) | (refine wpList_st8 S ?_; (clear S; intro ws S)) | (refine wpList_st S ?_; (clear S; intro ws S)) | (refine wpList_box S ?_; (clear S; intro nb wb hnb S)) | (refine wpList_alloc S ?_; (clear S; intro nb wb hnb S)) | (refine wpList_mk8 S ?_; (clear S; intro nb wb hnb S)) | (refine wpList_mk S ?_; (clear S; intro nb wb hnb S)) | (refine wpList_bs S ?_; (clear S; intro nb wb hnb S)) | (refine wpList_stA S ?_; (clear S; intro ws S; simp only [splice, List.take_zero, List.take_succ_cons, List.drop_succ_cons, List.drop_zero, List.drop_nil, List.length_cons, List.length_nil, Nat.reduceAdd, Nat.zero_add, List.nil_append, List.cons_append, List.append_nil] at S)) | (refine wpList_b2sB S ?_) | (refine wpList_b2sR S ?_) | (refine wpList_ldc S ?_))
    refine ret_of (results_c S) ?_
    refine hR.out _ _ ?_
    rw [hst.out]
    exact tDoEnd_bare rfl rfl rfl (TapeSt.drop (L := [_, _, _]) ⟨_, _, S⟩)
set_option maxHeartbeats 1600000 in
theorem tDo5 (tp : Nat) (t : Ta) (xs : List UInt8) (n c : Nat) (oa : Option Addr) (off len : Int) (F : List Res) (w0 : World) (bs : List Nat) (w : World) (hS : TapeSt w0 bs w tp t F)
    (ht : Mild t) (hs : Seen w0 bs F (.slice oa n c) n xs) (hn : n ≤ 1048576) (hl : 0 ≤ len ∧ len ≤ 1048576) (ho : -1152921504606846976 ≤ off ∧ off ≤ 1152921504606846976) (h8 : 5 = 8 → 0 ≤ off) :
    Calls Tryd.prog 14 #[.pointer (some ⟨tp, 0, none⟩), .agg #[.int .i64 5, .slice oa n c, .int .i64 off, .int .i64 len]] w (TDoEnd w0 bs tp F (t.step ⟨5, xs, off, len⟩)) := by
  have hpl := (hs w hS.mem.1 hS.mem.2).len8
  obtain ⟨vb, vk, S⟩ := hS
  have hst := hidden (Ta.step5 t xs off len)
  obtain ⟨ln, rfl⟩ : ∃ ln : Nat, len = ln := ⟨len.toNat, by omega⟩
  replace ht := hidden ht
  replace hs := hidden hs
  replace hpl := hidden hpl
  refine Calls.cps ?_; intro R hR
  go_enter Tryd.func14, Tryd.ntmps14
  go_wp2_with (first | go_big_skip | ((with_reducible show Code.wp _ (Code.region _ _ true) _ _ _); refine St.regionLast S ?_; (repeat (first | (go_big_quiet_step (fail)) | (go_big_quiet_want; (first | refine quiet_ld S ?_ | refine quiet_ld8 S ?_ | refine quiet_ld0 ?_ | refine quiet_ldA S ?_ | refine quiet_b2sB S ?_ | refine quiet_b2sR S ?_ | refine quiet_ldc S ?_); go_big_quiet_on))); refine wpQuiet_nil ?_; clear S; intro wq S) | go_big_skip | (refine wpList_ld S ?_) | (refine wpList_ld8 S ?_) | (refine wpList_ld0 ?_) | (refine wpList_ldA S ?_) | (refine wpList_st8 S ?_; (clear S; intro ws S)) | (refine wpList_st S ?_; (clear S; intro ws S)) | (refine wpList_box S ?_; (clear S; intro nb wb hnb S)) | (refine wpList_alloc S ?_; (clear S; intro nb wb hnb S)) | (refine wpList_mk8 S ?_; (clear S; intro nb wb hnb S)) | (refine wpList_mk S ?_; (clear S; intro nb wb hnb S)) | (refine wpList_bs S ?_; (clear S; intro nb wb hnb S)) | (refine wpList_stA S ?_; (clear S; intro ws S; simp only [splice, List.take_zero, List.take_succ_cons, List.drop_succ_cons, List.drop_zero, List.drop_nil, List.length_cons, List.length_nil, Nat.reduceAdd, Nat.zero_add, List.nil_append, List.cons_append, List.append_nil] at S)) | (refine wpList_b2sB S ?_) | (refine wpList_b2sR S ?_) | (refine wpList_ldc S ?_))
  refine Calls.mono (tapeMove tp t off ln _ w0 bs _ (St.toTape (L := [_, _, _]) S) ht.out ho (by omega)) ?_
  rintro e w2 ⟨rfl, vb2, vk2, S2⟩
  clear S
  have S := S2
  clear S2
  simp only [List.cons_append, List.nil_append] at S
  rw [Int.toNat_natCast] at hst
  generalize (if t.there off ln then t.puts (t.piece (off - t.b).toNat ln) else t) = t2 at *
  generalize (if t.there off ln then (t.e : Int) else -1) = z at *
  go_wp2_with (first | go_big_skip | ((with_reducible show Code.wp _ (Code.region _ _ true) _ _ _); refine St.regionLast S ?_; (repeat (first | (go_big_quiet_step (fail)) | (go_big_quiet_want; (first | refine quiet_ld S ?_ | refine quiet_ld8 S ?_ | refine quiet_ld0 ?_ | refine quiet_ldA S ?_ | refine quiet_b2sB S ?_ | refine quiet_b2sR S ?_ | refine quiet_ldc S ?_); go_big_quiet_on))); refine wpQuiet_nil ?_; clear S; intro wq S) | go_big_skip | (refine wpList_ld S ?_) | (refine wpList_ld8 S ?_) | (refine wpList_ld0 ?_) | (refine wpList_ldA S ?_) | (refine wpList_st8 S ?_; (clear S; intro ws S)) | (refine wpList_st S ?_; (clear S; intro ws S)) | (refine wpList_box S ?_; (clear S; intro nb wb hnb S)) | (refine wpList_alloc S ?_; (clear S; intro nb wb hnb S)) | (refine wpList_mk8 S ?_; (clear S; intro nb wb hnb S)) | (refine wpList_mk S ?_; (clear S; intro nb wb hnb S)) | (refine wpList_bs S ?_; (clear S; intro nb wb hnb S)) | (refine wpList_stA S ?_; (clear S; intro ws S; simp only [splice, List.take_zero, List.take_succ_cons, List.drop_succ_cons, List.drop_zero, List.drop_nil, List.length_cons, List.length_nil, Nat.reduceAdd, Nat.zero_add, List.nil_append, List.cons_append, List.append_nil] at S)) | (refine wpList_b2sB S ?_) | (refine wpList_b2sR S ?_) | (refine wpList_ldc S ?_))
  refine ret_of (results_c S) ?_
  refine hR.out _ _ ?_
  rw [hst.out]
  exact tDoEnd_bare rfl rfl rfl (TapeSt.drop (L := [_, _, _]) ⟨_, _, S⟩)
set_option maxHeartbeats 1600000 in
theorem tDo6 (tp : Nat) (t : Ta) (xs : List UInt8) (n c : Nat) (oa : Option Addr) (off len : Int) (F : List Res) (w0 : World) (bs : List Nat) (w : World) (hS : TapeSt w0 bs w tp t F)
    (ht : Mild t) (hs : Seen w0 bs F (.slice oa n c) n xs) (hn : n ≤ 1048576) (hl : 0 ≤ len ∧ len ≤ 1048576) (ho : -1152921504606846976 ≤ off ∧ off ≤ 1152921504606846976) (h8 : 6 = 8 → 0 ≤ off) :
    Calls Tryd.prog 14 #[.pointer (some ⟨tp, 0, none⟩), .agg #[.int .i64 6, .slice oa n c, .int .i64 off, .int .i64 len]] w (TDoEnd w0 bs tp F (t.step ⟨6, xs, off, len⟩)) := by
  have hpl := (hs w hS.mem.1 hS.mem.2).len8
  obtain ⟨vb, vk, S⟩ := hS
  have hst := hidden (Ta.step6 t xs off len)
  obtain ⟨ln, rfl⟩ : ∃ ln : Nat, len = ln := ⟨len.toNat, by omega⟩
  replace ht := hidden ht
  replace hs := hidden hs
  replace hpl := hidden hpl
  refine Calls.cps ?_; intro R hR
  go_enter Tryd.func14, Tryd.ntmps14
  go_wp2_with (first | go_big_skip | ((with_reducible show Code.wp _ (Code.region _ _ true) _ _ _); refine St.regionLast S ?_; (repeat (first | (go_big_quiet_step (fail)) | (go_big_quiet_want; (first | refine quiet_ld S ?_ | refine quiet_ld8 S ?_ | refine quiet_ld0 ?_ | refine quiet_ldA S ?_ | refine quiet_b2sB S ?_ | refine quiet_b2sR S ?_ | refine quiet_ldc S ?_); go_big_quiet_on))); refine wpQuiet_nil ?_; clear S; intro wq S) | go_big_skip | (refine wpList_ld S ?_) | (refine wpList_ld8 S ?_) | (refine wpList_ld0 ?_) | (refine wpList_ldA S ?_) | (refine wpList_st8 S ?_; (clear S; intro ws S)) | (refine wpList_st S ?_; (clear S; intro ws S)) | (refine wpList_box S ?_; (clear S; intro nb wb hnb S)) | (refine wpList_alloc S ?_; (clear S; intro nb wb hnb S)) | (refine wpList_mk8 S ?_; (clear S; intro nb wb hnb S)) | (refine wpList_mk S ?_; (clear S; intro nb wb hnb S)) | (refine wpList_bs S ?_; (clear S; intro nb wb hnb S)) | (refine wpList_stA S ?_; (clear S; intro ws S; simp only [splice, List.take_zero, List.take_succ_cons, List.drop_succ_cons, List.drop_zero, List.drop_nil, List.length_cons, List.length_nil, Nat.reduceAdd, Nat.zero_add, List.nil_append, List.cons_append, List.append_nil] at S)) | (refine wpList_b2sB S ?_) | (refine wpList_b2sR S ?_) | (refine wpList_ldc S ?_))
  rw [Int.toNat_natCast] at hst
  refine Calls.mono (tapeResize tp t ln _ w0 bs _ (St.toTape (L := [_, _, _]) S) ht.out (by omega)) ?_
  rintro e w2 ⟨rfl, vb2, vk2, S2⟩
  clear S
  have S := S2
  clear S2
  simp only [List.cons_append, List.nil_append] at S
  go_wp2_with (first | go_big_skip | ((with_reducible show Code.wp _ (Code.region _ _ true) _ _ _); refine St.regionLast S ?_; (repeat (first | (go_big_quiet_step (fail)) | (go_big_quiet_want; (first | refine quiet_ld S ?_ | refine quiet_ld8 S ?_ | refine quiet_ld0 ?_ | refine quiet_ldA S ?_ | refine quiet_b2sB S ?_ | refine quiet_b2sR S ?_ | refine quiet_ldc S ?_); go_big_quiet_on))); refine wpQuiet_nil ?_; clear S; intro wq S) | go_big_skip | (refine wpList_ld S ?_) | (refine wpList_ld8 S ?_) | (refine wpList_ld0 ?_) | (refine wpList_ldA S ?_) | (refine wpList_st8 S ?_; (clear S; intro ws S)) | (refine wpList_st S ?_; (clear S; intro ws S)) | (refine wpList_box S ?_; (clear S; intro nb wb hnb S)) | (refine wpList_alloc S ?_; (clear S; intro nb wb hnb S)) | (refine wpList_mk8 S ?_; (clear S; intro nb wb hnb S)) | (refine wpList_mk S ?_; (clear S; intro nb wb hnb S)) | (refine wpList_bs S ?_; (clear S; intro nb wb hnb S)) | (refine wpList_stA S ?_; (clear S; intro ws S; simp only [splice, List.take_zero, List.take_succ_cons, List.drop_succ_cons, List.drop_zero, List.drop_nil, List.length_cons, List.length_nil, Nat.reduceAdd, Nat.zero_add, List.nil_append, List.cons_append, List.append_nil] at S)) | (refine wpList_b2sB S ?_) | (refine wpList_b2sR S ?_) | (refine wpList_ldc S ?_))
  refine ret_of (results_c S) ?_
  refine hR.out _ _ ?_
  rw [hst.out]
  exact tDoEnd_bare rfl rfl rfl (TapeSt.drop (L := [_, _, _]) ⟨_, _, S⟩)
set_option maxHeartbeats 1600000 in
theorem tDo7 (tp : Nat) (t : Ta) (xs : List UInt8) (n c : Nat) (oa : Option Addr) (off len : Int) (F : List Res) (w0 : World) (bs : List Nat) (w : World) (hS : TapeSt w0 bs w tp t F)
    (ht : Mild t) (hs : Seen w0 bs F (.slice oa n c) n xs) (hn : n ≤ 1048576) (hl : 0 ≤ len ∧ len ≤ 1048576) (ho : -1152921504606846976 ≤ off ∧ off ≤ 1152921504606846976) (h8 : 7 = 8 → 0 ≤ off) :
    Calls Tryd.prog 14 #[.pointer (some ⟨tp, 0, none⟩), .agg #[.int .i64 7, .slice oa n c, .int .i64 off, .int .i64 len]] w (TDoEnd w0 bs tp F (t.step ⟨7, xs, off, len⟩)) := by
  have hpl := (hs w hS.mem.1 hS.mem.2).len8
  obtain ⟨vb, vk, S⟩ := hS
  have hst := hidden (Ta.step7 t xs off len)
  obtain ⟨ln, rfl⟩ : ∃ ln : Nat, len = ln := ⟨len.toNat, by omega⟩
  replace ht := hidden ht
  replace hs := hidden hs
  replace hpl := hidden hpl
  refine Calls.cps ?_; intro R hR
  go_enter Tryd.func14, Tryd.ntmps14
  go_wp2_with (first | go_big_skip | ((with_reducible show Code.wp _ (Code.region _ _ true) _ _ _); refine St.regionLast S ?_; (repeat (first | (go_big_quiet_step (fail)) | (go_big_quiet_want; (first | refine quiet_ld S ?_ | refine quiet_ld8 S ?_ | refine quiet_ld0 ?_ | refine quiet_ldA S ?_ | refine quiet_b2sB S ?_ | refine quiet_b2sR S ?_ | refine quiet_ldc S ?_); go_big_quiet_on))); refine wpQuiet_nil ?_; clear S; intro wq S) | go_big_skip | (refine wpList_ld S ?_) | (refine wpList_ld8 S ?_) | (refine wpList_ld0 ?_) | (refine wpList_ldA S ?_) | (refine wpList_st8 S ?_; (clear S; intro ws S)) | (refine wpList_st S ?_; (clear S; intro ws S)) | (refine wpList_box S ?_; (clear S; intro nb wb hnb S)) | (refine wpList_alloc S ?_; (clear S; intro nb wb hnb S)) | (refine wpList_mk8 S ?_; (clear S; intro nb wb hnb S)) | (refine wpList_mk S ?_; (clear S; intro nb wb hnb S)) | (refine wpList_bs S ?_; (clear S; intro nb wb hnb S)) | (refine wpList_stA S ?_; (clear S; intro ws S; simp only [splice, List.take_zero, List.take_succ_cons, List.drop_succ_cons, List.drop_zero, List.drop_nil, List.length_cons, List.length_nil, Nat.reduceAdd, Nat.zero_add, List.nil_append, List.cons_append, List.append_nil] at S)) | (refine wpList_b2sB S ?_) | (refine wpList_b2sR S ?_) | (refine wpList_ldc S ?_))
  rw [Int.toNat_natCast] at hst
  refine Calls.mono (tapeSkip tp t ln _ w0 bs _ (St.toTape (L := [_, _, _]) S) ht.out (by omega)) ?_
  rintro e w2 ⟨rfl, vb2, vk2, S2⟩
  clear S
  have S := S2
  clear S2
  simp only [List.cons_append, List.nil_append] at S
  go_wp2_with (first | go_big_skip | ((with_reducible show Code.wp _ (Code.region _ _ true) _ _ _); refine St.regionLast S ?_; (repeat (first | (go_big_quiet_step (fail)) | (go_big_quiet_want; (first | refine quiet_ld S ?_ | refine quiet_ld8 S ?_ | refine quiet_ld0 ?_ | refine quiet_ldA S ?_ | refine quiet_b2sB S ?_ | refine quiet_b2sR S ?_ | refine quiet_ldc S ?_); go_big_quiet_on))); refine wpQuiet_nil ?_; clear S; intro wq S) | go_big_skip | (refine wpList_ld S ?_) | (refine wpList_ld8 S ?_) | (refine wpList_ld0 ?_) | (refine wpList_ldA S ?_) | (refine wpList_st8 S ?_; (clear S; intro ws S)) | (refine wpList_st S ?_; (clear S; intro ws S)) | (refine wpList_box S ?_; (clear S; intro nb wb hnb S)) | (refine wpList_alloc S ?_; (clear S; intro nb wb hnb S)) | (refine wpList_mk8 S ?_; (clear S; intro nb wb hnb S)) | (refine wpList_mk S ?_; (clear S; intro nb wb hnb S)) | (refine wpList_bs S ?_; (clear S; intro nb wb hnb S)) | (refine wpList_stA S ?_; (clear S; intro ws S; simp only [splice, List.take_zero, List.take_succ_cons, List.drop_succ_cons, List.drop_zero, List.drop_nil, List.length_cons, List.length_nil, Nat.reduceAdd, Nat.zero_add, List.nil_append, List.cons_append, List.append_nil] at S)) | (refine wpList_b2sB S ?_) | (refine wpList_b2sR S ?_) | (refine wpList_ldc S ?_))
  refine ret_of (results_c S) ?_
  refine hR.out _ _ ?_
  rw [hst.out]
  exact tDoEnd_bare rfl rfl rfl (TapeSt.drop (L := [_, _, _]) ⟨_, _, S⟩)
set_option maxHeartbeats 1600000 in
theorem tDo10 (tp : Nat) (t : Ta) (xs : List UInt8) (n c : Nat) (oa : Option Addr) (off len : Int) (F : List Res) (w0 : World) (bs : List Nat) (w : World) (hS : TapeSt w0 bs w tp t F)
    (ht : Mild t) (hs : Seen w0 bs F (.slice oa n c) n xs) (hn : n ≤ 1048576) (hl : 0 ≤ len ∧ len ≤ 1048576) (ho : -1152921504606846976 ≤ off ∧ off ≤ 1152921504606846976) (h8 : 10 = 8 → 0 ≤ off) :
    Calls Tryd.prog 14 #[.pointer (some ⟨tp, 0, none⟩), .agg #[.int .i64 10, .slice oa n c, .int .i64 off, .int .i64 len]] w (TDoEnd w0 bs tp F (t.step ⟨10, xs, off, len⟩)) := by
  have hpl := (hs w hS.mem.1 hS.mem.2).len8
  obtain ⟨vb, vk, S⟩ := hS
  have hst := hidden (Ta.step10 t xs off len)
  obtain ⟨ln, rfl⟩ : ∃ ln : Nat, len = ln := ⟨len.toNat, by omega⟩
  replace ht := hidden ht
  replace hs := hidden hs
  replace hpl := hidden hpl
  refine Calls.cps ?_; intro R hR
  go_enter Tryd.func14, Tryd.ntmps14
  go_wp2_with (first | go_big_skip | ((with_reducible show Code.wp _ (Code.region _ _ true) _ _ _); refine St.regionLast S ?_; (repeat (first | (go_big_quiet_step (fail)) | (go_big_quiet_want; (first | refine quiet_ld S ?_ | refine quiet_ld8 S ?_ | refine quiet_ld0 ?_ | refine quiet_ldA S ?_ | refine quiet_b2sB S ?_ | refine quiet_b2sR S ?_ | refine quiet_ldc S ?_); go_big_quiet_on))); refine wpQuiet_nil ?_; clear S; intro wq S) | go_big_skip | (refine wpList_ld S ?_) | (refine wpList_ld8 S ?_) | (refine wpList_ld0 ?_) | (refine wpList_ldA S ?_) | (refine wpList_st8 S ?_; (clear S; intro ws S)) | (refine wpList_st S ?_; (clear S; intro ws S)) | (refine wpList_box S ?_; (clear S; intro nb wb hnb S)) | (refine wpList_alloc S ?_; (clear S; intro nb wb hnb S)) | (refine wpList_mk8 S ?_; (clear S; intro nb wb hnb S)) | (refine wpList_mk S ?_; (clear S; intro nb wb hnb S)) | (refine wpList_bs S ?_; (clear S; intro nb wb hnb S)) | (refine wpList_stA S ?_; (clear S; intro ws S; simp only [splice, List.take_zero, List.take_succ_cons, List.drop_succ_cons, List.drop_zero, List.drop_nil, List.length_cons, List.length_nil, Nat.reduceAdd, Nat.zero_add, List.nil_append, List.cons_append, List.append_nil] at S)) | (refine wpList_b2sB S ?_) | (refine wpList_b2sR S ?_) | (refine wpList_ldc S ?_))
  refine ret_of (results_c S) ?_
  refine hR.out _ _ ?_
  rw [hst.out]
  exact tDoEnd_bare rfl rfl rfl (TapeSt.drop (L := [_, _, _]) (St.toTape (L := [_, _, _]) S))
end Go.Proofs.YtbklhnpnkinadaaDoor
end
section
namespace Go.Proofs.YtbklhnpnkinadaaDoor
open Go Go.RowKit Go.Vil
set_option linter.unusedSimpArgs false
set_option linter.unusedVariables false
set_option maxRecDepth 100000

set_option maxHeartbeats 1600000 in
theorem tDo8 (tp : Nat) (t : Ta) (xs : List UInt8) (n c : Nat) (oa : Option Addr) (off len : Int) (F : List Res) (w0 : World) (bs : List Nat) (w : World) (hS : TapeSt w0 bs w tp t F)
    (ht : Mild t) (hs : Seen w0 bs F (.slice oa n c) n xs) (hn : n ≤ 1048576) (hl : 0 ≤ len ∧ len ≤ 1048576) (ho : -1152921504606846976 ≤ off ∧ off ≤ 1152921504606846976) (h8 : 8 = 8 → 0 ≤ off) :
    Calls Tryd.prog 14 #[.pointer (some ⟨tp, 0, none⟩), .agg #[.int .i64 8, .slice oa n c, .int .i64 off, .int .i64 len]] w (TDoEnd w0 bs tp F (t.step ⟨8, xs, off, len⟩)) := by
  have hpl := (hs w hS.mem.1 hS.mem.2).len8
  obtain ⟨vb, vk, S⟩ := hS
  have hst := hidden (Ta.step8 t xs off len)
  obtain ⟨ln, rfl⟩ : ∃ ln : Nat, len = ln := ⟨len.toNat, by omega⟩
  replace ht := hidden ht
  replace hs := hidden hs
  replace hpl := hidden hpl
  refine Calls.cps ?_; intro R hR
  go_enter Tryd.func14, Tryd.ntmps14
  obtain ⟨on, rfl⟩ : ∃ on : Nat, off = on := ⟨off.toNat, by have := h8 rfl; omega⟩
  rw [Int.toNat_natCast] at hst
  go_wp2_with (first | go_big_skip | ((with_reducible show Code.wp _ (Code.region _ _ true) _ _ _); refine St.regionLast S ?_; (repeat (first | (go_big_quiet_step (fail)) | (go_big_quiet_want; (first | refine quiet_ld S ?_ | refine quiet_ld8 S ?_ | refine quiet_ld0 ?_ | refine quiet_ldA S ?_ | refine quiet_b2sB S ?_ | refine quiet_b2sR S ?_ | refine quiet_ldc S ?_); go_big_quiet_on))); refine wpQuiet_nil ?_; clear S; intro wq S) | go_big_skip | (refine wpList_ld S ?_) | (refine wpList_ld8 S ?_) | (refine wpList_ld0 ?_) | (refine wpList_ldA S ?_) | (refine wpList_st8 S ?_; (clear S; intro ws S)) | (refine wpList_st S ?_; (clear S; intro ws S)) | (refine wpList_box S ?_; (clear S; intro nb wb hnb S)) | (refine wpList_alloc S ?_; (clear S; intro nb wb hnb S)) | (refine wpList_mk8 S ?_; (clear S; intro nb wb hnb S)) | (refine wpList_mk S ?_; (clear S; intro nb wb hnb S)) | (refine wpList_bs S ?_; (clear S; intro nb wb hnb S)) | (refine wpList_stA S ?_; (clear S; intro ws S; simp only [splice, List.take_zero, List.take_succ_cons, List.drop_succ_cons, List.drop_zero, List.drop_nil, List.length_cons, List.length_nil, Nat.reduceAdd, Nat.zero_add, List.nil_append, List.cons_append, List.append_nil] at S)) | (refine wpList_b2sB S ?_) | (refine wpList_b2sR S ?_) | (refine wpList_ldc S ?_))
  refine Calls.mono (newTape t.size on _) ?_
  rintro e w2 ⟨tq, rfl, C⟩
  have S2 := S.call C; clear S C; simp only [List.cons_append, List.nil_append] at S2; have S := S2; clear S2
  go_wp2_with (first | go_big_skip | ((with_reducible show Code.wp _ (Code.region _ _ true) _ _ _); refine St.regionLast S ?_; (repeat (first | (go_big_quiet_step (fail)) | (go_big_quiet_want; (first | refine quiet_ld S ?_ | refine quiet_ld8 S ?_ | refine quiet_ld0 ?_ | refine quiet_ldA S ?_ | refine quiet_b2sB S ?_ | refine quiet_b2sR S ?_ | refine quiet_ldc S ?_); go_big_quiet_on))); refine wpQuiet_nil ?_; clear S; intro wq S) | go_big_skip | (refine wpList_ld S ?_) | (refine wpList_ld8 S ?_) | (refine wpList_ld0 ?_) | (refine wpList_ldA S ?_) | (refine wpList_st8 S ?_; (clear S; intro ws S)) | (refine wpList_st S ?_; (clear S; intro ws S)) | (refine wpList_box S ?_; (clear S; intro nb wb hnb S)) | (refine wpList_alloc S ?_; (clear S; intro nb wb hnb S)) | (refine wpList_mk8 S ?_; (clear S; intro nb wb hnb S)) | (refine wpList_mk S ?_; (clear S; intro nb wb hnb S)) | (refine wpList_bs S ?_; (clear S; intro nb wb hnb S)) | (refine wpList_stA S ?_; (clear S; intro ws S; simp only [splice, List.take_zero, List.take_succ_cons, List.drop_succ_cons, List.drop_zero, List.drop_nil, List.length_cons, List.length_nil, Nat.reduceAdd, Nat.zero_add, List.nil_append, List.cons_append, List.append_nil] at S)) | (refine wpList_b2sB S ?_) | (refine wpList_b2sR S ?_) | (refine wpList_ldc S ?_))
  refine ret_of (results_c S) ?_
  refine hR.out _ _ ?_
  rw [hst.out]
  refine tDoEnd_bare rfl rfl rfl ?_
  have S2 : St w0 bs _ (tHead tp t.size on on on (.slice none 0 0) (.slice none 0 0) :: F) := (S.selT (by repeat (first | (apply SelT.nil; (repeat (first | exact Suf.refl | apply Suf.cons)); done) | (apply SelT.cons; (repeat (first | exact Pull.head | apply Pull.tail))))))
  have S3 := (S2.nilRow 4 1).nilRow 5 1
  exact ⟨.slice none 0 0, .slice none 0 0, S3.perm (List.perm_append_comm_assoc [_, _] [_] F)⟩
end Go.Proofs.YtbklhnpnkinadaaDoor
end
section
namespace Go.Proofs.YtbklhnpnkinadaaDoor
open Go Go.RowKit Go.Vil
set_option linter.unusedSimpArgs false
set_option linter.unusedVariables false
set_option maxRecDepth 100000

set_option maxHeartbeats 1600000 in
theorem tDo3 (tp : Nat) (t : Ta) (xs : List UInt8) (n c : Nat) (oa : Option Addr) (off len : Int) (F : List Res) (w0 : World) (bs : List Nat) (w : World) (hS : TapeSt w0 bs w tp t F)
    (ht : Mild t) (hs : Seen w0 bs F (.slice oa n c) n xs) (hn : n ≤ 1048576) (hl : 0 ≤ len ∧ len ≤ 1048576) (ho : -1152921504606846976 ≤ off ∧ off ≤ 1152921504606846976) (h8 : 3 = 8 → 0 ≤ off) :
    Calls Tryd.prog 14 #[.pointer (some ⟨tp, 0, none⟩), .agg #[.int .i64 3, .slice oa n c, .int .i64 off, .int .i64 len]] w (TDoEnd w0 bs tp F (t.step ⟨3, xs, off, len⟩)) := by
  have hpl := (hs w hS.mem.1 hS.mem.2).len8
  obtain ⟨vb, vk, S⟩ := hS
  have hst := hidden (Ta.step3 t xs off len)
  obtain ⟨ln, rfl⟩ : ∃ ln : Nat, len = ln := ⟨len.toNat, by omega⟩
  replace ht := hidden ht
  replace hs := hidden hs
  replace hpl := hidden hpl
  refine Calls.cps ?_; intro R hR
  go_enter Tryd.func14, Tryd.ntmps14
  go_wp2_with (first | go_big_skip | ((with_reducible show Code.wp _ (Code.region _ _ true) _ _ _); refine St.regionLast S ?_; (repeat (first | (go_big_quiet_step (fail)) | (go_big_quiet_want; (first | refine quiet_ld S ?_ | refine quiet_ld8 S ?_ | refine quiet_ld0 ?_ | refine quiet_ldA S ?_ | refine quiet_b2sB S ?_ | refine quiet_b2sR S ?_ | refine quiet_ldc S ?_); go_big_quiet_on))); refine wpQuiet_nil ?_; clear S; intro wq S) | go_big_skip | (refine wpList_ld S ?_) | (refine wpList_ld8 S ?_) | (refine wpList_ld0 ?_) | (refine wpList_ldA S ?_) | (refine wpList_st8 S ?_; (clear S; intro ws S)) | (refine wpList_st S ?_; (clear S; intro ws S)) | (refine wpList_box S ?_; (clear S; intro nb wb hnb S)) | (refine wpList_alloc S ?_; (clear S; intro nb wb hnb S)) | (refine wpList_mk8 S ?_; (clear S; intro nb wb hnb S)) | (refine wpList_mk S ?_; (clear S; intro nb wb hnb S)) | (refine wpList_bs S ?_; (clear S; intro nb wb hnb S)) | (refine wpList_stA S ?_; (clear S; intro ws S; simp only [splice, List.take_zero, List.take_succ_cons, List.drop_succ_cons, List.drop_zero, List.drop_nil, List.length_cons, List.length_nil, Nat.reduceAdd, Nat.zero_add, List.nil_append, List.cons_append, List.append_nil] at S)) | (refine wpList_b2sB S ?_) | (refine wpList_b2sR S ?_) | (refine wpList_ldc S ?_))
  have hee := ht.out.e
  refine Calls.mono (tapeThere tp t.size t.b t.e t.o _ _ off ln _ S.sel1 (by omega) ho) ?_
  rintro e w2 ⟨rfl, C⟩
  have S2 := S.call C; clear S C; simp only [List.cons_append, List.nil_append] at S2; have S := S2; clear S2
  have hbt := hidden (show decide ((t.b : Int) ≤ off ∧ off ≤ (t.e : Int) ∧ (ln : Int) ≤ t.e - off) = t.there off ln from rfl)
  rw [hbt.out]
  cases h0 : t.there off ln with
  | false =>
    rw [h0] at hst
    go_wp2_with (first | go_big_skip | ((with_reducible show Code.wp _ (Code.region _ _ true) _ _ _); refine St.regionLast S ?_; (repeat (first | (go_big_quiet_step (fail)) | (go_big_quiet_want; (first | refine quiet_ld S ?_ | refine quiet_ld8 S ?_ | refine quiet_ld0 ?_ | refine quiet_ldA S ?_ | refine quiet_b2sB S ?_ | refine quiet_b2sR S ?_ | refine quiet_ldc S ?_); go_big_quiet_on))); refine wpQuiet_nil ?_; clear S; intro wq S) | go_big_skip | (refine wpList_ld S ?_) | (refine wpList_ld8 S ?_) | (refine wpList_ld0 ?_) | (refine wpList_ldA S ?_) | (refine wpList_st8 S ?_; (clear S; intro ws S)) | (refine wpList_st S ?_; (clear S; intro ws S)) | (refine wpList_box S ?_; (clear S; intro nb wb hnb S)) | (refine wpList_alloc S ?_; (clear S; intro nb wb hnb S)) | (refine wpList_mk8 S ?_; (clear S; intro nb wb hnb S)) | (refine wpList_mk S ?_; (clear S; intro nb wb hnb S)) | (refine wpList_bs S ?_; (clear S; intro nb wb hnb S)) | (refine wpList_stA S ?_; (clear S; intro ws S; simp only [splice, List.take_zero, List.take_succ_cons, List.drop_succ_cons, List.drop_zero, List.drop_nil, List.length_cons, List.length_nil, Nat.reduceAdd, Nat.zero_add, List.nil_append, List.cons_append, List.append_nil] at S)) | (refine wpList_b2sB S ?_) | (refine wpList_b2sR S ?_) | (refine wpList_ldc S ?_))
    refine ret_of (results_c S) ?_
    refine hR.out _ _ ?_
    rw [hst.out]
    have S2 : St w0 bs _ (tHead tp t.size t.b t.e t.o vb vk :: .row 5 1 vb t.bytes.length (u8s t.bytes) :: .row 4 1 vk t.known.length (bls t.known) :: F) := (S.selT (by repeat (first | (apply SelT.nil; (repeat (first | exact Suf.refl | apply Suf.cons)); done) | (apply SelT.cons; (repeat (first | exact Pull.head | apply Pull.tail))))))
    exact tDoEnd_bare rfl rfl rfl ⟨_, _, S2⟩
  | true =>
    rw [h0] at hst
    have hzz : (t.b : Int) ≤ off ∧ off ≤ (t.e : Int) ∧ (ln : Int) ≤ t.e - off := of_decide_eq_true h0
    obtain ⟨hz1, hz2, hz3⟩ := hzz
    go_wp2_with (first | go_big_skip | ((with_reducible show Code.wp _ (Code.region _ _ true) _ _ _); refine St.regionLast S ?_; (repeat (first | (go_big_quiet_step (fail)) | (go_big_quiet_want; (first | refine quiet_ld S ?_ | refine quiet_ld8 S ?_ | refine quiet_ld0 ?_ | refine quiet_ldA S ?_ | refine quiet_b2sB S ?_ | refine quiet_b2sR S ?_ | refine quiet_ldc S ?_); go_big_quiet_on))); refine wpQuiet_nil ?_; clear S; intro wq S) | go_big_skip | (refine wpList_ld S ?_) | (refine wpList_ld8 S ?_) | (refine wpList_ld0 ?_) | (refine wpList_ldA S ?_) | (refine wpList_st8 S ?_; (clear S; intro ws S)) | (refine wpList_st S ?_; (clear S; intro ws S)) | (refine wpList_box S ?_; (clear S; intro nb wb hnb S)) | (refine wpList_alloc S ?_; (clear S; intro nb wb hnb S)) | (refine wpList_mk8 S ?_; (clear S; intro nb wb hnb S)) | (refine wpList_mk S ?_; (clear S; intro nb wb hnb S)) | (refine wpList_bs S ?_; (clear S; intro nb wb hnb S)) | (refine wpList_stA S ?_; (clear S; intro ws S; simp only [splice, List.take_zero, List.take_succ_cons, List.drop_succ_cons, List.drop_zero, List.drop_nil, List.length_cons, List.length_nil, Nat.reduceAdd, Nat.zero_add, List.nil_append, List.cons_append, List.append_nil] at S)) | (refine wpList_b2sB S ?_) | (refine wpList_b2sR S ?_) | (refine wpList_ldc S ?_))
    refine Calls.mono (tapeRead tp t vb vk off ln _ w0 bs _ (S.perm (.cons _ (List.perm_append_comm_assoc [_, _, _] [_, _] F))) ht.out hz1 hz2 (by omega)) ?_
    rintro e w2 ⟨v1, v2, c1, c2, rfl, hm1, hm2, hb, hkk, S2⟩
    clear S
    have S := S2
    clear S2
    simp only [List.cons_append, List.nil_append] at S
    have e1 : t.readN off ln = min ln ((t.e : Int) - off).toNat := by unfold Ta.readN; rw [Int.toNat_natCast]
    have e2 : t.readB off ln = (t.bytes.drop (off - t.o).toNat).take (min ln ((t.e : Int) - off).toNat) := by unfold Ta.readB; rw [e1]
    have e3 : t.readK off ln = (t.known.drop (off - t.o).toNat).take (min ln ((t.e : Int) - off).toNat) := by unfold Ta.readK; rw [e1]
    rw [e2, e3] at hst
    clear e1 e2 e3
    have hrn : min ln ((t.e : Int) - off).toNat ≤ 1048576 := by omega
    generalize min ln ((t.e : Int) - off).toNat = rn at *
    have hl1 := (hb _ (S.mem.2 _ (Pull.mem (r := .row 5 1 vb t.bytes.length (u8s t.bytes)) (by repeat (first | exact Pull.head | apply Pull.tail))))).len8
    have hl2 : ((t.known.drop (off - t.o).toNat).take rn).length = rn := by simpa using (hkk _ (S.mem.2 _ (Pull.mem (r := .row 4 1 vk t.known.length (bls t.known)) (by repeat (first | exact Pull.head | apply Pull.tail))))).1
    generalize (t.bytes.drop (off - t.o).toNat).take rn = pb at *
    generalize (t.known.drop (off - t.o).toNat).take rn = pk at *
    replace hb := hidden hb
    replace hkk := hidden hkk
    replace hl1 := hidden hl1
    replace hl2 := hidden hl2
    go_wp2_with (first | go_big_skip | (refine wpList_bs0 S ?_; (clear S; intro nb wb hnb S)) | (refine wpList_app S (hb.out _ (S.mem.2 _ (Pull.mem (r := .row 5 1 vb t.bytes.length (u8s t.bytes)) (by repeat (first | exact Pull.head | apply Pull.tail))))) ?_ (h63 := by unfold maxLen; omega) (hb := by omega); (clear S; intro va wa hva S; obtain ⟨a3, c3, rfl, hc3, hc4⟩ := S.rowSlice (hp := Pull.head); clear hva)) | (refine wpList_app S (hkk.out _ (S.mem.2 _ (Pull.mem (r := .row 4 1 vk t.known.length (bls t.known)) (by repeat (first | exact Pull.head | apply Pull.tail))))) ?_ (h63 := by unfold maxLen; omega) (hb := by omega); (clear S; intro va wa hva S; obtain ⟨a4, c4, rfl, hc5, hc6⟩ := S.rowSlice (hp := Pull.head); clear hva)) | ((with_reducible show Code.wp _ (Code.region _ _ true) _ _ _); refine St.regionLast S ?_; (repeat (first | (go_big_quiet_step (fail)) | (go_big_quiet_want; (first | refine quiet_ld S ?_ | refine quiet_ld8 S ?_ | refine quiet_ld0 ?_ | refine quiet_ldA S ?_ | refine quiet_b2sB S ?_ | refine quiet_b2sR S ?_ | refine quiet_ldc S ?_); go_big_quiet_on))); refine wpQuiet_nil ?_; clear S; intro wq S) | go_big_skip | (refine wpList_ld S ?_) | (refine wpList_ld8 S ?_) | (refine wpList_ld0 ?_) | (refine wpList_ldA S ?_) | (refine wpList_st8 S ?_; (clear S; intro ws S)) | (refine wpList_st S ?_; (clear S; intro ws S)) | (refine wpList_box S ?_; (clear S; intro nb wb hnb S)) | (refine wpList_alloc S ?_; (clear S; intro nb wb hnb S)) | (refine wpList_mk8 S ?_; (clear S; intro nb wb hnb S)) | (refine wpList_mk S ?_; (clear S; intro nb wb hnb S)) | (refine wpList_bs S ?_; (clear S; intro nb wb hnb S)) | (refine wpList_stA S ?_; (clear S; intro ws S; simp only [splice, List.take_zero, List.take_succ_cons, List.drop_succ_cons, List.drop_zero, List.drop_nil, List.length_cons, List.length_nil, Nat.reduceAdd, Nat.zero_add, List.nil_append, List.cons_append, List.append_nil] at S)) | (refine wpList_b2sB S ?_) | (refine wpList_b2sR S ?_) | (refine wpList_ldc S ?_))
    refine ret_of (results_c S) ?_
    refine hR.out _ _ ?_
    rw [hst.out]
    refine ⟨_, _, rfl, vb, vk, ?_⟩
    show St w0 bs _ (tHead tp t.size t.b t.e t.o vb vk :: .row 5 1 vb t.bytes.length (u8s t.bytes) :: .row 4 1 vk t.known.length (bls t.known) :: .row 5 1 _ pb.length (u8s pb) :: .row 4 1 _ pk.length (bls pk) :: F)
    rw [hl1.out, hl2.out]
    exact (S.selT (by repeat (first | (apply SelT.nil; (repeat (first | exact Suf.refl | apply Suf.cons)); done) | (apply SelT.cons; (repeat (first | exact Pull.head | apply Pull.tail))))))
end Go.Proofs.YtbklhnpnkinadaaDoor
end
section
namespace Go.Proofs.YtbklhnpnkinadaaDoor
open Go Go.RowKit Go.Vil
set_option linter.unusedSimpArgs false
set_option linter.unusedVariables false
set_option maxRecDepth 100000

set_option maxHeartbeats 800000 in
theorem tapeRead0 (tp : Nat) (size b e o : Int) (vb vk : Value) (z n : Int) (w : World) (hM : Mem w [tHead tp size b e o vb vk])
    (he : 0 ≤ e ∧ e ≤ 1152921504606846976) (ho : -1152921504606846976 ≤ z ∧ z ≤ 1152921504606846976) (h : decide (b ≤ z ∧ z ≤ e ∧ (0 : Int) ≤ e - z) = false) :
    Calls Tryd.prog 21 #[.pointer (some ⟨tp, 0, none⟩), .int .i64 z, .int .i64 n] w fun e' w' => e' = .returned (.tuple #[.slice none 0 0, .slice none 0 0, .bool false]) ∧ St w [tp] w' [tHead tp size b e o vb vk] := by
  have S : St w [tp] w [tHead tp size b e o vb vk] := St.start hM
  clear hM
  replace h := hidden h
  refine Calls.cps ?_; intro R hR
  go_enter Tryd.func21, Tryd.ntmps21
  go_wp2_with (first | go_big_skip | ((with_reducible show Code.wp _ (Code.region _ _ true) _ _ _); refine St.regionLast S ?_; (repeat (first | (go_big_quiet_step (fail)) | (go_big_quiet_want; (first | refine quiet_ld S ?_ | refine quiet_ld8 S ?_ | refine quiet_ld0 ?_ | refine quiet_ldA S ?_ | refine quiet_b2sB S ?_ | refine quiet_b2sR S ?_ | refine quiet_ldc S ?_); go_big_quiet_on))); refine wpQuiet_nil ?_; clear S; intro wq S) | go_big_skip | (refine wpList_ld S ?_) | (refine wpList_ld8 S ?_) | (refine wpList_ld0 ?_) | (refine wpList_ldA S ?_) | (refine wpList_st8 S ?_; (clear S; intro ws S)) | (refine wpList_st S ?_; (clear S; intro ws S)) | (refine wpList_box S ?_; (clear S; intro nb wb hnb S)) | (refine wpList_alloc S ?_; (clear S; intro nb wb hnb S)) | (refine wpList_mk8 S ?_; (clear S; intro nb wb hnb S)) | (refine wpList_mk S ?_; (clear S; intro nb wb hnb S)) | (refine wpList_bs S ?_; (clear S; intro nb wb hnb S)) | (refine wpList_stA S ?_; (clear S; intro ws S; simp only [splice, List.take_zero, List.take_succ_cons, List.drop_succ_cons, List.drop_zero, List.drop_nil, List.length_cons, List.length_nil, Nat.reduceAdd, Nat.zero_add, List.nil_append, List.cons_append, List.append_nil] at S)) | (refine wpList_b2sB S ?_) | (refine wpList_b2sR S ?_) | (refine wpList_ldc S ?_))
  refine Calls.mono (tapeThere tp size b e o vb vk z 0 _ S.sel1 he ho) ?_
  rintro e' w2 ⟨rfl, C⟩
  have S2 := S.call C; clear S C; simp only [List.cons_append, List.nil_append] at S2; have S := S2; clear S2
  rw [h.out]
  go_wp2_with (first | go_big_skip | ((with_reducible show Code.wp _ (Code.region _ _ true) _ _ _); refine St.regionLast S ?_; (repeat (first | (go_big_quiet_step (fail)) | (go_big_quiet_want; (first | refine quiet_ld S ?_ | refine quiet_ld8 S ?_ | refine quiet_ld0 ?_ | refine quiet_ldA S ?_ | refine quiet_b2sB S ?_ | refine quiet_b2sR S ?_ | refine quiet_ldc S ?_); go_big_quiet_on))); refine wpQuiet_nil ?_; clear S; intro wq S) | go_big_skip | (refine wpList_ld S ?_) | (refine wpList_ld8 S ?_) | (refine wpList_ld0 ?_) | (refine wpList_ldA S ?_) | (refine wpList_st8 S ?_; (clear S; intro ws S)) | (refine wpList_st S ?_; (clear S; intro ws S)) | (refine wpList_box S ?_; (clear S; intro nb wb hnb S)) | (refine wpList_alloc S ?_; (clear S; intro nb wb hnb S)) | (refine wpList_mk8 S ?_; (clear S; intro nb wb hnb S)) | (refine wpList_mk S ?_; (clear S; intro nb wb hnb S)) | (refine wpList_bs S ?_; (clear S; intro nb wb hnb S)) | (refine wpList_stA S ?_; (clear S; intro ws S; simp only [splice, List.take_zero, List.take_succ_cons, List.drop_succ_cons, List.drop_zero, List.drop_nil, List.length_cons, List.length_nil, Nat.reduceAdd, Nat.zero_add, List.nil_append, List.cons_append, List.append_nil] at S)) | (refine wpList_b2sB S ?_) | (refine wpList_b2sR S ?_) | (refine wpList_ldc S ?_))
  ((first | go_ret | go_ret2 | go_ret3 | go_end0 | skip); refine hR.out _ _ ?_)
  exact ⟨rfl, S⟩
set_option maxHeartbeats 1600000 in
theorem tDo1 (tp : Nat) (t : Ta) (xs : List UInt8) (n c : Nat) (oa : Option Addr) (off len : Int) (F : List Res) (w0 : World) (bs : List Nat) (w : World) (hS : TapeSt w0 bs w tp t F)
    (ht : Mild t) (hs : Seen w0 bs F (.slice oa n c) n xs) (hn : n ≤ 1048576) (hl : 0 ≤ len ∧ len ≤ 1048576) (ho : -1152921504606846976 ≤ off ∧ off ≤ 1152921504606846976) (h8 : 1 = 8 → 0 ≤ off) :
    Calls Tryd.prog 14 #[.pointer (some ⟨tp, 0, none⟩), .agg #[.int .i64 1, .slice oa n c, .int .i64 off, .int .i64 len]] w (TDoEnd w0 bs tp F (t.step ⟨1, xs, off, len⟩)) := by
  have hpl := (hs w hS.mem.1 hS.mem.2).len8
  obtain ⟨vb, vk, S⟩ := hS
  have hst := hidden (Ta.step1 t xs off len)
  obtain ⟨ln, rfl⟩ : ∃ ln : Nat, len = ln := ⟨len.toNat, by omega⟩
  replace ht := hidden ht
  replace hs := hidden hs
  replace hpl := hidden hpl
  refine Calls.cps ?_; intro R hR
  go_enter Tryd.func14, Tryd.ntmps14
  go_wp2_with (first | go_big_skip | ((with_reducible show Code.wp _ (Code.region _ _ true) _ _ _); refine St.regionLast S ?_; (repeat (first | (go_big_quiet_step (fail)) | (go_big_quiet_want; (first | refine quiet_ld S ?_ | refine quiet_ld8 S ?_ | refine quiet_ld0 ?_ | refine quiet_ldA S ?_ | refine quiet_b2sB S ?_ | refine quiet_b2sR S ?_ | refine quiet_ldc S ?_); go_big_quiet_on))); refine wpQuiet_nil ?_; clear S; intro wq S) | go_big_skip | (refine wpList_ld S ?_) | (refine wpList_ld8 S ?_) | (refine wpList_ld0 ?_) | (refine wpList_ldA S ?_) | (refine wpList_st8 S ?_; (clear S; intro ws S)) | (refine wpList_st S ?_; (clear S; intro ws S)) | (refine wpList_box S ?_; (clear S; intro nb wb hnb S)) | (refine wpList_alloc S ?_; (clear S; intro nb wb hnb S)) | (refine wpList_mk8 S ?_; (clear S; intro nb wb hnb S)) | (refine wpList_mk S ?_; (clear S; intro nb wb hnb S)) | (refine wpList_bs S ?_; (clear S; intro nb wb hnb S)) | (refine wpList_stA S ?_; (clear S; intro ws S; simp only [splice, List.take_zero, List.take_succ_cons, List.drop_succ_cons, List.drop_zero, List.drop_nil, List.length_cons, List.length_nil, Nat.reduceAdd, Nat.zero_add, List.nil_append, List.cons_append, List.append_nil] at S)) | (refine wpList_b2sB S ?_) | (refine wpList_b2sR S ?_) | (refine wpList_ldc S ?_))
  have hee := ht.out.e
  have hbt := hidden (show decide ((t.b : Int) ≤ off ∧ off ≤ (t.e : Int) ∧ (0 : Int) ≤ t.e - off) = t.there off 0 from rfl)
  cases h0 : t.there off 0 with
  | false =>
    rw [h0] at hst
    refine Calls.mono (tapeRead0 tp t.size t.b t.e t.o _ _ off ln _ S.sel1 (by omega) ho (hbt.out.trans h0)) ?_
    rintro e w2 ⟨rfl, C⟩
    have S2 := S.call C; clear S C; simp only [List.cons_append, List.nil_append] at S2; have S := S2; clear S2
    go_wp2_with (first | go_big_skip | ((with_reducible show Code.wp _ (Code.region _ _ true) _ _ _); refine St.regionLast S ?_; (repeat (first | (go_big_quiet_step (fail)) | (go_big_quiet_want; (first | refine quiet_ld S ?_ | refine quiet_ld8 S ?_ | refine quiet_ld0 ?_ | refine quiet_ldA S ?_ | refine quiet_b2sB S ?_ | refine quiet_b2sR S ?_ | refine quiet_ldc S ?_); go_big_quiet_on))); refine wpQuiet_nil ?_; clear S; intro wq S) | go_big_skip | (refine wpList_ld S ?_) | (refine wpList_ld8 S ?_) | (refine wpList_ld0 ?_) | (refine wpList_ldA S ?_) | (refine wpList_st8 S ?_; (clear S; intro ws S)) | (refine wpList_st S ?_; (clear S; intro ws S)) | (refine wpList_box S ?_; (clear S; intro nb wb hnb S)) | (refine wpList_alloc S ?_; (clear S; intro nb wb hnb S)) | (refine wpList_mk8 S ?_; (clear S; intro nb wb hnb S)) | (refine wpList_mk S ?_; (clear S; intro nb wb hnb S)) | (refine wpList_bs S ?_; (clear S; intro nb wb hnb S)) | (refine wpList_stA S ?_; (clear S; intro ws S; simp only [splice, List.take_zero, List.take_succ_cons, List.drop_succ_cons, List.drop_zero, List.drop_nil, List.length_cons, List.length_nil, Nat.reduceAdd, Nat.zero_add, List.nil_append, List.cons_append, List.append_nil] at S)) | (refine wpList_b2sB S ?_) | (refine wpList_b2sR S ?_) | (refine wpList_ldc S ?_))
    refine ret_of (results_c S) ?_
    refine hR.out _ _ ?_
    rw [hst.out]
    have S2 : St w0 bs _ (tHead tp t.size t.b t.e t.o vb vk :: .row 5 1 vb t.bytes.length (u8s t.bytes) :: .row 4 1 vk t.known.length (bls t.known) :: F) := (S.selT (by repeat (first | (apply SelT.nil; (repeat (first | exact Suf.refl | apply Suf.cons)); done) | (apply SelT.cons; (repeat (first | exact Pull.head | apply Pull.tail))))))
    exact tDoEnd_bare rfl rfl rfl ⟨_, _, S2⟩
  | true =>
    rw [h0] at hst
    have hzz : (t.b : Int) ≤ off ∧ off ≤ (t.e : Int) ∧ (0 : Int) ≤ t.e - off := of_decide_eq_true h0
    obtain ⟨hz1, hz2, hz3⟩ := hzz
    refine Calls.mono (tapeRead tp t vb vk off ln _ w0 bs _ (S.perm (List.perm_append_comm_assoc [_, _, _] [_, _, _] F)) ht.out hz1 hz2 (by omega)) ?_
    rintro e w2 ⟨v1, v2, c1, c2, rfl, hm1, hm2, hb, hkk, S2⟩
    clear S
    have S := S2
    clear S2
    simp only [List.cons_append, List.nil_append] at S
    have e1 : t.readN off ln = min ln ((t.e : Int) - off).toNat := by unfold Ta.readN; rw [Int.toNat_natCast]
    have e2 : t.readB off ln = (t.bytes.drop (off - t.o).toNat).take (min ln ((t.e : Int) - off).toNat) := by unfold Ta.readB; rw [e1]
    have e3 : t.readK off ln = (t.known.drop (off - t.o).toNat).take (min ln ((t.e : Int) - off).toNat) := by unfold Ta.readK; rw [e1]
    rw [e1, e2, e3] at hst
    clear e1 e2 e3
    have hrn : min ln ((t.e : Int) - off).toNat ≤ 1048576 := by omega
    generalize min ln ((t.e : Int) - off).toNat = rn at *
    have hl1 := (hb _ (S.mem.2 _ (Pull.mem (r := .row 5 1 vb t.bytes.length (u8s t.bytes)) (by repeat (first | exact Pull.head | apply Pull.tail))))).len8
    have hl2 : ((t.known.drop (off - t.o).toNat).take rn).length = rn := by simpa using (hkk _ (S.mem.2 _ (Pull.mem (r := .row 4 1 vk t.known.length (bls t.known)) (by repeat (first | exact Pull.head | apply Pull.tail))))).1
    generalize (t.bytes.drop (off - t.o).toNat).take rn = pb at *
    generalize (t.known.drop (off - t.o).toNat).take rn = pk at *
    replace hb := hidden hb
    replace hkk := hidden hkk
    replace hl1 := hidden hl1
    replace hl2 := hidden hl2
    by_cases c9 : rn < ln
    · have hst2 := hidden (hst.out.trans (by rw [if_pos rfl, if_pos (by omega)]))
      replace hst := hst2
      go_wp2_with (first | go_big_skip | (refine wpList_bs0 S ?_; (clear S; intro nb wb hnb S)) | (refine wpList_app S (hb.out _ (S.mem.2 _ (Pull.mem (r := .row 5 1 vb t.bytes.length (u8s t.bytes)) (by repeat (first | exact Pull.head | apply Pull.tail))))) ?_ (h63 := by unfold maxLen; omega) (hb := by omega); (clear S; intro va wa hva S; obtain ⟨a3, c3, rfl, hc3, hc4⟩ := S.rowSlice (hp := Pull.head); clear hva)) | (refine wpList_app S (hkk.out _ (S.mem.2 _ (Pull.mem (r := .row 4 1 vk t.known.length (bls t.known)) (by repeat (first | exact Pull.head | apply Pull.tail))))) ?_ (h63 := by unfold maxLen; omega) (hb := by omega); (clear S; intro va wa hva S; obtain ⟨a4, c4, rfl, hc5, hc6⟩ := S.rowSlice (hp := Pull.head); clear hva)) | ((with_reducible show Code.wp _ (Code.region _ _ true) _ _ _); refine St.regionLast S ?_; (repeat (first | (go_big_quiet_step (fail)) | (go_big_quiet_want; (first | refine quiet_ld S ?_ | refine quiet_ld8 S ?_ | refine quiet_ld0 ?_ | refine quiet_ldA S ?_ | refine quiet_b2sB S ?_ | refine quiet_b2sR S ?_ | refine quiet_ldc S ?_); go_big_quiet_on))); refine wpQuiet_nil ?_; clear S; intro wq S) | go_big_skip | (refine wpList_ld S ?_) | (refine wpList_ld8 S ?_) | (refine wpList_ld0 ?_) | (refine wpList_ldA S ?_) | (refine wpList_st8 S ?_; (clear S; intro ws S)) | (refine wpList_st S ?_; (clear S; intro ws S)) | (refine wpList_box S ?_; (clear S; intro nb wb hnb S)) | (refine wpList_alloc S ?_; (clear S; intro nb wb hnb S)) | (refine wpList_mk8 S ?_; (clear S; intro nb wb hnb S)) | (refine wpList_mk S ?_; (clear S; intro nb wb hnb S)) | (refine wpList_bs S ?_; (clear S; intro nb wb hnb S)) | (refine wpList_stA S ?_; (clear S; intro ws S; simp only [splice, List.take_zero, List.take_succ_cons, List.drop_succ_cons, List.drop_zero, List.drop_nil, List.length_cons, List.length_nil, Nat.reduceAdd, Nat.zero_add, List.nil_append, List.cons_append, List.append_nil] at S)) | (refine wpList_b2sB S ?_) | (refine wpList_b2sR S ?_) | (refine wpList_ldc S ?_))
      refine ret_of (results_c S) ?_
      refine hR.out _ _ ?_
      rw [hst.out]
      refine ⟨_, _, rfl, vb, vk, ?_⟩
      show St w0 bs _ (tHead tp t.size t.b t.e t.o vb vk :: .row 5 1 vb t.bytes.length (u8s t.bytes) :: .row 4 1 vk t.known.length (bls t.known) :: .row 5 1 _ pb.length (u8s pb) :: .row 4 1 _ pk.length (bls pk) :: F)
      rw [hl1.out, hl2.out]
      exact (S.selT (by repeat (first | (apply SelT.nil; (repeat (first | exact Suf.refl | apply Suf.cons)); done) | (apply SelT.cons; (repeat (first | exact Pull.head | apply Pull.tail))))))
    · have hst2 := hidden (hst.out.trans (by rw [if_pos rfl, if_neg (by omega)]))
      replace hst := hst2
      go_wp2_with (first | go_big_skip | (refine wpList_bs0 S ?_; (clear S; intro nb wb hnb S)) | (refine wpList_app S (hb.out _ (S.mem.2 _ (Pull.mem (r := .row 5 1 vb t.bytes.length (u8s t.bytes)) (by repeat (first | exact Pull.head | apply Pull.tail))))) ?_ (h63 := by unfold maxLen; omega) (hb := by omega); (clear S; intro va wa hva S; obtain ⟨a3, c3, rfl, hc3, hc4⟩ := S.rowSlice (hp := Pull.head); clear hva)) | (refine wpList_app S (hkk.out _ (S.mem.2 _ (Pull.mem (r := .row 4 1 vk t.known.length (bls t.known)) (by repeat (first | exact Pull.head | apply Pull.tail))))) ?_ (h63 := by unfold maxLen; omega) (hb := by omega); (clear S; intro va wa hva S; obtain ⟨a4, c4, rfl, hc5, hc6⟩ := S.rowSlice (hp := Pull.head); clear hva)) | ((with_reducible show Code.wp _ (Code.region _ _ true) _ _ _); refine St.regionLast S ?_; (repeat (first | (go_big_quiet_step (fail)) | (go_big_quiet_want; (first | refine quiet_ld S ?_ | refine quiet_ld8 S ?_ | refine quiet_ld0 ?_ | refine quiet_ldA S ?_ | refine quiet_b2sB S ?_ | refine quiet_b2sR S ?_ | refine quiet_ldc S ?_); go_big_quiet_on))); refine wpQuiet_nil ?_; clear S; intro wq S) | go_big_skip | (refine wpList_ld S ?_) | (refine wpList_ld8 S ?_) | (refine wpList_ld0 ?_) | (refine wpList_ldA S ?_) | (refine wpList_st8 S ?_; (clear S; intro ws S)) | (refine wpList_st S ?_; (clear S; intro ws S)) | (refine wpList_box S ?_; (clear S; intro nb wb hnb S)) | (refine wpList_alloc S ?_; (clear S; intro nb wb hnb S)) | (refine wpList_mk8 S ?_; (clear S; intro nb wb hnb S)) | (refine wpList_mk S ?_; (clear S; intro nb wb hnb S)) | (refine wpList_bs S ?_; (clear S; intro nb wb hnb S)) | (refine wpList_stA S ?_; (clear S; intro ws S; simp only [splice, List.take_zero, List.take_succ_cons, List.drop_succ_cons, List.drop_zero, List.drop_nil, List.length_cons, List.length_nil, Nat.reduceAdd, Nat.zero_add, List.nil_append, List.cons_append, List.append_nil] at S)) | (refine wpList_b2sB S ?_) | (refine wpList_b2sR S ?_) | (refine wpList_ldc S ?_))
      refine ret_of (results_c S) ?_
      refine hR.out _ _ ?_
      rw [hst.out]
      refine ⟨_, _, rfl, vb, vk, ?_⟩
      show St w0 bs _ (tHead tp t.size t.b t.e t.o vb vk :: .row 5 1 vb t.bytes.length (u8s t.bytes) :: .row 4 1 vk t.known.length (bls t.known) :: .row 5 1 _ pb.length (u8s pb) :: .row 4 1 _ pk.length (bls pk) :: F)
      rw [hl1.out, hl2.out]
      exact (S.selT (by repeat (first | (apply SelT.nil; (repeat (first | exact Suf.refl | apply Suf.cons)); done) | (apply SelT.cons; (repeat (first | exact Pull.head | apply Pull.tail))))))
end Go.Proofs.YtbklhnpnkinadaaDoor
end
section
namespace Go.Proofs.YtbklhnpnkinadaaDoor
open Go Go.RowKit Go.Vil
set_option linter.unusedSimpArgs false
set_option linter.unusedVariables false
set_option maxRecDepth 100000

theorem tapeDo (tp : Nat) (t : Ta) (op : Ri.ROp) (n c : Nat) (oa : Option Addr) (F : List Res) (w0 : World) (bs : List Nat) (w : World) (hS : TapeSt w0 bs w tp t F)
    (ht : Mild t) (hs : Seen w0 bs F (.slice oa n c) n op.data) (hn : n ≤ 1048576) (hl : 0 ≤ op.len ∧ op.len ≤ 1048576) (ho : -1152921504606846976 ≤ op.off ∧ op.off ≤ 1152921504606846976) (h8 : op.kind = 8 → 0 ≤ op.off) (hk : 0 ≤ op.kind ∧ op.kind ≤ 10 ∧ op.kind ≠ 9) :
    Calls Tryd.prog 14 #[.pointer (some ⟨tp, 0, none⟩), .agg #[.int .i64 op.kind, .slice oa n c, .int .i64 op.off, .int .i64 op.len]] w (TDoEnd w0 bs tp F (t.step op)) := by
  obtain ⟨k, xs, off, len⟩ := op
  simp only at *
  have hkk : k = 0 ∨ k = 1 ∨ k = 2 ∨ k = 3 ∨ k = 4 ∨ k = 5 ∨ k = 6 ∨ k = 7 ∨ k = 8 ∨ k = 10 := by omega
  clear hk
  rcases hkk with rfl | rfl | rfl | rfl | rfl | rfl | rfl | rfl | rfl | rfl
  · exact tDo0 tp t xs n c oa off len F w0 bs w hS ht hs hn hl ho (fun h => absurd h (by decide))
  · exact tDo1 tp t xs n c oa off len F w0 bs w hS ht hs hn hl ho (fun h => absurd h (by decide))
  · exact tDo2 tp t xs n c oa off len F w0 bs w hS ht hs hn hl ho (fun h => absurd h (by decide))
  · exact tDo3 tp t xs n c oa off len F w0 bs w hS ht hs hn hl ho (fun h => absurd h (by decide))
  · exact tDo4 tp t xs n c oa off len F w0 bs w hS ht hs hn hl ho (fun h => absurd h (by decide))
  · exact tDo5 tp t xs n c oa off len F w0 bs w hS ht hs hn hl ho (fun h => absurd h (by decide))
  · exact tDo6 tp t xs n c oa off len F w0 bs w hS ht hs hn hl ho (fun h => absurd h (by decide))
  · exact tDo7 tp t xs n c oa off len F w0 bs w hS ht hs hn hl ho (fun h => absurd h (by decide))
  · exact tDo8 tp t xs n c oa off len F w0 bs w hS ht hs hn hl ho (fun _ => h8 rfl)
  · exact tDo10 tp t xs n c oa off len F w0 bs w hS ht hs hn hl ho (fun h => absurd h (by decide))
theorem Mild.low {t : Ta} {k : Nat} (h : t.Low k) (hk : k ≤ 1000) : Mild t :=
  ⟨h.fine, by have := h.e; omega, by have := h.size; omega, by have := h.len; omega⟩
theorem tapeDoNear (tp : Nat) (t : Ta) (op : Ri.ROp) (n c : Nat) (oa : Option Addr) (F : List Res) (w0 : World) (bs : List Nat) (w : World) (hS : TapeSt w0 bs w tp t F) {k : Nat}
    (ht : t.Low k) (hk : k ≤ 1000) (hs : Seen w0 bs F (.slice oa n c) n op.data) (hn : t.Near op) :
    Calls Tryd.prog 14 #[.pointer (some ⟨tp, 0, none⟩), .agg #[.int .i64 op.kind, .slice oa n c, .int .i64 op.off, .int .i64 op.len]] w (TDoEnd w0 bs tp F (t.step op)) := by
  have h1 := (hs w hS.mem.1 hS.mem.2).len8
  have h2 := hn.data
  have h3 := hn.apt.len
  have h4 := hn.len
  have h5 := hn.off
  have h6 := ht.e
  exact tapeDo tp t op n c oa F w0 bs w hS (Mild.low ht hk) hs (by omega) (by omega) (by omega) hn.apt.off hn.apt.kind
end Go.Proofs.YtbklhnpnkinadaaDoor
end
