/- The ring buffer of the library: bytes written, bytes skipped. -/
import Derived.Test.YtbklhnpnkinadaaDoorRa
namespace Go.Proofs.YtbklhnpnkinadaaDoor
open Go Go.RowKit Go.Vil
set_option linter.unusedSimpArgs false
set_option linter.unusedVariables false
set_option maxRecDepth 100000

set_option maxHeartbeats 1600000 in
theorem ringWrite (q m : Nat) (T : TypeId) (r : Ri) (W sl p : List UInt8) (n c : Nat) (oa : Option Addr) (post : List Value) (w : World)
    (hM : Mem w (rMem q m T r sl post)) (h : Snug r W (r.data ++ sl).length) (hs : Src w 1 (.slice oa n c) n (u8s p)) (hd : Off oa [q, m] (u8s p)) (hc : n ≤ c) (hn : n ≤ r.data.length) :
    Calls Tryd.prog 47 #[.pointer (some ⟨q, 0, none⟩), .slice oa n c] w fun e w' =>
      e = .returned (.tuple #[.int .i64 n, .nilIface]) ∧ St w [q, m] w' (rMem q m T (r.puts p) sl post) := by
  have S : St w [q, m] w [rHead q m T r.b r.e r.data.length (r.data ++ sl).length r.ix post, rBlk m r.data sl] := St.start hM
  clear hM
  obtain ⟨hh, h2, h3, h4⟩ := h
  have hpn := hs.len8
  have h5 := hh.le
  have h7 := hh.fit
  have h8 := hh.ix
  have hsz : r.size = r.data.length := rfl
  have hle : r.len = r.e - r.b := rfl
  have o1 := Ri.puts_b p r (by omega)
  have o2 := Ri.puts_e p r
  have o4 : (r.puts p).data.length = r.data.length := Ri.puts_size p r
  rw [hsz] at o1
  have hres : rMem q m T (r.puts p) sl post = [rHead q m T (max r.b (r.e + n - r.data.length) : Nat) (r.e + n : Nat) r.data.length (r.data ++ sl).length (r.puts p).ix post, rBlk m (r.puts p).data sl] := by
    unfold rMem rHead
    rw [o1, o2, List.length_append, o4, List.length_append, hpn]
  have hsteps := @Ri.puts_step r p
  have hixs : ∀ j, (r.puts (p.take j)).ix < r.data.length := fun j => by
    have := Ri.puts_ix (p.take j) (r := r) h8
    have e := Ri.puts_size (p.take j) r
    omega
  have hdl : ∀ j, (r.puts (p.take j)).data.length = r.data.length := fun j => Ri.puts_size (p.take j) r
  have hlast : p.take n = p := List.take_of_length_le (by omega)
  rw [hsz] at h7 h8 hsteps
  have hb0 : decide (r.data.length < n) = false := decide_eq_false (by omega)
  have hcl : (r.data ++ sl).length = r.data.length + sl.length := List.length_append
  rw [hres]
  generalize hC : (r.data ++ sl).length = C at *
  replace hcl := hidden hcl
  replace hh := hidden hh
  replace hs := hidden hs
  replace hpn := hidden hpn
  replace hsteps := hidden hsteps
  replace hixs := hidden hixs
  replace hdl := hidden hdl
  replace hlast := hidden hlast
  have hlen : r.e - r.b ≤ r.data.length := by omega
  clear hle hsz o1 o2 o4 hres
  refine Calls.cps ?_; intro R hR
  go_enter Tryd.func47, Tryd.ntmps47
  go_wp2_with (first | go_big_skip | ((with_reducible show Code.wp _ (Code.region _ _ true) _ _ _); refine St.regionLast S ?_; (repeat (first | (go_big_quiet_step (fail)) | (go_big_quiet_want; (first | refine quiet_ld S ?_ | refine quiet_ld8 S ?_ | refine quiet_ld0 ?_ | refine quiet_ldA S ?_ | refine quiet_b2sB S ?_ | refine quiet_b2sR S ?_ | refine quiet_ldc S ?_); go_big_quiet_on))); refine wpQuiet_nil ?_; clear S; intro wq S) | go_big_skip | (refine wpList_ld S ?_) | (refine wpList_ld8 S ?_) | (refine wpList_ld0 ?_) | (refine wpList_ldA S ?_) | (refine wpList_st8 S ?_; (clear S; intro ws S)) | (refine wpList_st S ?_; (clear S; intro ws S)) | (refine wpList_box S ?_; (clear S; intro nb wb hnb S)) | (refine wpList_alloc S ?_; (clear S; intro nb wb hnb S)) | (refine wpList_mk8 S ?_; (clear S; intro nb wb hnb S)) | (refine wpList_mk S ?_; (clear S; intro nb wb hnb S)) | (refine wpList_bs S ?_; (clear S; intro nb wb hnb S)) | (refine wpList_stA S ?_; (clear S; intro ws S; simp only [splice, List.take_zero, List.take_succ_cons, List.drop_succ_cons, List.drop_zero, List.drop_nil, List.length_cons, List.length_nil, Nat.reduceAdd, Nat.zero_add, List.nil_append, List.cons_append, List.append_nil] at S)) | (refine wpList_b2sB S ?_) | (refine wpList_b2sR S ?_) | (refine wpList_ldc S ?_))
  go_loopg [4] n (fun g nv wr => ∃ j : Nat, Hid (j + g = n) ∧ nv = .int .i64 j ∧ j ≤ n ∧ St w [q, m] wr [rHead q m T r.b (r.e + j : Nat) r.data.length C (r.puts (p.take j)).ix post, rBlk m (r.puts (p.take j)).data sl])
  case atStart => exact ⟨0, hidden (by omega), rfl, Nat.zero_le _, S⟩
  case round =>
    obtain ⟨j, hg, rfl, hjn, S⟩ := hrel
    by_cases hlt : j < n
    · obtain ⟨ad, rfl⟩ := hs.out.bare (by omega)
      have hix := hixs.out j
      have hdj := hdl.out j
      have hdn := hdl.out (j + min (n - j) (r.data.length - (r.puts (p.take j)).ix))
      have hst := hsteps.out j (min (n - j) (r.data.length - (r.puts (p.take j)).ix)) (by omega) (by have := hpn.out; omega) (by omega)
      generalize hr1 : r.puts (p.take j) = r1 at *
      obtain ⟨wd, hwd⟩ : ∃ wd, min (n - j) (r.data.length - r1.ix) = wd := ⟨_, rfl⟩
      rw [hwd] at hst hdn
      generalize hr2 : r.puts (p.take (j + wd)) = r2 at *
      replace hst := hidden hst
      replace hr1 := hidden hr1
      replace hr2 := hidden hr2
      replace hdn := hidden hdn
      have hw1 : 1 ≤ wd := by omega
      have hw2 : j + wd ≤ n := by omega
      have hw3 : r1.ix + wd ≤ r.data.length := by omega
      go_upto_region 4 with (first | ((with_reducible show Code.wp _ (Code.region _ _ true) _ _ _); refine St.regionLast S ?_; (repeat (first | (go_big_quiet_step (fail)) | (go_big_quiet_want; (first | refine quiet_ld S ?_ | refine quiet_ld8 S ?_ | refine quiet_ld0 ?_ | refine quiet_ldA S ?_ | refine quiet_b2sB S ?_ | refine quiet_b2sR S ?_ | refine quiet_ldc S ?_); go_big_quiet_on))); refine wpQuiet_nil ?_; clear S; intro wq S) | go_big_skip | (refine wpList_ld S ?_) | (refine wpList_ld8 S ?_) | (refine wpList_ld0 ?_) | (refine wpList_ldA S ?_) | (refine wpList_st8 S ?_; (clear S; intro ws S)) | (refine wpList_st S ?_; (clear S; intro ws S)) | (refine wpList_box S ?_; (clear S; intro nb wb hnb S)) | (refine wpList_alloc S ?_; (clear S; intro nb wb hnb S)) | (refine wpList_mk8 S ?_; (clear S; intro nb wb hnb S)) | (refine wpList_mk S ?_; (clear S; intro nb wb hnb S)) | (refine wpList_bs S ?_; (clear S; intro nb wb hnb S)) | (refine wpList_stA S ?_; (clear S; intro ws S; simp only [splice, List.take_zero, List.take_succ_cons, List.drop_succ_cons, List.drop_zero, List.drop_nil, List.length_cons, List.length_nil, Nat.reduceAdd, Nat.zero_add, List.nil_append, List.cons_append, List.append_nil] at S)) | (refine wpList_b2sB S ?_) | (refine wpList_b2sR S ?_) | (refine wpList_ldc S ?_))
      refine St.regionC S [rHead q m T r.b (r.e + j : Nat) r.data.length C r1.ix post] 14 [([0, 1, 2, 3, 4, 5, 6, 7, 8, 9, 10, 11], 12)] [13] ?_
      clear S; intro wr Cr S Sc; simp only [walkC, pick, List.getElem?_cons_succ, List.getElem?_cons_zero, List.drop_succ_cons, List.drop_zero]
      (repeat (first | (go_big_quiet_want; (first | (refine quiet_slcB r1.ix ?_; rw [cutN_low (by omega), Nat.zero_add]) | (refine quiet_slcT j ?_)); go_big_quiet_on) | (first | (go_big_quiet_step (fail)) | (go_big_quiet_want; (first | refine quiet_ld Sc ?_ | refine quiet_ld8 Sc ?_ | refine quiet_ld0 ?_ | refine quiet_ldA Sc ?_ | refine quiet_b2sB Sc ?_ | refine quiet_b2sR Sc ?_ | refine quiet_ldc Sc ?_); go_big_quiet_on))))
      refine wpQuiet_nil ?_
      have hsrc : Src wr 1 (.slice (some (cutAt ad j c 1)) (n - j) (c - j)) (n - j) (u8s (p.drop j)) := by
        have := (hs.out.over S.chg hd).cut j (n - j) (c - j) (by omega) hc
        rwa [List.take_of_length_le (by rw [List.length_drop]; have := hpn.out; omega)] at this
      refine wpList_copyM S hsrc wd ?_ (hfit := by rw [List.length_append]; omega)
      clear S hsrc; intro ws S
      refine ⟨(S.sel (by repeat (first | exact Sel.nil | (apply Sel.cons; (repeat (first | exact Pull.head | apply Pull.tail)))))).inSt _, ?_⟩; (repeat (first | (go_big_quiet_step (fail)) | (go_big_quiet_want; (first | refine quiet_ld Sc ?_ | refine quiet_ld8 Sc ?_ | refine quiet_ld0 ?_ | refine quiet_ldA Sc ?_ | refine quiet_b2sB Sc ?_ | refine quiet_b2sR Sc ?_ | refine quiet_ldc Sc ?_); go_big_quiet_on))); refine wpQuiet_nil ?_
      have hpd : ((p.drop j).take wd).length = wd := by rw [List.length_take, List.length_drop]; have := hpn.out; omega
      rw [splice_app _ _ _ _ (by rw [hpd]; omega), ← hst.out.1] at S
      clear hpd
      replace hwd := hidden hwd
      by_cases c1 : r1.ix + wd = r.data.length
      · have hix2 : r2.ix = 0 := by have := hst.out.2.2; rwa [if_pos c1] at this
        replace c1 := hidden c1
        replace hix2 := hidden hix2
        have c1' : (r.data.length : Int) ≤ r1.ix + wd := by have := c1.out; omega
        go_wp2_with (first | go_big_skip | ((with_reducible show Code.wp _ (Code.region _ _ true) _ _ _); refine St.regionLast S ?_; (repeat (first | (go_big_quiet_step (fail)) | (go_big_quiet_want; (first | refine quiet_ld S ?_ | refine quiet_ld8 S ?_ | refine quiet_ld0 ?_ | refine quiet_ldA S ?_ | refine quiet_b2sB S ?_ | refine quiet_b2sR S ?_ | refine quiet_ldc S ?_); go_big_quiet_on))); refine wpQuiet_nil ?_; clear S; intro wq S) | go_big_skip | (refine wpList_ld S ?_) | (refine wpList_ld8 S ?_) | (refine wpList_ld0 ?_) | (refine wpList_ldA S ?_) | (refine wpList_st8 S ?_; (clear S; intro ws S)) | (refine wpList_st S ?_; (clear S; intro ws S)) | (refine wpList_box S ?_; (clear S; intro nb wb hnb S)) | (refine wpList_alloc S ?_; (clear S; intro nb wb hnb S)) | (refine wpList_mk8 S ?_; (clear S; intro nb wb hnb S)) | (refine wpList_mk S ?_; (clear S; intro nb wb hnb S)) | (refine wpList_bs S ?_; (clear S; intro nb wb hnb S)) | (refine wpList_stA S ?_; (clear S; intro ws S; simp only [splice, List.take_zero, List.take_succ_cons, List.drop_succ_cons, List.drop_zero, List.drop_nil, List.length_cons, List.length_nil, Nat.reduceAdd, Nat.zero_add, List.nil_append, List.cons_append, List.append_nil] at S)) | (refine wpList_b2sB S ?_) | (refine wpList_b2sR S ?_) | (refine wpList_ldc S ?_))
        go_roundg (gk - wd)
        case measure => have := hg.out; omega
        case rel =>
          refine ⟨j + wd, hidden (by have := hg.out; omega), by go_num, hw2, ?_⟩
          rw [hr2.out]; exact S.head rfl (by omega) (by have := hix2.out; have := c1.out; omega)
      · have hix2 : r2.ix = r1.ix + wd := by have := hst.out.2.2; rwa [if_neg c1] at this
        replace hix2 := hidden hix2
        have c1' : ¬ (r.data.length : Int) ≤ r1.ix + wd := by omega
        go_wp2_with (first | go_big_skip | ((with_reducible show Code.wp _ (Code.region _ _ true) _ _ _); refine St.regionLast S ?_; (repeat (first | (go_big_quiet_step (fail)) | (go_big_quiet_want; (first | refine quiet_ld S ?_ | refine quiet_ld8 S ?_ | refine quiet_ld0 ?_ | refine quiet_ldA S ?_ | refine quiet_b2sB S ?_ | refine quiet_b2sR S ?_ | refine quiet_ldc S ?_); go_big_quiet_on))); refine wpQuiet_nil ?_; clear S; intro wq S) | go_big_skip | (refine wpList_ld S ?_) | (refine wpList_ld8 S ?_) | (refine wpList_ld0 ?_) | (refine wpList_ldA S ?_) | (refine wpList_st8 S ?_; (clear S; intro ws S)) | (refine wpList_st S ?_; (clear S; intro ws S)) | (refine wpList_box S ?_; (clear S; intro nb wb hnb S)) | (refine wpList_alloc S ?_; (clear S; intro nb wb hnb S)) | (refine wpList_mk8 S ?_; (clear S; intro nb wb hnb S)) | (refine wpList_mk S ?_; (clear S; intro nb wb hnb S)) | (refine wpList_bs S ?_; (clear S; intro nb wb hnb S)) | (refine wpList_stA S ?_; (clear S; intro ws S; simp only [splice, List.take_zero, List.take_succ_cons, List.drop_succ_cons, List.drop_zero, List.drop_nil, List.length_cons, List.length_nil, Nat.reduceAdd, Nat.zero_add, List.nil_append, List.cons_append, List.append_nil] at S)) | (refine wpList_b2sB S ?_) | (refine wpList_b2sR S ?_) | (refine wpList_ldc S ?_))
        go_roundg (gk - wd)
        case measure => have := hg.out; omega
        case rel =>
          refine ⟨j + wd, hidden (by have := hg.out; omega), by go_num, hw2, ?_⟩
          rw [hr2.out]; exact S.head rfl (by omega) (by have := hix2.out; omega)
    · have hjn2 : j = n := by omega
      replace hjn2 := hidden hjn2
      by_cases c1 : r.data.length < r.e + j - r.b
      · go_wp2_with (first | go_big_skip | ((with_reducible show Code.wp _ (Code.region _ _ true) _ _ _); refine St.regionLast S ?_; (repeat (first | (go_big_quiet_step (fail)) | (go_big_quiet_want; (first | refine quiet_ld S ?_ | refine quiet_ld8 S ?_ | refine quiet_ld0 ?_ | refine quiet_ldA S ?_ | refine quiet_b2sB S ?_ | refine quiet_b2sR S ?_ | refine quiet_ldc S ?_); go_big_quiet_on))); refine wpQuiet_nil ?_; clear S; intro wq S) | go_big_skip | (refine wpList_ld S ?_) | (refine wpList_ld8 S ?_) | (refine wpList_ld0 ?_) | (refine wpList_ldA S ?_) | (refine wpList_st8 S ?_; (clear S; intro ws S)) | (refine wpList_st S ?_; (clear S; intro ws S)) | (refine wpList_box S ?_; (clear S; intro nb wb hnb S)) | (refine wpList_alloc S ?_; (clear S; intro nb wb hnb S)) | (refine wpList_mk8 S ?_; (clear S; intro nb wb hnb S)) | (refine wpList_mk S ?_; (clear S; intro nb wb hnb S)) | (refine wpList_bs S ?_; (clear S; intro nb wb hnb S)) | (refine wpList_stA S ?_; (clear S; intro ws S; simp only [splice, List.take_zero, List.take_succ_cons, List.drop_succ_cons, List.drop_zero, List.drop_nil, List.length_cons, List.length_nil, Nat.reduceAdd, Nat.zero_add, List.nil_append, List.cons_append, List.append_nil] at S)) | (refine wpList_b2sB S ?_) | (refine wpList_b2sR S ?_) | (refine wpList_ldc S ?_))
        ((first | go_ret | go_ret2 | go_ret3 | go_end0 | skip); refine hR.out _ _ ?_)
        have hj2 := hjn2.out; subst hj2; rw [hlast.out] at S; exact ⟨rfl, S.head (by omega) (by omega) rfl⟩
      · go_wp2_with (first | go_big_skip | ((with_reducible show Code.wp _ (Code.region _ _ true) _ _ _); refine St.regionLast S ?_; (repeat (first | (go_big_quiet_step (fail)) | (go_big_quiet_want; (first | refine quiet_ld S ?_ | refine quiet_ld8 S ?_ | refine quiet_ld0 ?_ | refine quiet_ldA S ?_ | refine quiet_b2sB S ?_ | refine quiet_b2sR S ?_ | refine quiet_ldc S ?_); go_big_quiet_on))); refine wpQuiet_nil ?_; clear S; intro wq S) | go_big_skip | (refine wpList_ld S ?_) | (refine wpList_ld8 S ?_) | (refine wpList_ld0 ?_) | (refine wpList_ldA S ?_) | (refine wpList_st8 S ?_; (clear S; intro ws S)) | (refine wpList_st S ?_; (clear S; intro ws S)) | (refine wpList_box S ?_; (clear S; intro nb wb hnb S)) | (refine wpList_alloc S ?_; (clear S; intro nb wb hnb S)) | (refine wpList_mk8 S ?_; (clear S; intro nb wb hnb S)) | (refine wpList_mk S ?_; (clear S; intro nb wb hnb S)) | (refine wpList_bs S ?_; (clear S; intro nb wb hnb S)) | (refine wpList_stA S ?_; (clear S; intro ws S; simp only [splice, List.take_zero, List.take_succ_cons, List.drop_succ_cons, List.drop_zero, List.drop_nil, List.length_cons, List.length_nil, Nat.reduceAdd, Nat.zero_add, List.nil_append, List.cons_append, List.append_nil] at S)) | (refine wpList_b2sB S ?_) | (refine wpList_b2sR S ?_) | (refine wpList_ldc S ?_))
        ((first | go_ret | go_ret2 | go_ret3 | go_end0 | skip); refine hR.out _ _ ?_)
        have hj2 := hjn2.out; subst hj2; rw [hlast.out] at S; exact ⟨rfl, S.head (by omega) (by omega) rfl⟩

set_option maxHeartbeats 800000 in
theorem ringWrite0 (q m : Nat) (T : TypeId) (b e : Int) (C N : Nat) (ix : Int) (n c : Nat) (oa : Option Addr) (post : List Value) (ev : Value) (w : World)
    (hM : Mem w [rHead q m T b e N C ix post]) (hn : N < n) (hn2 : n ≤ 1073741824) (hE : GErr w [q] 0 ev) :
    Calls Tryd.prog 47 #[.pointer (some ⟨q, 0, none⟩), .slice oa n c] w fun e' w' =>
      e' = .returned (.tuple #[.int .i64 0, ev]) ∧ St w [q] w' [rHead q m T b e N C ix post] := by
  have S : St w [q] w [rHead q m T b e N C ix post] := St.start hM
  clear hM
  replace hE := hidden hE
  refine Calls.cps ?_; intro R hR
  go_enter Tryd.func47, Tryd.ntmps47
  go_wp2_with (first | (refine wpList_ldE S hE.out.1 hE.out.2 ?_) | go_big_skip | ((with_reducible show Code.wp _ (Code.region _ _ true) _ _ _); refine St.regionLast S ?_; (repeat (first | (go_big_quiet_step (fail)) | (go_big_quiet_want; (first | refine quiet_ld S ?_ | refine quiet_ld8 S ?_ | refine quiet_ld0 ?_ | refine quiet_ldA S ?_ | refine quiet_b2sB S ?_ | refine quiet_b2sR S ?_ | refine quiet_ldc S ?_); go_big_quiet_on))); refine wpQuiet_nil ?_; clear S; intro wq S) | go_big_skip | (refine wpList_ld S ?_) | (refine wpList_ld8 S ?_) | (refine wpList_ld0 ?_) | (refine wpList_ldA S ?_) | (refine wpList_st8 S ?_; (clear S; intro ws S)) | (refine wpList_st S ?_; (clear S; intro ws S)) | (refine wpList_box S ?_; (clear S; intro nb wb hnb S)) | (refine wpList_alloc S ?_; (clear S; intro nb wb hnb S)) | (refine wpList_mk8 S ?_; (clear S; intro nb wb hnb S)) | (refine wpList_mk S ?_; (clear S; intro nb wb hnb S)) | (refine wpList_bs S ?_; (clear S; intro nb wb hnb S)) | (refine wpList_stA S ?_; (clear S; intro ws S; simp only [splice, List.take_zero, List.take_succ_cons, List.drop_succ_cons, List.drop_zero, List.drop_nil, List.length_cons, List.length_nil, Nat.reduceAdd, Nat.zero_add, List.nil_append, List.cons_append, List.append_nil] at S)) | (refine wpList_b2sB S ?_) | (refine wpList_b2sR S ?_) | (refine wpList_ldc S ?_))
  ((first | go_ret | go_ret2 | go_ret3 | go_end0 | skip); refine hR.out _ _ ?_)
  exact ⟨rfl, S⟩

set_option maxHeartbeats 800000 in
theorem ringSkip (q m : Nat) (T : TypeId) (r : Ri) (W sl : List UInt8) (n : Nat) (post : List Value) (z : Int) (hz : z = n) (w : World)
    (hM : Mem w (rMem q m T r sl post)) (h : Snug r W (r.data ++ sl).length) (hn : n ≤ 1073741824) :
    Calls Tryd.prog 55 #[.pointer (some ⟨q, 0, none⟩), .int .i64 z] w fun e w' =>
      e = .returned (.tuple #[]) ∧ St w [q, m] w' (rMem q m T (r.skip n) sl post) := by
  subst hz
  have S : St w [q, m] w [rHead q m T r.b r.e r.data.length (r.data ++ sl).length r.ix post, rBlk m r.data sl] := St.start hM
  clear hM
  obtain ⟨hh, h2, h3, h4⟩ := h
  have h5 := hh.le
  have h7 := hh.fit
  have h8 := hh.ix
  have hsz : r.size = r.data.length := rfl
  have hle : r.len = r.e - r.b := rfl
  have hres : rMem q m T (r.skip n) sl post = [rHead q m T (max r.b (r.e + n - r.data.length) : Nat) (r.e + n : Nat) r.data.length (r.data ++ sl).length ((r.ix + n) % r.data.length : Nat) post, rBlk m r.data sl] := rfl
  rw [hsz] at h7 h8
  rw [hres]
  generalize hC : (r.data ++ sl).length = C at *
  have hlen : r.e - r.b ≤ r.data.length := by omega
  clear hle hsz hres
  refine Calls.cps ?_; intro R hR
  go_enter Tryd.func55, Tryd.ntmps55
  go_wp2_with (first | go_big_skip | ((with_reducible show Code.wp _ (Code.region _ _ true) _ _ _); refine St.regionLast S ?_; (repeat (first | (go_big_quiet_step (fail)) | (go_big_quiet_want; (first | refine quiet_ld S ?_ | refine quiet_ld8 S ?_ | refine quiet_ld0 ?_ | refine quiet_ldA S ?_ | refine quiet_b2sB S ?_ | refine quiet_b2sR S ?_ | refine quiet_ldc S ?_); go_big_quiet_on))); refine wpQuiet_nil ?_; clear S; intro wq S) | go_big_skip | (refine wpList_ld S ?_) | (refine wpList_ld8 S ?_) | (refine wpList_ld0 ?_) | (refine wpList_ldA S ?_) | (refine wpList_st8 S ?_; (clear S; intro ws S)) | (refine wpList_st S ?_; (clear S; intro ws S)) | (refine wpList_box S ?_; (clear S; intro nb wb hnb S)) | (refine wpList_alloc S ?_; (clear S; intro nb wb hnb S)) | (refine wpList_mk8 S ?_; (clear S; intro nb wb hnb S)) | (refine wpList_mk S ?_; (clear S; intro nb wb hnb S)) | (refine wpList_bs S ?_; (clear S; intro nb wb hnb S)) | (refine wpList_stA S ?_; (clear S; intro ws S; simp only [splice, List.take_zero, List.take_succ_cons, List.drop_succ_cons, List.drop_zero, List.drop_nil, List.length_cons, List.length_nil, Nat.reduceAdd, Nat.zero_add, List.nil_append, List.cons_append, List.append_nil] at S)) | (refine wpList_b2sB S ?_) | (refine wpList_b2sR S ?_) | (refine wpList_ldc S ?_))
  go_loopg [] (r.ix + n) (fun g wr => ∃ i : Nat, i ≤ g ∧ i ≤ r.ix + n ∧ Hid (i % r.data.length = (r.ix + n) % r.data.length) ∧ St w [q, m] wr [rHead q m T r.b (r.e + n : Nat) r.data.length C i post, rBlk m r.data sl])
  case atStart => exact ⟨r.ix + n, Nat.le_refl _, Nat.le_refl _, hidden rfl, S⟩
  case round =>
    obtain ⟨i, hig, hin, hmod, S⟩ := hrel
    by_cases c0 : r.data.length ≤ i
    · go_wp2_with (first | go_big_skip | ((with_reducible show Code.wp _ (Code.region _ _ true) _ _ _); refine St.regionLast S ?_; (repeat (first | (go_big_quiet_step (fail)) | (go_big_quiet_want; (first | refine quiet_ld S ?_ | refine quiet_ld8 S ?_ | refine quiet_ld0 ?_ | refine quiet_ldA S ?_ | refine quiet_b2sB S ?_ | refine quiet_b2sR S ?_ | refine quiet_ldc S ?_); go_big_quiet_on))); refine wpQuiet_nil ?_; clear S; intro wq S) | go_big_skip | (refine wpList_ld S ?_) | (refine wpList_ld8 S ?_) | (refine wpList_ld0 ?_) | (refine wpList_ldA S ?_) | (refine wpList_st8 S ?_; (clear S; intro ws S)) | (refine wpList_st S ?_; (clear S; intro ws S)) | (refine wpList_box S ?_; (clear S; intro nb wb hnb S)) | (refine wpList_alloc S ?_; (clear S; intro nb wb hnb S)) | (refine wpList_mk8 S ?_; (clear S; intro nb wb hnb S)) | (refine wpList_mk S ?_; (clear S; intro nb wb hnb S)) | (refine wpList_bs S ?_; (clear S; intro nb wb hnb S)) | (refine wpList_stA S ?_; (clear S; intro ws S; simp only [splice, List.take_zero, List.take_succ_cons, List.drop_succ_cons, List.drop_zero, List.drop_nil, List.length_cons, List.length_nil, Nat.reduceAdd, Nat.zero_add, List.nil_append, List.cons_append, List.append_nil] at S)) | (refine wpList_b2sB S ?_) | (refine wpList_b2sR S ?_) | (refine wpList_ldc S ?_))
      go_roundg (gk - 1)
      case measure => omega
      case rel =>
        refine ⟨i - r.data.length, by omega, by omega, hidden (by rw [← Nat.mod_eq_sub_mod c0]; exact hmod.out), ?_⟩
        exact S.head rfl rfl (by omega)
    · have hi : i = (r.ix + n) % r.data.length := by rw [← hmod.out, Nat.mod_eq_of_lt (by omega)]
      replace hi := hidden hi
      by_cases c1 : r.data.length < r.e + n - r.b
      · go_wp2_with (first | go_big_skip | ((with_reducible show Code.wp _ (Code.region _ _ true) _ _ _); refine St.regionLast S ?_; (repeat (first | (go_big_quiet_step (fail)) | (go_big_quiet_want; (first | refine quiet_ld S ?_ | refine quiet_ld8 S ?_ | refine quiet_ld0 ?_ | refine quiet_ldA S ?_ | refine quiet_b2sB S ?_ | refine quiet_b2sR S ?_ | refine quiet_ldc S ?_); go_big_quiet_on))); refine wpQuiet_nil ?_; clear S; intro wq S) | go_big_skip | (refine wpList_ld S ?_) | (refine wpList_ld8 S ?_) | (refine wpList_ld0 ?_) | (refine wpList_ldA S ?_) | (refine wpList_st8 S ?_; (clear S; intro ws S)) | (refine wpList_st S ?_; (clear S; intro ws S)) | (refine wpList_box S ?_; (clear S; intro nb wb hnb S)) | (refine wpList_alloc S ?_; (clear S; intro nb wb hnb S)) | (refine wpList_mk8 S ?_; (clear S; intro nb wb hnb S)) | (refine wpList_mk S ?_; (clear S; intro nb wb hnb S)) | (refine wpList_bs S ?_; (clear S; intro nb wb hnb S)) | (refine wpList_stA S ?_; (clear S; intro ws S; simp only [splice, List.take_zero, List.take_succ_cons, List.drop_succ_cons, List.drop_zero, List.drop_nil, List.length_cons, List.length_nil, Nat.reduceAdd, Nat.zero_add, List.nil_append, List.cons_append, List.append_nil] at S)) | (refine wpList_b2sB S ?_) | (refine wpList_b2sR S ?_) | (refine wpList_ldc S ?_))
        ((first | go_ret | go_ret2 | go_ret3 | go_end0 | skip); refine hR.out _ _ ?_)
        exact ⟨rfl, S.head (by omega) rfl (by have := hi.out; omega)⟩
      · go_wp2_with (first | go_big_skip | ((with_reducible show Code.wp _ (Code.region _ _ true) _ _ _); refine St.regionLast S ?_; (repeat (first | (go_big_quiet_step (fail)) | (go_big_quiet_want; (first | refine quiet_ld S ?_ | refine quiet_ld8 S ?_ | refine quiet_ld0 ?_ | refine quiet_ldA S ?_ | refine quiet_b2sB S ?_ | refine quiet_b2sR S ?_ | refine quiet_ldc S ?_); go_big_quiet_on))); refine wpQuiet_nil ?_; clear S; intro wq S) | go_big_skip | (refine wpList_ld S ?_) | (refine wpList_ld8 S ?_) | (refine wpList_ld0 ?_) | (refine wpList_ldA S ?_) | (refine wpList_st8 S ?_; (clear S; intro ws S)) | (refine wpList_st S ?_; (clear S; intro ws S)) | (refine wpList_box S ?_; (clear S; intro nb wb hnb S)) | (refine wpList_alloc S ?_; (clear S; intro nb wb hnb S)) | (refine wpList_mk8 S ?_; (clear S; intro nb wb hnb S)) | (refine wpList_mk S ?_; (clear S; intro nb wb hnb S)) | (refine wpList_bs S ?_; (clear S; intro nb wb hnb S)) | (refine wpList_stA S ?_; (clear S; intro ws S; simp only [splice, List.take_zero, List.take_succ_cons, List.drop_succ_cons, List.drop_zero, List.drop_nil, List.length_cons, List.length_nil, Nat.reduceAdd, Nat.zero_add, List.nil_append, List.cons_append, List.append_nil] at S)) | (refine wpList_b2sB S ?_) | (refine wpList_b2sR S ?_) | (refine wpList_ldc S ?_))
        ((first | go_ret | go_ret2 | go_ret3 | go_end0 | skip); refine hR.out _ _ ?_)
        exact ⟨rfl, S.head (by omega) rfl (by have := hi.out; omega)⟩
end Go.Proofs.YtbklhnpnkinadaaDoor
