/- The ring buffer of the library: bytes written over others. -/
import Derived.Test.YtbklhnpnkinadaaDoorRa
namespace Go.Proofs.YtbklhnpnkinadaaDoor
open Go Go.RowKit Go.Vil
set_option linter.unusedSimpArgs false
set_option linter.unusedVariables false
set_option maxRecDepth 100000

set_option maxHeartbeats 1600000 in
theorem ringWriteAt (q m : Nat) (T : TypeId) (r : Ri) (W sl p : List UInt8) (k n c : Nat) (oa : Option Addr) (post : List Value) (z : Int) (w : World) (hz : z = r.b + k)
    (hM : Mem w (rMem q m T r sl post)) (h : Snug r W (r.data ++ sl).length) (hs : Src w 1 (.slice oa n c) n (u8s p)) (hd : Off oa [q, m] (u8s p)) (hc : n ≤ c) (hk : k + n ≤ W.length) :
    Calls Tryd.prog 50 #[.pointer (some ⟨q, 0, none⟩), .slice oa n c, .int .i64 z] w fun e w' =>
      e = .returned (.tuple #[.int .i64 n, .nilIface]) ∧ St w [q, m] w' (rMem q m T (r.overs k p) sl post) := by
  subst hz
  have S : St w [q, m] w [rHead q m T r.b r.e r.data.length (r.data ++ sl).length r.ix post, rBlk m r.data sl] := St.start hM
  clear hM
  have hsn := hidden h
  obtain ⟨hh, h2, h3, h4⟩ := h
  have hpn := hs.len8
  have h5 := hh.le
  have h6 := hh.len
  have h7 := hh.fit
  have hat := Ri.at_lt hh k
  have hsz : r.size = r.data.length := rfl
  have hle : r.len = r.e - r.b := rfl
  have hwk : W.length - k = r.e - (r.b + k) := by omega
  have hk2 : r.b + k + n ≤ r.e := by omega
  have hb1 : decide ((r.e : Int) < (r.b : Int) + (k : Int) + (n : Int)) = false := decide_eq_false (by omega)
  have hone := Ri.overs_one r k p
  have htwo := Ri.overs_two hh k p (by omega)
  obtain ⟨o1, o2, o3⟩ := Ri.overs_rest p r k
  have o4 : (r.overs k p).data.length = r.data.length := Ri.overs_size p r k
  have hres : rMem q m T (r.overs k p) sl post = [rHead q m T r.b r.e r.data.length (r.data ++ sl).length r.ix post, rBlk m (r.overs k p).data sl] := by
    unfold rMem rHead
    rw [o1, o2, o3, List.length_append, o4, List.length_append]
  rw [hsz] at h7 hat hone htwo
  have hcl : (r.data ++ sl).length = r.data.length + sl.length := List.length_append
  rw [hres]
  generalize hC : (r.data ++ sl).length = C at *
  replace hcl := hidden hcl
  replace hone := hidden hone
  replace htwo := hidden htwo
  replace hh := hidden hh
  replace hk := hidden hk
  replace hs := hidden hs
  replace hpn := hidden hpn
  clear hle hsz o1 o2 o3 o4 hres
  refine Calls.cps ?_; intro R hR
  go_enter Tryd.func50, Tryd.ntmps50
  go_wp2_with (first | go_big_skip | ((with_reducible show Code.wp _ (Code.region _ _ true) _ _ _); refine St.regionLast S ?_; (repeat (first | (go_big_quiet_step (fail)) | (go_big_quiet_want; (first | refine quiet_ld S ?_ | refine quiet_ld8 S ?_ | refine quiet_ld0 ?_ | refine quiet_ldA S ?_ | refine quiet_b2sB S ?_ | refine quiet_b2sR S ?_ | refine quiet_ldc S ?_); go_big_quiet_on))); refine wpQuiet_nil ?_; clear S; intro wq S) | go_big_skip | (refine wpList_ld S ?_) | (refine wpList_ld8 S ?_) | (refine wpList_ld0 ?_) | (refine wpList_ldA S ?_) | (refine wpList_st8 S ?_; (clear S; intro ws S)) | (refine wpList_st S ?_; (clear S; intro ws S)) | (refine wpList_box S ?_; (clear S; intro nb wb hnb S)) | (refine wpList_alloc S ?_; (clear S; intro nb wb hnb S)) | (refine wpList_mk8 S ?_; (clear S; intro nb wb hnb S)) | (refine wpList_mk S ?_; (clear S; intro nb wb hnb S)) | (refine wpList_bs S ?_; (clear S; intro nb wb hnb S)) | (refine wpList_stA S ?_; (clear S; intro ws S; simp only [splice, List.take_zero, List.take_succ_cons, List.drop_succ_cons, List.drop_zero, List.drop_nil, List.length_cons, List.length_nil, Nat.reduceAdd, Nat.zero_add, List.nil_append, List.cons_append, List.append_nil] at S)) | (refine wpList_b2sB S ?_) | (refine wpList_b2sR S ?_) | (refine wpList_ldc S ?_))
  refine Calls.mono (ringOff q m T r W C k post _ _ rfl S.sel1 hsn.out (by have := hk.out; omega)) ?_
  rintro e w2 ⟨rfl, C1⟩
  have S2 := S.call C1; clear S C1; simp only [List.cons_append, List.nil_append] at S2; have S := S2; clear S2
  generalize r.at' k = at0 at *
  obtain ⟨re, hre⟩ : ∃ re, re = at0 + (W.length - k) := ⟨_, rfl⟩
  by_cases c1 : at0 + (W.length - k) ≤ r.data.length
  · go_wp2_with (first | (refine wpList_slcBH at0 re ?_; rw [cutN_low (by omega), Nat.zero_add]) | (refine wpList_copyM S (hs.out.over S.chg hd) n ?_; (clear S; intro ws S)) | ((with_reducible show Code.wp _ (Code.region _ _ true) _ _ _); refine St.regionLast S ?_; (repeat (first | (go_big_quiet_step (fail)) | (go_big_quiet_want; (first | refine quiet_ld S ?_ | refine quiet_ld8 S ?_ | refine quiet_ld0 ?_ | refine quiet_ldA S ?_ | refine quiet_b2sB S ?_ | refine quiet_b2sR S ?_ | refine quiet_ldc S ?_); go_big_quiet_on))); refine wpQuiet_nil ?_; clear S; intro wq S) | go_big_skip | (refine wpList_ld S ?_) | (refine wpList_ld8 S ?_) | (refine wpList_ld0 ?_) | (refine wpList_ldA S ?_) | (refine wpList_st8 S ?_; (clear S; intro ws S)) | (refine wpList_st S ?_; (clear S; intro ws S)) | (refine wpList_box S ?_; (clear S; intro nb wb hnb S)) | (refine wpList_alloc S ?_; (clear S; intro nb wb hnb S)) | (refine wpList_mk8 S ?_; (clear S; intro nb wb hnb S)) | (refine wpList_mk S ?_; (clear S; intro nb wb hnb S)) | (refine wpList_bs S ?_; (clear S; intro nb wb hnb S)) | (refine wpList_stA S ?_; (clear S; intro ws S; simp only [splice, List.take_zero, List.take_succ_cons, List.drop_succ_cons, List.drop_zero, List.drop_nil, List.length_cons, List.length_nil, Nat.reduceAdd, Nat.zero_add, List.nil_append, List.cons_append, List.append_nil] at S)) | (refine wpList_b2sB S ?_) | (refine wpList_b2sR S ?_) | (refine wpList_ldc S ?_))
    ((first | go_ret | go_ret2 | go_ret3 | go_end0 | skip); refine hR.out _ _ ?_)
    refine ⟨rfl, ?_⟩
    rw [hone.out (by have := hpn.out; omega)]
    rw [List.take_of_length_le (Nat.le_of_eq hpn.out), splice_app _ _ _ _ (by have := hpn.out; omega)] at S
    exact S
  · by_cases c2 : at0 + n ≤ r.data.length
    · go_wp2_with (first | (refine wpList_slcB at0 ?_; rw [cutN_low (by omega), Nat.zero_add]) | (refine wpList_copyM S (hs.out.over S.chg hd) n ?_; (clear S; intro ws S)) | ((with_reducible show Code.wp _ (Code.region _ _ true) _ _ _); refine St.regionLast S ?_; (repeat (first | (go_big_quiet_step (fail)) | (go_big_quiet_want; (first | refine quiet_ld S ?_ | refine quiet_ld8 S ?_ | refine quiet_ld0 ?_ | refine quiet_ldA S ?_ | refine quiet_b2sB S ?_ | refine quiet_b2sR S ?_ | refine quiet_ldc S ?_); go_big_quiet_on))); refine wpQuiet_nil ?_; clear S; intro wq S) | go_big_skip | (refine wpList_ld S ?_) | (refine wpList_ld8 S ?_) | (refine wpList_ld0 ?_) | (refine wpList_ldA S ?_) | (refine wpList_st8 S ?_; (clear S; intro ws S)) | (refine wpList_st S ?_; (clear S; intro ws S)) | (refine wpList_box S ?_; (clear S; intro nb wb hnb S)) | (refine wpList_alloc S ?_; (clear S; intro nb wb hnb S)) | (refine wpList_mk8 S ?_; (clear S; intro nb wb hnb S)) | (refine wpList_mk S ?_; (clear S; intro nb wb hnb S)) | (refine wpList_bs S ?_; (clear S; intro nb wb hnb S)) | (refine wpList_stA S ?_; (clear S; intro ws S; simp only [splice, List.take_zero, List.take_succ_cons, List.drop_succ_cons, List.drop_zero, List.drop_nil, List.length_cons, List.length_nil, Nat.reduceAdd, Nat.zero_add, List.nil_append, List.cons_append, List.append_nil] at S)) | (refine wpList_b2sB S ?_) | (refine wpList_b2sR S ?_) | (refine wpList_ldc S ?_))
      ((first | go_ret | go_ret2 | go_ret3 | go_end0 | skip); refine hR.out _ _ ?_)
      refine ⟨rfl, ?_⟩
      rw [hone.out (by have := hpn.out; omega)]
      rw [List.take_of_length_le (Nat.le_of_eq hpn.out), splice_app _ _ _ _ (by have := hpn.out; omega)] at S
      exact S
    · obtain ⟨ad, rfl⟩ := hs.out.bare (by omega)
      go_upto_region 9 with (first | (refine wpList_slcB at0 ?_; rw [cutN_low (by omega), Nat.zero_add]) | (refine wpList_copyM S (hs.out.over S.chg hd) (r.data.length - at0) ?_; (clear S; intro ws S)) | ((with_reducible show Code.wp _ (Code.region _ _ true) _ _ _); refine St.regionLast S ?_; (repeat (first | (go_big_quiet_step (fail)) | (go_big_quiet_want; (first | refine quiet_ld S ?_ | refine quiet_ld8 S ?_ | refine quiet_ld0 ?_ | refine quiet_ldA S ?_ | refine quiet_b2sB S ?_ | refine quiet_b2sR S ?_ | refine quiet_ldc S ?_); go_big_quiet_on))); refine wpQuiet_nil ?_; clear S; intro wq S) | go_big_skip | (refine wpList_ld S ?_) | (refine wpList_ld8 S ?_) | (refine wpList_ld0 ?_) | (refine wpList_ldA S ?_) | (refine wpList_st8 S ?_; (clear S; intro ws S)) | (refine wpList_st S ?_; (clear S; intro ws S)) | (refine wpList_box S ?_; (clear S; intro nb wb hnb S)) | (refine wpList_alloc S ?_; (clear S; intro nb wb hnb S)) | (refine wpList_mk8 S ?_; (clear S; intro nb wb hnb S)) | (refine wpList_mk S ?_; (clear S; intro nb wb hnb S)) | (refine wpList_bs S ?_; (clear S; intro nb wb hnb S)) | (refine wpList_stA S ?_; (clear S; intro ws S; simp only [splice, List.take_zero, List.take_succ_cons, List.drop_succ_cons, List.drop_zero, List.drop_nil, List.length_cons, List.length_nil, Nat.reduceAdd, Nat.zero_add, List.nil_append, List.cons_append, List.append_nil] at S)) | (refine wpList_b2sB S ?_) | (refine wpList_b2sR S ?_) | (refine wpList_ldc S ?_))
      have hpl := hpn.out
      have hp1 : (p.take (r.data.length - at0)).length = r.data.length - at0 := by rw [List.length_take]; omega
      rw [splice_app _ _ _ _ (by rw [hp1]; omega)] at S
      have hl1 : (splice r.data at0 (p.take (r.data.length - at0))).length = r.data.length := splice_length _ _ _ (by rw [hp1]; omega)
      clear hpl
      generalize hD : splice r.data at0 (p.take (r.data.length - at0)) = D at *
      have hDC : (D ++ sl).length = C := by rw [List.length_append]; have := hcl.out; omega
      replace hD := hidden hD
      refine St.regionC S [rHead q m T r.b r.e r.data.length C r.ix post] 19 [([0, 1, 2, 3, 4, 5, 6, 7, 8, 9, 10, 11, 12, 13, 14, 15], 16)] [17, 18] ?_
      clear S; intro wr Cr S Sc; simp only [walkC, pick, List.getElem?_cons_succ, List.getElem?_cons_zero, List.drop_succ_cons, List.drop_zero]
      (repeat (first | (go_big_quiet_want; (first | (refine quiet_slcT (r.data.length - at0) ?_) | refine quiet_slcH (re - r.data.length) ?_); go_big_quiet_on) | (first | (go_big_quiet_step (fail)) | (go_big_quiet_want; (first | refine quiet_ld Sc ?_ | refine quiet_ld8 Sc ?_ | refine quiet_ld0 ?_ | refine quiet_ldA Sc ?_ | refine quiet_b2sB Sc ?_ | refine quiet_b2sR Sc ?_ | refine quiet_ldc Sc ?_); go_big_quiet_on))))
      refine wpQuiet_nil ?_
      have hsrc2 : Src wr 1 (.slice (some (cutAt ad (r.data.length - at0) c 1)) (n - (r.data.length - at0)) (c - (r.data.length - at0))) (n - (r.data.length - at0)) (u8s (p.drop (r.data.length - at0))) := by
        have := (hs.out.over S.chg hd).cut (r.data.length - at0) (n - (r.data.length - at0)) (c - (r.data.length - at0)) (by omega) hc
        rwa [List.take_of_length_le (by rw [List.length_drop]; have := hpn.out; omega)] at this
      refine wpList_copyM S hsrc2 (n - (r.data.length - at0)) ?_
      clear S; intro ws2 S
      refine ⟨(S.sel (by repeat (first | exact Sel.nil | (apply Sel.cons; (repeat (first | exact Pull.head | apply Pull.tail)))))).inSt _, ?_⟩; (repeat (first | (go_big_quiet_step (fail)) | (go_big_quiet_want; (first | refine quiet_ld Sc ?_ | refine quiet_ld8 Sc ?_ | refine quiet_ld0 ?_ | refine quiet_ldA Sc ?_ | refine quiet_b2sB Sc ?_ | refine quiet_b2sR Sc ?_ | refine quiet_ldc Sc ?_); go_big_quiet_on))); refine wpQuiet_nil ?_
      go_wp2_with (first | go_big_skip | ((with_reducible show Code.wp _ (Code.region _ _ true) _ _ _); refine St.regionLast S ?_; (repeat (first | (go_big_quiet_step (fail)) | (go_big_quiet_want; (first | refine quiet_ld S ?_ | refine quiet_ld8 S ?_ | refine quiet_ld0 ?_ | refine quiet_ldA S ?_ | refine quiet_b2sB S ?_ | refine quiet_b2sR S ?_ | refine quiet_ldc S ?_); go_big_quiet_on))); refine wpQuiet_nil ?_; clear S; intro wq S) | go_big_skip | (refine wpList_ld S ?_) | (refine wpList_ld8 S ?_) | (refine wpList_ld0 ?_) | (refine wpList_ldA S ?_) | (refine wpList_st8 S ?_; (clear S; intro ws S)) | (refine wpList_st S ?_; (clear S; intro ws S)) | (refine wpList_box S ?_; (clear S; intro nb wb hnb S)) | (refine wpList_alloc S ?_; (clear S; intro nb wb hnb S)) | (refine wpList_mk8 S ?_; (clear S; intro nb wb hnb S)) | (refine wpList_mk S ?_; (clear S; intro nb wb hnb S)) | (refine wpList_bs S ?_; (clear S; intro nb wb hnb S)) | (refine wpList_stA S ?_; (clear S; intro ws S; simp only [splice, List.take_zero, List.take_succ_cons, List.drop_succ_cons, List.drop_zero, List.drop_nil, List.length_cons, List.length_nil, Nat.reduceAdd, Nat.zero_add, List.nil_append, List.cons_append, List.append_nil] at S)) | (refine wpList_b2sB S ?_) | (refine wpList_b2sR S ?_) | (refine wpList_ldc S ?_))
      ((first | go_ret | go_ret2 | go_ret3 | go_end0 | skip); refine hR.out _ _ ?_)
      refine ⟨?_, ?_⟩
      · exact retT2 (by omega)
      · rw [htwo.out (by have := hpn.out; omega)]
        rw [List.take_of_length_le (by rw [List.length_drop]; have := hpn.out; omega), splice_app _ _ _ _ (by rw [List.length_drop]; have := hpn.out; omega)] at S
        exact S
end Go.Proofs.YtbklhnpnkinadaaDoor
