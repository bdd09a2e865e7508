/- The ring buffer of the library: bytes compared. -/
import Derived.Test.YtbklhnpnkinadaaDoorRa
import Derived.Test.YtbklhnpnkinadaaDoorArr
namespace Go.Proofs.YtbklhnpnkinadaaDoor
open Go Go.RowKit Go.Vil
set_option linter.unusedSimpArgs false
set_option linter.unusedVariables false
set_option maxRecDepth 100000

set_option maxHeartbeats 800000 in
theorem bytesEqual (oa ob : Option Addr) (n c n' d : Nat) (xs ys : List UInt8) (w : World) (hu : Src w 1 (.slice oa n c) n (u8s xs)) (hv : Src w 1 (.slice ob n' d) n' (u8s ys)) :
    Calls Tryd.prog 75 #[.slice oa n c, .slice ob n' d] w fun e w' => e = .returned (.bool (decide (xs = ys))) ∧ St w [] w' [] := by
  have S := St.begin w
  replace hu := hidden hu
  replace hv := hidden hv
  refine Calls.cps ?_; intro R hR
  go_enter Tryd.func75, Tryd.ntmps75
  go_wp2_with (first | (refine wpList_b2s (hu.out.on S.chg) ?_) | (refine wpList_b2s (hv.out.on S.chg) ?_) | ((with_reducible show Code.wp _ (Code.region _ _ true) _ _ _); refine St.regionLast S ?_; (repeat (first | (go_big_quiet_step (fail)) | (go_big_quiet_want; (first | refine quiet_ld S ?_ | refine quiet_ld8 S ?_ | refine quiet_ld0 ?_ | refine quiet_ldA S ?_ | refine quiet_b2sB S ?_ | refine quiet_b2sR S ?_ | refine quiet_ldc S ?_); go_big_quiet_on))); refine wpQuiet_nil ?_; clear S; intro wq S) | go_big_skip | (refine wpList_ld S ?_) | (refine wpList_ld8 S ?_) | (refine wpList_ld0 ?_) | (refine wpList_ldA S ?_) | (refine wpList_st8 S ?_; (clear S; intro ws S)) | (refine wpList_st S ?_; (clear S; intro ws S)) | (refine wpList_box S ?_; (clear S; intro nb wb hnb S)) | (refine wpList_alloc S ?_; (clear S; intro nb wb hnb S)) | (refine wpList_mk8 S ?_; (clear S; intro nb wb hnb S)) | (refine wpList_mk S ?_; (clear S; intro nb wb hnb S)) | (refine wpList_bs S ?_; (clear S; intro nb wb hnb S)) | (refine wpList_stA S ?_; (clear S; intro ws S; simp only [splice, List.take_zero, List.take_succ_cons, List.drop_succ_cons, List.drop_zero, List.drop_nil, List.length_cons, List.length_nil, Nat.reduceAdd, Nat.zero_add, List.nil_append, List.cons_append, List.append_nil] at S)) | (refine wpList_b2sB S ?_) | (refine wpList_b2sR S ?_) | (refine wpList_ldc S ?_))
  ((first | go_ret | go_ret2 | go_ret3 | go_end0 | skip); refine hR.out _ _ ?_)
  exact ⟨retB (by by_cases h : xs = ys <;> simp [h]), S⟩

set_option maxHeartbeats 1600000 in
theorem ringEqual (q m : Nat) (T : TypeId) (r : Ri) (W sl p : List UInt8) (k n c : Nat) (oa : Option Addr) (post : List Value) (z : Int) (w : World) (hz : z = r.b + k)
    (hM : Mem w (rMem q m T r sl post)) (h : Snug r W (r.data ++ sl).length) (hs : Src w 1 (.slice oa n c) n (u8s p)) (hd : Off oa [q, m] (u8s p)) (hc : n ≤ c) (hk : k + n ≤ W.length) :
    Calls Tryd.prog 52 #[.pointer (some ⟨q, 0, none⟩), .slice oa n c, .int .i64 z] w fun e w' =>
      e = .returned (.bool (decide (p = (W.drop k).take n))) ∧ St w [q, m] w' (rMem q m T r sl post) := by
  subst hz
  have S : St w [q, m] w [rHead q m T r.b r.e r.data.length (r.data ++ sl).length r.ix post, rBlk m r.data sl] := St.start hM
  clear hM
  have hsn := hidden h
  obtain ⟨hh, h2, h3, h4⟩ := h
  have hpn := hs.len8
  have h5 := hh.le
  have h6 := hh.len
  have h7 := hh.fit
  have hat := Ri.at_lt hh k
  have hsz : r.size = r.data.length := rfl
  have hle : r.len = r.e - r.b := rfl
  have hk2 : r.b + k + n ≤ r.e := by omega
  have hb1 : decide ((r.e : Int) < (r.b : Int) + (k : Int) + (n : Int)) = false := decide_eq_false (by omega)
  have hone := @Ri.piece_one r W hh k n hk
  have htwo := @Ri.piece_two r W hh k n hk
  rw [hsz] at h7 hat hone htwo
  have hn3 : n ≤ r.data.length := by omega
  have hcl : (r.data ++ sl).length = r.data.length + sl.length := List.length_append
  unfold rMem
  generalize hC : (r.data ++ sl).length = C at *
  replace hcl := hidden hcl
  replace hone := hidden hone
  replace htwo := hidden htwo
  replace hh := hidden hh
  replace hk := hidden hk
  replace hs := hidden hs
  replace hpn := hidden hpn
  clear hle hsz
  refine Calls.cps ?_; intro R hR
  go_enter Tryd.func52, Tryd.ntmps52
  go_wp2_with (first | go_big_skip | ((with_reducible show Code.wp _ (Code.region _ _ true) _ _ _); refine St.regionLast S ?_; (repeat (first | (go_big_quiet_step (fail)) | (go_big_quiet_want; (first | refine quiet_ld S ?_ | refine quiet_ld8 S ?_ | refine quiet_ld0 ?_ | refine quiet_ldA S ?_ | refine quiet_b2sB S ?_ | refine quiet_b2sR S ?_ | refine quiet_ldc S ?_); go_big_quiet_on))); refine wpQuiet_nil ?_; clear S; intro wq S) | go_big_skip | (refine wpList_ld S ?_) | (refine wpList_ld8 S ?_) | (refine wpList_ld0 ?_) | (refine wpList_ldA S ?_) | (refine wpList_st8 S ?_; (clear S; intro ws S)) | (refine wpList_st S ?_; (clear S; intro ws S)) | (refine wpList_box S ?_; (clear S; intro nb wb hnb S)) | (refine wpList_alloc S ?_; (clear S; intro nb wb hnb S)) | (refine wpList_mk8 S ?_; (clear S; intro nb wb hnb S)) | (refine wpList_mk S ?_; (clear S; intro nb wb hnb S)) | (refine wpList_bs S ?_; (clear S; intro nb wb hnb S)) | (refine wpList_stA S ?_; (clear S; intro ws S; simp only [splice, List.take_zero, List.take_succ_cons, List.drop_succ_cons, List.drop_zero, List.drop_nil, List.length_cons, List.length_nil, Nat.reduceAdd, Nat.zero_add, List.nil_append, List.cons_append, List.append_nil] at S)) | (refine wpList_b2sB S ?_) | (refine wpList_b2sR S ?_) | (refine wpList_ldc S ?_))
  refine Calls.mono (ringOff q m T r W C k post _ _ rfl S.sel1 hsn.out (by have := hk.out; omega)) ?_
  rintro e w2 ⟨rfl, C1⟩
  have S2 := S.call C1; clear S C1; simp only [List.cons_append, List.nil_append] at S2; have S := S2; clear S2
  generalize r.at' k = at0 at *
  by_cases c1 : at0 + n ≤ r.data.length
  · have hsrc : Src w2 1 (.slice (some ⟨m, at0, none⟩) n (C - at0)) n (u8s ((W.drop k).take n)) := by
      have := S.src8 (b := m) (o := at0) (m := n) (c := C - at0) (l := r.data ++ sl) (by repeat (first | exact Pull.head | apply Pull.tail)) (by rw [List.length_append]; omega)
      rwa [List.drop_append_of_le_length (by omega), List.take_append_of_le_length (by rw [List.length_drop]; omega), ← hone.out c1] at this
    replace hsrc := hidden hsrc
    go_wp2_with (first | (refine wpList_slcBH at0 (at0 + n) ?_; rw [cutN_low (by omega), Nat.zero_add]) | ((with_reducible show Code.wp _ (Code.region _ _ true) _ _ _); refine St.regionLast S ?_; (repeat (first | (go_big_quiet_step (fail)) | (go_big_quiet_want; (first | refine quiet_ld S ?_ | refine quiet_ld8 S ?_ | refine quiet_ld0 ?_ | refine quiet_ldA S ?_ | refine quiet_b2sB S ?_ | refine quiet_b2sR S ?_ | refine quiet_ldc S ?_); go_big_quiet_on))); refine wpQuiet_nil ?_; clear S; intro wq S) | go_big_skip | (refine wpList_ld S ?_) | (refine wpList_ld8 S ?_) | (refine wpList_ld0 ?_) | (refine wpList_ldA S ?_) | (refine wpList_st8 S ?_; (clear S; intro ws S)) | (refine wpList_st S ?_; (clear S; intro ws S)) | (refine wpList_box S ?_; (clear S; intro nb wb hnb S)) | (refine wpList_alloc S ?_; (clear S; intro nb wb hnb S)) | (refine wpList_mk8 S ?_; (clear S; intro nb wb hnb S)) | (refine wpList_mk S ?_; (clear S; intro nb wb hnb S)) | (refine wpList_bs S ?_; (clear S; intro nb wb hnb S)) | (refine wpList_stA S ?_; (clear S; intro ws S; simp only [splice, List.take_zero, List.take_succ_cons, List.drop_succ_cons, List.drop_zero, List.drop_nil, List.length_cons, List.length_nil, Nat.reduceAdd, Nat.zero_add, List.nil_append, List.cons_append, List.append_nil] at S)) | (refine wpList_b2sB S ?_) | (refine wpList_b2sR S ?_) | (refine wpList_ldc S ?_))
    refine Calls.mono (bytesEqual _ _ _ _ _ _ _ _ _ (hs.out.over S.chg hd) hsrc.out) ?_
    rintro e w3 ⟨rfl, C1⟩
    have S2 := S.call C1; clear S C1; simp only [List.cons_append, List.nil_append] at S2; have S := S2; clear S2
    go_wp2_with (first | go_big_skip | ((with_reducible show Code.wp _ (Code.region _ _ true) _ _ _); refine St.regionLast S ?_; (repeat (first | (go_big_quiet_step (fail)) | (go_big_quiet_want; (first | refine quiet_ld S ?_ | refine quiet_ld8 S ?_ | refine quiet_ld0 ?_ | refine quiet_ldA S ?_ | refine quiet_b2sB S ?_ | refine quiet_b2sR S ?_ | refine quiet_ldc S ?_); go_big_quiet_on))); refine wpQuiet_nil ?_; clear S; intro wq S) | go_big_skip | (refine wpList_ld S ?_) | (refine wpList_ld8 S ?_) | (refine wpList_ld0 ?_) | (refine wpList_ldA S ?_) | (refine wpList_st8 S ?_; (clear S; intro ws S)) | (refine wpList_st S ?_; (clear S; intro ws S)) | (refine wpList_box S ?_; (clear S; intro nb wb hnb S)) | (refine wpList_alloc S ?_; (clear S; intro nb wb hnb S)) | (refine wpList_mk8 S ?_; (clear S; intro nb wb hnb S)) | (refine wpList_mk S ?_; (clear S; intro nb wb hnb S)) | (refine wpList_bs S ?_; (clear S; intro nb wb hnb S)) | (refine wpList_stA S ?_; (clear S; intro ws S; simp only [splice, List.take_zero, List.take_succ_cons, List.drop_succ_cons, List.drop_zero, List.drop_nil, List.length_cons, List.length_nil, Nat.reduceAdd, Nat.zero_add, List.nil_append, List.cons_append, List.append_nil] at S)) | (refine wpList_b2sB S ?_) | (refine wpList_b2sR S ?_) | (refine wpList_ldc S ?_))
    ((first | go_ret | go_ret2 | go_ret3 | go_end0 | skip); refine hR.out _ _ ?_)
    exact ⟨rfl, S⟩
  · obtain ⟨ad, rfl⟩ := hs.out.bare (by omega)
    go_upto_region 8 with (first | ((with_reducible show Code.wp _ (Code.region _ _ true) _ _ _); refine St.regionLast S ?_; (repeat (first | (go_big_quiet_step (fail)) | (go_big_quiet_want; (first | refine quiet_ld S ?_ | refine quiet_ld8 S ?_ | refine quiet_ld0 ?_ | refine quiet_ldA S ?_ | refine quiet_b2sB S ?_ | refine quiet_b2sR S ?_ | refine quiet_ldc S ?_); go_big_quiet_on))); refine wpQuiet_nil ?_; clear S; intro wq S) | go_big_skip | (refine wpList_ld S ?_) | (refine wpList_ld8 S ?_) | (refine wpList_ld0 ?_) | (refine wpList_ldA S ?_) | (refine wpList_st8 S ?_; (clear S; intro ws S)) | (refine wpList_st S ?_; (clear S; intro ws S)) | (refine wpList_box S ?_; (clear S; intro nb wb hnb S)) | (refine wpList_alloc S ?_; (clear S; intro nb wb hnb S)) | (refine wpList_mk8 S ?_; (clear S; intro nb wb hnb S)) | (refine wpList_mk S ?_; (clear S; intro nb wb hnb S)) | (refine wpList_bs S ?_; (clear S; intro nb wb hnb S)) | (refine wpList_stA S ?_; (clear S; intro ws S; simp only [splice, List.take_zero, List.take_succ_cons, List.drop_succ_cons, List.drop_zero, List.drop_nil, List.length_cons, List.length_nil, Nat.reduceAdd, Nat.zero_add, List.nil_append, List.cons_append, List.append_nil] at S)) | (refine wpList_b2sB S ?_) | (refine wpList_b2sR S ?_) | (refine wpList_ldc S ?_))
    refine St.regionG S 11 [([0, 1, 2, 3, 4, 5, 6, 7, 8], 9)] [10] ?_
    clear S; intro wr S; simp only [walkSt, pick, List.getElem?_cons_succ, List.getElem?_cons_zero, List.drop_succ_cons, List.drop_zero]
    (repeat (first | (go_big_quiet_want; (first | (refine quiet_slcB at0 ?_; rw [cutN_low (by omega)]) | refine quiet_slcH (r.data.length - at0) ?_); go_big_quiet_on) | (first | (go_big_quiet_step (fail)) | (go_big_quiet_want; (first | refine quiet_ld S ?_ | refine quiet_ld8 S ?_ | refine quiet_ld0 ?_ | refine quiet_ldA S ?_ | refine quiet_b2sB S ?_ | refine quiet_b2sR S ?_ | refine quiet_ldc S ?_); go_big_quiet_on))))
    refine wpQuiet_nil ?_
    go_wp2_with fail
    have hsrc : Src wr 1 (.slice (some ⟨m, 0 + at0, none⟩) (r.data.length - at0) (C - at0)) (r.data.length - at0) (u8s (r.data.drop at0)) := by
      have := S.src8 (b := m) (o := at0) (m := r.data.length - at0) (c := C - at0) (l := r.data ++ sl) (by repeat (first | exact Pull.head | apply Pull.tail)) (by rw [List.length_append]; omega)
      rw [Nat.zero_add]
      rwa [List.drop_append_of_le_length (by omega), List.take_append_of_le_length (Nat.le_of_eq List.length_drop.symm), List.take_of_length_le (Nat.le_of_eq List.length_drop)] at this
    rw [Nat.zero_add] at hsrc
    have hsrcp : Src wr 1 (.slice (some ad) (r.data.length - at0) c) (r.data.length - at0) (u8s (p.take (r.data.length - at0))) := (hs.out.over S.chg hd).firsts (r.data.length - at0) c (by omega)
    refine Calls.mono (bytesEqual _ _ _ _ _ _ _ _ _ hsrcp hsrc) ?_
    clear hsrc hsrcp
    rintro e w3 ⟨rfl, C1⟩
    have S2 := S.call C1; clear S C1; simp only [List.cons_append, List.nil_append] at S2; have S := S2; clear S2
    have hpl := hpn.out
    have hsp : p = (W.drop k).take n ↔ p.take (r.data.length - at0) = r.data.drop at0 ∧ p.drop (r.data.length - at0) = r.data.take (at0 + n - r.data.length) := by
      rw [htwo.out (by omega)]
      have h1 : (r.data.drop at0).length = r.data.length - at0 := List.length_drop
      constructor
      · intro h
        constructor
        · conv => lhs; rw [h]
          rw [List.take_append_of_le_length (Nat.le_of_eq h1.symm), List.take_of_length_le (Nat.le_of_eq h1)]
        · conv => lhs; rw [h]
          rw [List.drop_append_of_le_length (Nat.le_of_eq h1.symm), List.drop_of_length_le (Nat.le_of_eq h1), List.nil_append]
      · rintro ⟨h, h'⟩
        rw [← h, ← h', List.take_append_drop]
    replace hsp := hidden hsp
    clear hpl
    go_wp2_with (first | go_big_skip | (refine wpList_ld S ?_) | (refine wpList_ld8 S ?_) | (refine wpList_ld0 ?_) | (refine wpList_ldA S ?_) | (refine wpList_st8 S ?_; (clear S; intro ws S)) | (refine wpList_st S ?_; (clear S; intro ws S)) | (refine wpList_box S ?_; (clear S; intro nb wb hnb S)) | (refine wpList_alloc S ?_; (clear S; intro nb wb hnb S)) | (refine wpList_mk8 S ?_; (clear S; intro nb wb hnb S)) | (refine wpList_mk S ?_; (clear S; intro nb wb hnb S)) | (refine wpList_bs S ?_; (clear S; intro nb wb hnb S)) | (refine wpList_stA S ?_; (clear S; intro ws S; simp only [splice, List.take_zero, List.take_succ_cons, List.drop_succ_cons, List.drop_zero, List.drop_nil, List.length_cons, List.length_nil, Nat.reduceAdd, Nat.zero_add, List.nil_append, List.cons_append, List.append_nil] at S)) | (refine wpList_b2sB S ?_) | (refine wpList_b2sR S ?_) | (refine wpList_ldc S ?_))
    refine ⟨_, S, Sel.refl _, ?_⟩; (repeat (first | (go_big_quiet_step (fail)) | (go_big_quiet_want; (first | refine quiet_ld S ?_ | refine quiet_ld8 S ?_ | refine quiet_ld0 ?_ | refine quiet_ldA S ?_ | refine quiet_b2sB S ?_ | refine quiet_b2sR S ?_ | refine quiet_ldc S ?_); go_big_quiet_on))); refine wpQuiet_nil ?_
    by_cases he : p.take (r.data.length - at0) = r.data.drop at0
    · rw [decide_eq_true he]
      go_upto_region 11 with (first | ((with_reducible show Code.wp _ (Code.region _ _ true) _ _ _); refine St.regionLast S ?_; (repeat (first | (go_big_quiet_step (fail)) | (go_big_quiet_want; (first | refine quiet_ld S ?_ | refine quiet_ld8 S ?_ | refine quiet_ld0 ?_ | refine quiet_ldA S ?_ | refine quiet_b2sB S ?_ | refine quiet_b2sR S ?_ | refine quiet_ldc S ?_); go_big_quiet_on))); refine wpQuiet_nil ?_; clear S; intro wq S) | go_big_skip | (refine wpList_ld S ?_) | (refine wpList_ld8 S ?_) | (refine wpList_ld0 ?_) | (refine wpList_ldA S ?_) | (refine wpList_st8 S ?_; (clear S; intro ws S)) | (refine wpList_st S ?_; (clear S; intro ws S)) | (refine wpList_box S ?_; (clear S; intro nb wb hnb S)) | (refine wpList_alloc S ?_; (clear S; intro nb wb hnb S)) | (refine wpList_mk8 S ?_; (clear S; intro nb wb hnb S)) | (refine wpList_mk S ?_; (clear S; intro nb wb hnb S)) | (refine wpList_bs S ?_; (clear S; intro nb wb hnb S)) | (refine wpList_stA S ?_; (clear S; intro ws S; simp only [splice, List.take_zero, List.take_succ_cons, List.drop_succ_cons, List.drop_zero, List.drop_nil, List.length_cons, List.length_nil, Nat.reduceAdd, Nat.zero_add, List.nil_append, List.cons_append, List.append_nil] at S)) | (refine wpList_b2sB S ?_) | (refine wpList_b2sR S ?_) | (refine wpList_ldc S ?_))
      refine St.regionG S 11 [([0, 1, 2, 3, 4, 5, 6, 7, 8], 9)] [10] ?_
      clear S; intro wr2 S; simp only [walkSt, pick, List.getElem?_cons_succ, List.getElem?_cons_zero, List.drop_succ_cons, List.drop_zero]
      (repeat (first | (go_big_quiet_want; (first | (refine quiet_slcT (r.data.length - at0) ?_) | refine quiet_slcH (at0 + n - r.data.length) ?_); go_big_quiet_on) | (first | (go_big_quiet_step (fail)) | (go_big_quiet_want; (first | refine quiet_ld S ?_ | refine quiet_ld8 S ?_ | refine quiet_ld0 ?_ | refine quiet_ldA S ?_ | refine quiet_b2sB S ?_ | refine quiet_b2sR S ?_ | refine quiet_ldc S ?_); go_big_quiet_on))))
      refine wpQuiet_nil ?_
      go_wp2_with fail
      have hsrc2 : Src wr2 1 (.slice (some ⟨m, 0, none⟩) (at0 + n - r.data.length) C) (at0 + n - r.data.length) (u8s (r.data.take (at0 + n - r.data.length))) := by
        have := S.src8 (b := m) (o := 0) (m := at0 + n - r.data.length) (c := C) (l := r.data ++ sl) (by repeat (first | exact Pull.head | apply Pull.tail)) (by rw [List.length_append]; omega)
        rwa [List.drop_zero, List.take_append_of_le_length (by omega)] at this
      have hsrcp2 : Src wr2 1 (.slice (some (cutAt ad (r.data.length - at0) c 1)) (n - (r.data.length - at0)) (c - (r.data.length - at0))) (n - (r.data.length - at0)) (u8s (p.drop (r.data.length - at0))) := by
        have := (hs.out.over S.chg hd).cut (r.data.length - at0) (n - (r.data.length - at0)) (c - (r.data.length - at0)) (by omega) hc
        rwa [List.take_of_length_le (by rw [List.length_drop]; have := hpn.out; omega)] at this
      refine Calls.mono (bytesEqual _ _ _ _ _ _ _ _ _ hsrcp2 hsrc2) ?_
      clear hsrc2 hsrcp2
      rintro e w4 ⟨rfl, C1⟩
      have S2 := S.call C1; clear S C1; simp only [List.cons_append, List.nil_append] at S2; have S := S2; clear S2
      go_wp2_with (first | go_big_skip | (refine wpList_ld S ?_) | (refine wpList_ld8 S ?_) | (refine wpList_ld0 ?_) | (refine wpList_ldA S ?_) | (refine wpList_st8 S ?_; (clear S; intro ws S)) | (refine wpList_st S ?_; (clear S; intro ws S)) | (refine wpList_box S ?_; (clear S; intro nb wb hnb S)) | (refine wpList_alloc S ?_; (clear S; intro nb wb hnb S)) | (refine wpList_mk8 S ?_; (clear S; intro nb wb hnb S)) | (refine wpList_mk S ?_; (clear S; intro nb wb hnb S)) | (refine wpList_bs S ?_; (clear S; intro nb wb hnb S)) | (refine wpList_stA S ?_; (clear S; intro ws S; simp only [splice, List.take_zero, List.take_succ_cons, List.drop_succ_cons, List.drop_zero, List.drop_nil, List.length_cons, List.length_nil, Nat.reduceAdd, Nat.zero_add, List.nil_append, List.cons_append, List.append_nil] at S)) | (refine wpList_b2sB S ?_) | (refine wpList_b2sR S ?_) | (refine wpList_ldc S ?_))
      refine ⟨_, S, Sel.refl _, ?_⟩; (repeat (first | (go_big_quiet_step (fail)) | (go_big_quiet_want; (first | refine quiet_ld S ?_ | refine quiet_ld8 S ?_ | refine quiet_ld0 ?_ | refine quiet_ldA S ?_ | refine quiet_b2sB S ?_ | refine quiet_b2sR S ?_ | refine quiet_ldc S ?_); go_big_quiet_on))); refine wpQuiet_nil ?_
      go_wp2_with (first | go_big_skip | ((with_reducible show Code.wp _ (Code.region _ _ true) _ _ _); refine St.regionLast S ?_; (repeat (first | (go_big_quiet_step (fail)) | (go_big_quiet_want; (first | refine quiet_ld S ?_ | refine quiet_ld8 S ?_ | refine quiet_ld0 ?_ | refine quiet_ldA S ?_ | refine quiet_b2sB S ?_ | refine quiet_b2sR S ?_ | refine quiet_ldc S ?_); go_big_quiet_on))); refine wpQuiet_nil ?_; clear S; intro wq S) | go_big_skip | (refine wpList_ld S ?_) | (refine wpList_ld8 S ?_) | (refine wpList_ld0 ?_) | (refine wpList_ldA S ?_) | (refine wpList_st8 S ?_; (clear S; intro ws S)) | (refine wpList_st S ?_; (clear S; intro ws S)) | (refine wpList_box S ?_; (clear S; intro nb wb hnb S)) | (refine wpList_alloc S ?_; (clear S; intro nb wb hnb S)) | (refine wpList_mk8 S ?_; (clear S; intro nb wb hnb S)) | (refine wpList_mk S ?_; (clear S; intro nb wb hnb S)) | (refine wpList_bs S ?_; (clear S; intro nb wb hnb S)) | (refine wpList_stA S ?_; (clear S; intro ws S; simp only [splice, List.take_zero, List.take_succ_cons, List.drop_succ_cons, List.drop_zero, List.drop_nil, List.length_cons, List.length_nil, Nat.reduceAdd, Nat.zero_add, List.nil_append, List.cons_append, List.append_nil] at S)) | (refine wpList_b2sB S ?_) | (refine wpList_b2sR S ?_) | (refine wpList_ldc S ?_))
      ((first | go_ret | go_ret2 | go_ret3 | go_end0 | skip); refine hR.out _ _ ?_)
      refine ⟨retB ?_, S⟩
      have h2 := hsp.out
      by_cases h3 : p.drop (r.data.length - at0) = r.data.take (at0 + n - r.data.length)
      · rw [decide_eq_true h3, decide_eq_true (h2.2 ⟨he, h3⟩)]
      · rw [decide_eq_false h3, decide_eq_false (fun h => h3 (h2.1 h).2)]
    · rw [decide_eq_false he]
      go_wp2_with (first | go_big_skip | ((with_reducible show Code.wp _ (Code.region _ _ true) _ _ _); refine St.regionLast S ?_; (repeat (first | (go_big_quiet_step (fail)) | (go_big_quiet_want; (first | refine quiet_ld S ?_ | refine quiet_ld8 S ?_ | refine quiet_ld0 ?_ | refine quiet_ldA S ?_ | refine quiet_b2sB S ?_ | refine quiet_b2sR S ?_ | refine quiet_ldc S ?_); go_big_quiet_on))); refine wpQuiet_nil ?_; clear S; intro wq S) | go_big_skip | (refine wpList_ld S ?_) | (refine wpList_ld8 S ?_) | (refine wpList_ld0 ?_) | (refine wpList_ldA S ?_) | (refine wpList_st8 S ?_; (clear S; intro ws S)) | (refine wpList_st S ?_; (clear S; intro ws S)) | (refine wpList_box S ?_; (clear S; intro nb wb hnb S)) | (refine wpList_alloc S ?_; (clear S; intro nb wb hnb S)) | (refine wpList_mk8 S ?_; (clear S; intro nb wb hnb S)) | (refine wpList_mk S ?_; (clear S; intro nb wb hnb S)) | (refine wpList_bs S ?_; (clear S; intro nb wb hnb S)) | (refine wpList_stA S ?_; (clear S; intro ws S; simp only [splice, List.take_zero, List.take_succ_cons, List.drop_succ_cons, List.drop_zero, List.drop_nil, List.length_cons, List.length_nil, Nat.reduceAdd, Nat.zero_add, List.nil_append, List.cons_append, List.append_nil] at S)) | (refine wpList_b2sB S ?_) | (refine wpList_b2sR S ?_) | (refine wpList_ldc S ?_))
      ((first | go_ret | go_ret2 | go_ret3 | go_end0 | skip); refine hR.out _ _ ?_)
      refine ⟨retB ?_, S⟩
      have h2 := hsp.out
      rw [decide_eq_false (fun h => he (h2.1 h).1)]
end Go.Proofs.YtbklhnpnkinadaaDoor
