/- The ring buffer of the library: a part of it. -/
import Derived.Test.YtbklhnpnkinadaaDoorRa
namespace Go.Proofs.YtbklhnpnkinadaaDoor
open Go Go.RowKit Go.Vil
set_option linter.unusedSimpArgs false
set_option linter.unusedVariables false
set_option maxRecDepth 100000

set_option maxHeartbeats 1600000 in
theorem ringSlice (q m : Nat) (T : TypeId) (r : Ri) (W sl : List UInt8) (k n : Nat) (post : List Value) (z : Int) (w : World) (hz : z = r.b + k)
    (hM : Mem w (rMem q m T r sl post)) (h : Snug r W (r.data ++ sl).length) (hk : k + n ≤ W.length) :
    Calls Tryd.prog 51 #[.pointer (some ⟨q, 0, none⟩), .int .i64 z, .int .i64 n] w fun e w' =>
      ∃ (ad : Addr) (c : Nat), e = .returned (.tuple #[.slice (some ad) n c, .nilIface]) ∧ n ≤ c ∧ Src w' 1 (.slice (some ad) n c) n (u8s ((W.drop k).take n)) ∧ (ad.block = m ∨ w.heap.size ≤ ad.block) ∧ St w [q, m] w' (rMem q m T r sl post) := by
  subst hz
  have S : St w [q, m] w [rHead q m T r.b r.e r.data.length (r.data ++ sl).length r.ix post, rBlk m r.data sl] := St.start hM
  clear hM
  have hsn := hidden h
  obtain ⟨hh, h2, h3, h4⟩ := h
  have h5 := hh.le
  have h6 := hh.len
  have h7 := hh.fit
  have h8 := hh.ix
  have hat := Ri.at_lt hh k
  have hsz : r.size = r.data.length := rfl
  have hle : r.len = r.e - r.b := rfl
  have hk2 : r.b + k + n ≤ r.e := by omega
  have hb1 : decide ((r.e : Int) < (r.b : Int) + (k : Int)) = false := decide_eq_false (by omega)
  have hpin := @Ri.piece_in r W hh sl k n hk
  have htwo := @Ri.piece_two r W hh k n hk
  rw [hsz] at h7 h8 hat hpin htwo
  generalize hP : (W.drop k).take n = p at *
  have hpl : p.length = n := by rw [← hP, List.length_take, List.length_drop]; omega
  have hn3 : n ≤ r.data.length := by omega
  have hcl : (r.data ++ sl).length = r.data.length + sl.length := List.length_append
  unfold rMem
  generalize hC : (r.data ++ sl).length = C at *
  replace hpin := hidden hpin
  replace htwo := hidden htwo
  replace hpl := hidden hpl
  replace hP := hidden hP
  replace hcl := hidden hcl
  replace hh := hidden hh
  replace hk := hidden hk
  clear hle hsz h6
  refine Calls.cps ?_; intro R hR
  go_enter Tryd.func51, Tryd.ntmps51
  go_wp2_with (first | go_big_skip | ((with_reducible show Code.wp _ (Code.region _ _ true) _ _ _); refine St.regionLast S ?_; (repeat (first | (go_big_quiet_step (fail)) | (go_big_quiet_want; (first | refine quiet_ld S ?_ | refine quiet_ld8 S ?_ | refine quiet_ld0 ?_ | refine quiet_ldA S ?_ | refine quiet_b2sB S ?_ | refine quiet_b2sR S ?_ | refine quiet_ldc S ?_); go_big_quiet_on))); refine wpQuiet_nil ?_; clear S; intro wq S) | go_big_skip | (refine wpList_ld S ?_) | (refine wpList_ld8 S ?_) | (refine wpList_ld0 ?_) | (refine wpList_ldA S ?_) | (refine wpList_st8 S ?_; (clear S; intro ws S)) | (refine wpList_st S ?_; (clear S; intro ws S)) | (refine wpList_box S ?_; (clear S; intro nb wb hnb S)) | (refine wpList_alloc S ?_; (clear S; intro nb wb hnb S)) | (refine wpList_mk8 S ?_; (clear S; intro nb wb hnb S)) | (refine wpList_mk S ?_; (clear S; intro nb wb hnb S)) | (refine wpList_bs S ?_; (clear S; intro nb wb hnb S)) | (refine wpList_stA S ?_; (clear S; intro ws S; simp only [splice, List.take_zero, List.take_succ_cons, List.drop_succ_cons, List.drop_zero, List.drop_nil, List.length_cons, List.length_nil, Nat.reduceAdd, Nat.zero_add, List.nil_append, List.cons_append, List.append_nil] at S)) | (refine wpList_b2sB S ?_) | (refine wpList_b2sR S ?_) | (refine wpList_ldc S ?_))
  refine Calls.mono (ringOff q m T r W C k post _ _ rfl S.sel1 hsn.out (by have := hk.out; omega)) ?_
  rintro e w2 ⟨rfl, C1⟩
  have S2 := S.call C1; clear S C1; simp only [List.cons_append, List.nil_append] at S2; have S := S2; clear S2
  generalize r.at' k = at0 at *
  by_cases c1 : at0 + n ≤ r.data.length
  · go_wp2_with (first | (refine wpList_slcLHM at0 (at0 + n) (at0 + n) ?_) | ((with_reducible show Code.wp _ (Code.region _ _ true) _ _ _); refine St.regionLast S ?_; (repeat (first | (go_big_quiet_step (fail)) | (go_big_quiet_want; (first | refine quiet_ld S ?_ | refine quiet_ld8 S ?_ | refine quiet_ld0 ?_ | refine quiet_ldA S ?_ | refine quiet_b2sB S ?_ | refine quiet_b2sR S ?_ | refine quiet_ldc S ?_); go_big_quiet_on))); refine wpQuiet_nil ?_; clear S; intro wq S) | go_big_skip | (refine wpList_ld S ?_) | (refine wpList_ld8 S ?_) | (refine wpList_ld0 ?_) | (refine wpList_ldA S ?_) | (refine wpList_st8 S ?_; (clear S; intro ws S)) | (refine wpList_st S ?_; (clear S; intro ws S)) | (refine wpList_box S ?_; (clear S; intro nb wb hnb S)) | (refine wpList_alloc S ?_; (clear S; intro nb wb hnb S)) | (refine wpList_mk8 S ?_; (clear S; intro nb wb hnb S)) | (refine wpList_mk S ?_; (clear S; intro nb wb hnb S)) | (refine wpList_bs S ?_; (clear S; intro nb wb hnb S)) | (refine wpList_stA S ?_; (clear S; intro ws S; simp only [splice, List.take_zero, List.take_succ_cons, List.drop_succ_cons, List.drop_zero, List.drop_nil, List.length_cons, List.length_nil, Nat.reduceAdd, Nat.zero_add, List.nil_append, List.cons_append, List.append_nil] at S)) | (refine wpList_b2sB S ?_) | (refine wpList_b2sR S ?_) | (refine wpList_ldc S ?_))
    ((first | go_ret | go_ret2 | go_ret3 | go_end0 | skip); refine hR.out _ _ ?_)
    refine ⟨cutAt ⟨m, 0, none⟩ at0 (at0 + n) 1, at0 + n - at0, ?_, by omega, ?_, .inl (by unfold cutAt; split <;> first | rfl | exact block_add _ _), S⟩
    · rw [Nat.add_sub_cancel_left]; rfl
    · have h1 := St.srcIn (b := m) (o := 0) (n := at0 + n) (c := at0 + n) S (by repeat (first | exact Pull.head | apply Pull.tail)) (by rw [List.length_append]; omega) rfl
      have h2 := h1.cut at0 n (at0 + n - at0) (by omega) (Nat.le_refl _)
      rw [List.drop_zero, List.drop_take, Nat.add_sub_cancel_left, List.take_take, Nat.min_self, hpin.out c1] at h2
      rw [Nat.add_sub_cancel_left]
      exact h2
  · go_upto_region 8 with (first | (refine wpList_mk8 (ln := n) (cn := n) S ?_; (clear S; intro nb wb hnb S)) | ((with_reducible show Code.wp _ (Code.region _ _ true) _ _ _); refine St.regionLast S ?_; (repeat (first | (go_big_quiet_step (fail)) | (go_big_quiet_want; (first | refine quiet_ld S ?_ | refine quiet_ld8 S ?_ | refine quiet_ld0 ?_ | refine quiet_ldA S ?_ | refine quiet_b2sB S ?_ | refine quiet_b2sR S ?_ | refine quiet_ldc S ?_); go_big_quiet_on))); refine wpQuiet_nil ?_; clear S; intro wq S) | go_big_skip | (refine wpList_ld S ?_) | (refine wpList_ld8 S ?_) | (refine wpList_ld0 ?_) | (refine wpList_ldA S ?_) | (refine wpList_st8 S ?_; (clear S; intro ws S)) | (refine wpList_st S ?_; (clear S; intro ws S)) | (refine wpList_box S ?_; (clear S; intro nb wb hnb S)) | (refine wpList_alloc S ?_; (clear S; intro nb wb hnb S)) | (refine wpList_mk8 S ?_; (clear S; intro nb wb hnb S)) | (refine wpList_mk S ?_; (clear S; intro nb wb hnb S)) | (refine wpList_bs S ?_; (clear S; intro nb wb hnb S)) | (refine wpList_stA S ?_; (clear S; intro ws S; simp only [splice, List.take_zero, List.take_succ_cons, List.drop_succ_cons, List.drop_zero, List.drop_nil, List.length_cons, List.length_nil, Nat.reduceAdd, Nat.zero_add, List.nil_append, List.cons_append, List.append_nil] at S)) | (refine wpList_b2sB S ?_) | (refine wpList_b2sR S ?_) | (refine wpList_ldc S ?_))
    have hX : (r.data.drop at0).length = r.data.length - at0 := List.length_drop
    have hY : (r.data.take (at0 + n - r.data.length)).length = at0 + n - r.data.length := by rw [List.length_take]; omega
    have hXY := htwo.out (by omega)
    have hsrc : Src wb 1 (.slice (some ⟨m, at0, none⟩) (r.data.length - at0) (C - at0)) (r.data.length - at0) (u8s (r.data.drop at0)) := by
      refine St.srcIn (b := m) (o := at0) (n := r.data.length - at0) (l := r.data ++ sl) S (by repeat (first | exact Pull.head | apply Pull.tail)) ?_ ?_
      · rw [List.length_append]; omega
      · rw [List.drop_append_of_le_length (by omega), List.take_append_of_le_length (Nat.le_of_eq List.length_drop.symm), List.take_of_length_le (Nat.le_of_eq List.length_drop)]
    obtain ⟨n1, hn1⟩ : ∃ n1, n1 = r.data.length - at0 := ⟨_, rfl⟩
    rw [← hn1] at hsrc hX
    obtain ⟨X, hXe⟩ : ∃ X, X = r.data.drop at0 := ⟨_, rfl⟩
    obtain ⟨Y, hYe⟩ : ∃ Y, Y = r.data.take (at0 + n - r.data.length) := ⟨_, rfl⟩
    rw [← hXe] at hX hXY hsrc
    rw [← hYe] at hY hXY
    replace hsrc := hidden hsrc
    replace hX := hidden hX
    replace hY := hidden hY
    replace hXe := hidden hXe
    replace hYe := hidden hYe
    replace hXY := hidden hXY
    go_upto_region 10 with (first | (refine wpList_slcB at0 ?_; rw [cutN_low (by omega), Nat.zero_add, ← hn1]) | (refine wpList_copyM S hsrc.out n1 ?_ (hfit := by rw [List.length_replicate]; omega); (clear S; intro ws S)) | ((with_reducible show Code.wp _ (Code.region _ _ true) _ _ _); refine St.regionLast S ?_; (repeat (first | (go_big_quiet_step (fail)) | (go_big_quiet_want; (first | refine quiet_ld S ?_ | refine quiet_ld8 S ?_ | refine quiet_ld0 ?_ | refine quiet_ldA S ?_ | refine quiet_b2sB S ?_ | refine quiet_b2sR S ?_ | refine quiet_ldc S ?_); go_big_quiet_on))); refine wpQuiet_nil ?_; clear S; intro wq S) | go_big_skip | (refine wpList_ld S ?_) | (refine wpList_ld8 S ?_) | (refine wpList_ld0 ?_) | (refine wpList_ldA S ?_) | (refine wpList_st8 S ?_; (clear S; intro ws S)) | (refine wpList_st S ?_; (clear S; intro ws S)) | (refine wpList_box S ?_; (clear S; intro nb wb hnb S)) | (refine wpList_alloc S ?_; (clear S; intro nb wb hnb S)) | (refine wpList_mk8 S ?_; (clear S; intro nb wb hnb S)) | (refine wpList_mk S ?_; (clear S; intro nb wb hnb S)) | (refine wpList_bs S ?_; (clear S; intro nb wb hnb S)) | (refine wpList_stA S ?_; (clear S; intro ws S; simp only [splice, List.take_zero, List.take_succ_cons, List.drop_succ_cons, List.drop_zero, List.drop_nil, List.length_cons, List.length_nil, Nat.reduceAdd, Nat.zero_add, List.nil_append, List.cons_append, List.append_nil] at S)) | (refine wpList_b2sB S ?_) | (refine wpList_b2sR S ?_) | (refine wpList_ldc S ?_))
    refine St.regionC S [rHead q m T r.b r.e r.data.length C r.ix post, rBlk m r.data sl] 19 [([0, 1, 2, 3, 4, 5, 6, 7, 8, 9, 10, 11, 12, 13, 14, 15], 16)] [17, 18] ?_
    clear S; intro wr Cr S Sc; simp only [walkC, pick, List.getElem?_cons_succ, List.getElem?_cons_zero, List.drop_succ_cons, List.drop_zero]
    (repeat (first | (go_big_quiet_want; (first | (refine quiet_slcB n1 ?_; rw [cutN_low (by omega), Nat.zero_add]) | (refine quiet_slcH (at0 + n - r.data.length) ?_)); go_big_quiet_on) | (first | (go_big_quiet_step (fail)) | (go_big_quiet_want; (first | refine quiet_ld Sc ?_ | refine quiet_ld8 Sc ?_ | refine quiet_ld0 ?_ | refine quiet_ldA Sc ?_ | refine quiet_b2sB Sc ?_ | refine quiet_b2sR Sc ?_ | refine quiet_ldc Sc ?_); go_big_quiet_on))))
    refine wpQuiet_nil ?_
    have hsrc2 : Src wr 1 (.slice (some ⟨m, 0, none⟩) (at0 + n - r.data.length) C) (at0 + n - r.data.length) (u8s Y) := by
      refine St.srcIn (b := m) (o := 0) (n := at0 + n - r.data.length) (l := r.data ++ sl) S (by repeat (first | exact Pull.head | apply Pull.tail)) ?_ ?_
      · rw [List.length_append]; omega
      · rw [List.drop_zero, List.take_append_of_le_length (by omega)]; exact hYe.out.symm
    rw [List.take_of_length_le (Nat.le_of_eq hX.out)] at S
    have hZ : (splice (List.replicate n 0) 0 X).length = n := by rw [splice_length _ _ _ (by rw [List.length_replicate]; have := hX.out; omega), List.length_replicate]
    have hres : splice (splice (List.replicate n 0) 0 X) n1 Y = p := by
      have h1 := splice_splice (List.replicate n 0) 0 X Y (by rw [List.length_replicate]; have := hX.out; have := hY.out; omega)
      rw [Nat.zero_add, hX.out] at h1
      rw [h1, ← hXY.out, splice_all _ _ (by rw [List.length_replicate]; exact hpl.out)]
    replace hres := hidden hres
    generalize splice (List.replicate n 0) 0 X = Z at *
    refine wpList_copyM S hsrc2 (at0 + n - r.data.length) ?_ (hfit := by omega)
    clear S hsrc2; intro ws2 S
    refine ⟨(S.sel (by repeat (first | exact Sel.nil | (apply Sel.cons; (repeat (first | exact Pull.head | apply Pull.tail)))))).inSt _, ?_⟩; (repeat (first | (go_big_quiet_step (fail)) | (go_big_quiet_want; (first | refine quiet_ld Sc ?_ | refine quiet_ld8 Sc ?_ | refine quiet_ld0 ?_ | refine quiet_ldA Sc ?_ | refine quiet_b2sB Sc ?_ | refine quiet_b2sR Sc ?_ | refine quiet_ldc Sc ?_); go_big_quiet_on))); refine wpQuiet_nil ?_
    rw [List.take_of_length_le (Nat.le_of_eq hY.out), hres.out] at S
    go_wp2_with (first | go_big_skip | ((with_reducible show Code.wp _ (Code.region _ _ true) _ _ _); refine St.regionLast S ?_; (repeat (first | (go_big_quiet_step (fail)) | (go_big_quiet_want; (first | refine quiet_ld S ?_ | refine quiet_ld8 S ?_ | refine quiet_ld0 ?_ | refine quiet_ldA S ?_ | refine quiet_b2sB S ?_ | refine quiet_b2sR S ?_ | refine quiet_ldc S ?_); go_big_quiet_on))); refine wpQuiet_nil ?_; clear S; intro wq S) | go_big_skip | (refine wpList_ld S ?_) | (refine wpList_ld8 S ?_) | (refine wpList_ld0 ?_) | (refine wpList_ldA S ?_) | (refine wpList_st8 S ?_; (clear S; intro ws S)) | (refine wpList_st S ?_; (clear S; intro ws S)) | (refine wpList_box S ?_; (clear S; intro nb wb hnb S)) | (refine wpList_alloc S ?_; (clear S; intro nb wb hnb S)) | (refine wpList_mk8 S ?_; (clear S; intro nb wb hnb S)) | (refine wpList_mk S ?_; (clear S; intro nb wb hnb S)) | (refine wpList_bs S ?_; (clear S; intro nb wb hnb S)) | (refine wpList_stA S ?_; (clear S; intro ws S; simp only [splice, List.take_zero, List.take_succ_cons, List.drop_succ_cons, List.drop_zero, List.drop_nil, List.length_cons, List.length_nil, Nat.reduceAdd, Nat.zero_add, List.nil_append, List.cons_append, List.append_nil] at S)) | (refine wpList_b2sB S ?_) | (refine wpList_b2sR S ?_) | (refine wpList_ldc S ?_))
    ((first | go_ret | go_ret2 | go_ret3 | go_end0 | skip); refine hR.out _ _ ?_)
    exact ⟨⟨nb, 0, none⟩, n, rfl, Nat.le_refl _, S.src8w (by repeat (first | exact Pull.head | apply Pull.tail)) hpl.out, .inr hnb, S.sel (by repeat (first | exact Sel.nil | (apply Sel.cons; (repeat (first | exact Pull.head | apply Pull.tail)))))⟩
end Go.Proofs.YtbklhnpnkinadaaDoor
