/- The ring buffer of the library: bytes moved that lie above the index. · Bytes of a ring are written once more, behind all others. -/
import Derived.Test.YtbklhnpnkinadaaDoorK2
import Derived.Test.YtbklhnpnkinadaaDoorK6
section
namespace Go.Proofs.YtbklhnpnkinadaaDoor
open Go Go.RowKit Go.Vil
set_option linter.unusedSimpArgs false
set_option linter.unusedVariables false
set_option maxRecDepth 100000

set_option maxHeartbeats 6400000 in
theorem ringMoveB (q m : Nat) (T : TypeId) (r : Ri) (W sl : List UInt8) (k n : Nat) (post : List Value) (z : Int) (w : World) (hz : z = r.b + k)
    (hM : Mem w (rMem q m T r sl post)) (h : Snug r W (r.data ++ sl).length) (hk : k + n ≤ W.length) (hA : r.ix < r.at' k) :
    Calls Tryd.prog 53 #[.pointer (some ⟨q, 0, none⟩), .int .i64 z, .int .i64 n] w fun e w' =>
      e = .returned (.int .i64 r.e) ∧ St w [q, m] w' (rMem q m T (r.puts ((W.drop k).take n)) sl post) := by
  subst hz
  have S : St w [q, m] w [rHead q m T r.b r.e r.data.length (r.data ++ sl).length r.ix post, rBlk m r.data sl] := St.start hM
  clear hM
  have hsn := hidden h
  obtain ⟨hh, h2, h3, h4⟩ := h
  have h5 := hh.le
  have h6 := hh.len
  have h7 := hh.fit
  have h8 := hh.ix
  have hat := Ri.at_lt hh k
  have hsz : r.size = r.data.length := rfl
  have hle : r.len = r.e - r.b := rfl
  have hk2 : r.b + k + n ≤ r.e := by omega
  have hb1 : decide ((r.e : Int) < (r.b : Int) + (k : Int) + (n : Int)) = false := decide_eq_false (by omega)
  have hpl : ((W.drop k).take n).length = n := by rw [List.length_take, List.length_drop]; omega
  have hn3 : n ≤ r.data.length := by omega
  have hlow := @Ri.evac_low r W hh k n hk
  have hhigh := @Ri.evac_high r W hh k n hk
  have hsame := @Ri.moved_same r W hh k n hk
  have hone := Ri.puts_one r ((W.drop k).take n)
  have htwo := Ri.puts_two r ((W.drop k).take n) (by omega) h8
  have hpin := @Ri.piece_in r W hh sl k n hk
  have htsrc := fun ha => @Ri.evac_two_src r W hh k n hk ha sl
  have hwrap := @Ri.evac_wrap r W hh k n hk
  rw [hpl] at hone htwo
  rw [hsz] at h7 h8 hat hhigh hsame hone htwo hpin htsrc hwrap
  generalize hP : (W.drop k).take n = p at *
  have hcl : (r.data ++ sl).length = r.data.length + sl.length := List.length_append
  unfold rMem
  have hbE := hidden (show (r.puts p).b = max r.b (r.e + n - r.data.length) by rw [Ri.puts_b p r (by omega), hpl]; rfl)
  have heE := hidden (show (r.puts p).e = r.e + n by rw [Ri.puts_e, hpl])
  have hdl : (r.puts p).data.length = r.data.length := Ri.puts_size p r
  have hdc : ((r.puts p).data ++ sl).length = (r.data ++ sl).length := by rw [List.length_append, hdl, List.length_append]
  rw [hdl, hdc]
  generalize hC : (r.data ++ sl).length = C at *
  have hlen : r.e - r.b ≤ r.data.length := by omega
  have hone := hidden (fun h => hone h (by omega))
  replace htwo := hidden htwo
  replace hlow := hidden hlow
  replace hhigh := hidden hhigh
  replace hsame := hidden hsame
  replace hpin := hidden hpin
  replace htsrc := hidden htsrc
  replace hwrap := hidden hwrap
  replace hpl := hidden hpl
  replace hP := hidden hP
  replace hcl := hidden hcl
  replace hh := hidden hh
  replace hk := hidden hk
  clear hle hsz hdl hdc h6
  refine Calls.cps ?_; intro R hR
  go_enter Tryd.func53, Tryd.ntmps53
  go_wp2_with ((refine wpList_ld S ?_))
  refine Calls.mono (ringOff q m T r W C k post _ _ rfl S.sel1 hsn.out (by have := hk.out; omega)) ?_
  rintro e w2 ⟨rfl, C1⟩
  have S2 := S.call C1; clear S C1; simp only [List.cons_append, List.nil_append] at S2; have S := S2; clear S2
  generalize r.at' k = at0 at *
  go_upto_if 36 with ((refine wpList_ld S ?_))
  go_cut [] (fun w' => St w [q, m] w' [rHead q m T r.b r.e r.data.length C (r.puts p).ix post, rBlk m (r.puts p).data sl])
  case first =>
    have hbb : ((at0 : Int) == (r.ix : Int)) = false := by simp; omega
    · obtain ⟨hf1, hf2, hf3, hf4⟩ := hhigh.out (by omega)
      have hbb2 : decide ((at0 : Int) < (r.ix : Int)) = false := decide_eq_false (by omega)
      clear hf1
      by_cases c3 : at0 + n ≤ r.data.length
      · have hw := hone (by omega)
        have hr1 : (r.puts p).data = splice r.data r.ix p := by rw [hw]
        have hr2 : (r.puts p).ix = r.ix + n := by rw [hw]
        clear hw
        replace hr1 := hidden hr1
        replace hr2 := hidden hr2
        replace hf2 := hidden hf2
        go_upto_region 16 with ((refine wpList_ld S ?_))
        refine St.regionC S [rHead q m T r.b r.e r.data.length C r.ix post] 18 [([0, 1, 2, 3, 4, 5, 6, 7, 8, 9, 10, 11, 12, 13, 14, 15], 16)] [17] ?_
        clear S; intro wr Cr S Sc; simp only [walkC, pick, List.getElem?_cons_succ, List.getElem?_cons_zero, List.drop_succ_cons, List.drop_zero]
        (repeat (first | (go_big_quiet_want; (first | (refine quiet_slcB r.ix ?_; rw [cutN_low (by omega), Nat.zero_add]) | (refine quiet_slcBH at0 (at0 + n) ?_; rw [cutN_low (by omega), Nat.zero_add, Nat.add_sub_cancel_left])); go_big_quiet_on) | (first | (go_big_quiet_step (fail)) | (go_big_quiet_want; (refine quiet_ld Sc ?_); go_big_quiet_on))))
        refine wpQuiet_nil ?_
        have hsrc : Src wr 1 (.slice (some ⟨m, at0, none⟩) (n) (C - at0)) (n) (u8s (p)) := by
          refine St.srcIn (b := m) (o := at0) (n := n) (l := r.data ++ sl) S (by repeat (first | exact Pull.head | apply Pull.tail)) ?_ ?_
          · rw [List.length_append]; omega
          · exact hpin.out (by omega)
        refine wpList_copyM S hsrc (n) ?_ (hfit := by rw [List.length_append]; omega)
        clear S hsrc; intro ws S
        refine ⟨(S.sel (by repeat (first | exact Sel.nil | (apply Sel.cons; (repeat (first | exact Pull.head | apply Pull.tail)))))).inSt _, ?_⟩; (repeat ((go_big_quiet_step (fail)))); refine wpQuiet_nil ?_
        rw [List.take_of_length_le (Nat.le_of_eq hpl.out), splice_app _ _ _ _ (by rw [hpl.out]; omega), ← hr1.out] at S
        go_wp2_with (first | (refine wpList_ld S ?_) | (refine wpList_st S ?_; (clear S; intro ws S)))
        go_meet
        exact S.head rfl rfl (by have := hr2.out; omega)
      · have hX : (r.data.drop at0).length = r.data.length - at0 := List.length_drop
        have hY : (r.data.take (at0 + n - r.data.length)).length = at0 + n - r.data.length := by rw [List.length_take]; omega
        have hXY := hwrap.out (by omega) (by omega)
        have hin2 := hsn.out.has.ix
        have hcle := hcl.out
        generalize hXe : r.data.drop at0 = X at *
        generalize hYe : r.data.take (at0 + n - r.data.length) = Y at *
        replace hf2 := hidden hf2
        go_upto_region 18 with ((refine wpList_ld S ?_))
        refine St.regionC S [rHead q m T r.b r.e r.data.length C r.ix post] 17 [([0, 1, 2, 3, 4, 5, 6, 7, 8, 9, 10, 11, 12, 13, 14], 15)] [16] ?_
        clear S; intro wr Cr S Sc; simp only [walkC, pick, List.getElem?_cons_succ, List.getElem?_cons_zero, List.drop_succ_cons, List.drop_zero]
        (repeat (first | (go_big_quiet_want; (first | (refine quiet_slcB r.ix ?_; rw [cutN_low (by omega), Nat.zero_add]) | (refine quiet_slcB at0 ?_; rw [cutN_low (by omega), Nat.zero_add])); go_big_quiet_on) | (first | (go_big_quiet_step (fail)) | (go_big_quiet_want; (refine quiet_ld Sc ?_); go_big_quiet_on))))
        refine wpQuiet_nil ?_
        have hsrc : Src wr 1 (.slice (some ⟨m, at0, none⟩) (r.data.length - at0) (C - at0)) (r.data.length - at0) (u8s (X)) := by
          refine St.srcIn (b := m) (o := at0) (n := r.data.length - at0) (l := r.data ++ sl) S (by repeat (first | exact Pull.head | apply Pull.tail)) ?_ ?_
          · rw [List.length_append]; omega
          · rw [List.drop_append_of_le_length (by omega), List.take_append_of_le_length (Nat.le_of_eq List.length_drop.symm), List.take_of_length_le (Nat.le_of_eq List.length_drop)]; exact hXe
        refine wpList_copyM S hsrc (r.data.length - at0) ?_ (hfit := by rw [List.length_append]; omega)
        clear S hsrc; intro ws S
        refine ⟨(S.sel (by repeat (first | exact Sel.nil | (apply Sel.cons; (repeat (first | exact Pull.head | apply Pull.tail)))))).inSt _, ?_⟩; (repeat ((go_big_quiet_step (fail)))); refine wpQuiet_nil ?_
        rw [List.take_of_length_le (Nat.le_of_eq hX), splice_app _ _ _ _ (by rw [hX]; omega)] at S
        have hlo1 := hidden (fun (s n : Nat) => @low_src r.data sl X r.ix s n)
        have hD1 : (splice r.data r.ix X).length = r.data.length := splice_length _ _ _ (by rw [hX]; omega)
        have hss := splice_splice r.data r.ix X
        generalize hD1e : splice r.data r.ix X = D1 at *
        replace hD1e := hidden hD1e
        replace hXe := hidden hXe
        replace hYe := hidden hYe
        replace hX := hidden hX
        replace hY := hidden hY
        replace hss := hidden hss
        replace hXY := hidden hXY
        have hcle := hcl.out
        obtain ⟨i1, hi1⟩ : ∃ i1, i1 = r.ix + (r.data.length - at0) := ⟨_, rfl⟩
        obtain ⟨tl, htl⟩ : ∃ tl, tl = at0 + n - r.data.length := ⟨_, rfl⟩
        go_upto_region 21 with (first | (refine wpList_ld S ?_) | (refine wpList_st S ?_; (clear S; intro ws S)))
        replace S := S.head (b' := r.b) (e' := r.e) (ix' := i1) rfl rfl (by omega)
        go_upto_region 21 with (fail)
        refine St.regionC S [rHead q m T r.b r.e r.data.length C i1 post] 17 [([0, 1, 2, 3, 4, 5, 6, 7, 8, 9, 10, 11, 12, 13, 14], 15)] [16] ?_
        clear S; intro wr Cr S Sc; simp only [walkC, pick, List.getElem?_cons_succ, List.getElem?_cons_zero, List.drop_succ_cons, List.drop_zero]
        (repeat (first | (go_big_quiet_want; (first | (refine quiet_slcB i1 ?_; rw [cutN_low (by omega), Nat.zero_add]) | (refine quiet_slcH tl ?_)); go_big_quiet_on) | (first | (go_big_quiet_step (fail)) | (go_big_quiet_want; (refine quiet_ld Sc ?_); go_big_quiet_on))))
        refine wpQuiet_nil ?_
        have hsrc : Src wr 1 (.slice (some ⟨m, 0, none⟩) tl C) tl (u8s Y) := by
          refine St.srcIn (b := m) (o := 0) (n := tl) (l := D1 ++ sl) S (by repeat (first | exact Pull.head | apply Pull.tail)) ?_ ?_
          · rw [List.length_append]; omega
          · rw [hlo1.out 0 tl (by omega) (by have := hX.out; omega), List.drop_zero, htl]; exact hYe.out
        by_cases c4 : r.data.length ≤ r.ix + n
        · have hw := htwo.out c4
          have hr1 : (r.puts p).data = splice (splice r.data r.ix (p.take (r.data.length - r.ix))) 0 (p.drop (r.data.length - r.ix)) := by rw [hw]
          have hr2 : (r.puts p).ix = r.ix + n - r.data.length := by rw [hw]
          clear hw
          obtain ⟨n2, hn2⟩ : ∃ n2, n2 = r.data.length - i1 := ⟨_, rfl⟩
          have hY2 : (Y.take n2).length = n2 := by rw [List.length_take]; have := hY.out; omega
          have hY3 : (Y.drop n2).length = tl - n2 := by rw [List.length_drop]; have := hY.out; omega
          have e1 : splice r.data r.ix (p.take (r.data.length - r.ix)) = splice D1 i1 (Y.take n2) := by
            have hx := hX.out
            rw [← hXY.out, List.take_append, List.take_of_length_le (by omega), show r.data.length - r.ix - X.length = n2 by omega]
            have := hss.out (Y.take n2) (by omega)
            rw [← this, show r.ix + X.length = i1 by omega]
          have e2 : p.drop (r.data.length - r.ix) = Y.drop n2 := by
            have hx := hX.out
            rw [← hXY.out, List.drop_append, List.drop_of_length_le (by omega), List.nil_append, show r.data.length - r.ix - X.length = n2 by omega]
          rw [e1, e2] at hr1
          clear e1 e2
          replace hr1 := hidden hr1
          replace hr2 := hidden hr2
          replace hYe := hidden (show ((splice D1 i1 (Y.take n2) ++ sl).drop n2).take (tl - n2) = Y.drop n2 by
            rw [low_src (by omega) (by omega)]
            have h1 := hlo1.out n2 (tl - n2) (by omega) (by have := hX.out; omega)
            rw [List.drop_append_of_le_length (by omega), List.take_append_of_le_length (by rw [List.length_drop]; omega)] at h1
            rw [h1, ← List.drop_take, htl]
            rw [hYe.out])
          refine wpList_copyM S hsrc n2 ?_ (hfit := by rw [List.length_append]; omega)
          clear S hsrc; intro ws S
          refine ⟨(S.sel (by repeat (first | exact Sel.nil | (apply Sel.cons; (repeat (first | exact Pull.head | apply Pull.tail)))))).inSt _, ?_⟩; (repeat ((go_big_quiet_step (fail)))); refine wpQuiet_nil ?_
          rw [splice_app _ _ _ _ (by rw [hY2]; omega)] at S
          have hD2 : (splice D1 i1 (Y.take n2)).length = r.data.length := (splice_length _ _ _ (by rw [hY2]; omega)).trans hD1
          generalize splice D1 i1 (Y.take n2) = D2 at *
          replace hY3 := hidden hY3
          have hbb3 : ((i1 : Int) + (n2 : Int) == (r.data.length : Int)) = true := by simp; omega
          go_upto_region 24 with (first | ((with_reducible show Code.wp _ (Code.region _ _ true) _ _ _); refine St.regionLast S ?_; (repeat (first | (go_big_quiet_step (fail)) | (go_big_quiet_want; (refine quiet_ld S ?_); go_big_quiet_on))); refine wpQuiet_nil ?_; clear S; intro wq S) | (refine wpList_ld S ?_) | (refine wpList_st S ?_; (clear S; intro ws S)))
          replace S := S.head (b' := r.b) (e' := r.e) (ix' := r.data.length) rfl rfl (by omega)
          refine St.regionC S [rHead q m T r.b r.e r.data.length C r.data.length post] 15 [([0, 1, 2, 3, 4, 5, 6, 7, 8, 9, 10, 11], 12)] [13, 14] ?_
          clear S; intro wr Cr S Sc; simp only [walkC, pick, List.getElem?_cons_succ, List.getElem?_cons_zero, List.drop_succ_cons, List.drop_zero]
          (repeat (first | (go_big_quiet_want; (first | (refine quiet_slcBH n2 tl ?_; rw [cutN_low (by omega), Nat.zero_add])); go_big_quiet_on) | (first | (go_big_quiet_step (fail)) | (go_big_quiet_want; (refine quiet_ld Sc ?_); go_big_quiet_on))))
          refine wpQuiet_nil ?_
          have hsrc : Src wr 1 (.slice (some ⟨m, n2, none⟩) (tl - n2) (C - n2)) (tl - n2) (u8s (Y.drop n2)) := by
            refine St.srcIn (b := m) (o := n2) (n := tl - n2) (l := D2 ++ sl) S (by repeat (first | exact Pull.head | apply Pull.tail)) ?_ ?_
            · rw [List.length_append]; omega
            · exact hYe.out
          refine wpList_copyM S hsrc (tl - n2) ?_ (hfit := by rw [List.length_append]; omega)
          clear S hsrc; intro ws2 S
          refine ⟨(S.sel (by repeat (first | exact Sel.nil | (apply Sel.cons; (repeat (first | exact Pull.head | apply Pull.tail)))))).inSt _, ?_⟩; (repeat ((go_big_quiet_step (fail)))); refine wpQuiet_nil ?_
          rw [List.take_of_length_le (Nat.le_of_eq hY3.out), splice_app _ _ _ _ (by rw [hY3.out]; omega), ← hr1.out] at S
          go_wp2_with ((refine wpList_st S ?_; (clear S; intro ws S)))
          go_meet
          exact S.head rfl rfl (by have := hr2.out; omega)
        · have hw := hone (by omega)
          have hr1 : (r.puts p).data = splice r.data r.ix p := by rw [hw]
          have hr2 : (r.puts p).ix = r.ix + n := by rw [hw]
          clear hw
          have e1 : splice r.data r.ix p = splice D1 i1 Y := by
            have hx := hX.out
            have := hss.out Y (by have := hY.out; omega)
            rw [← hXY.out, ← this, show r.ix + X.length = i1 by omega]
          rw [e1] at hr1
          clear e1
          replace hr1 := hidden hr1
          replace hr2 := hidden hr2
          refine wpList_copyM S hsrc tl ?_ (hfit := by rw [List.length_append]; omega)
          clear S hsrc; intro ws S
          refine ⟨(S.sel (by repeat (first | exact Sel.nil | (apply Sel.cons; (repeat (first | exact Pull.head | apply Pull.tail)))))).inSt _, ?_⟩; (repeat ((go_big_quiet_step (fail)))); refine wpQuiet_nil ?_
          rw [List.take_of_length_le (by have := hY.out; omega), splice_app _ _ _ _ (by have := hY.out; omega), ← hr1.out] at S
          have hbb3 : ((i1 : Int) + (tl : Int) == (r.data.length : Int)) = false := by simp; omega
          go_wp2_with (first | ((with_reducible show Code.wp _ (Code.region _ _ true) _ _ _); refine St.regionLast S ?_; (repeat (first | (go_big_quiet_step (fail)) | (go_big_quiet_want; (refine quiet_ld S ?_); go_big_quiet_on))); refine wpQuiet_nil ?_; clear S; intro wq S) | (refine wpList_ld S ?_) | (refine wpList_st S ?_; (clear S; intro ws S)))
          go_meet
          exact S.head rfl rfl (by have := hr2.out; omega)
  case rest =>
    have S := hcut
    clear hcut
    by_cases c1 : r.b < r.e + n - r.data.length
    · go_wp2_with (first | ((with_reducible show Code.wp _ (Code.region _ _ true) _ _ _); refine St.regionLast S ?_; (repeat (first | (go_big_quiet_step (fail)) | (go_big_quiet_want; (refine quiet_ld S ?_); go_big_quiet_on))); refine wpQuiet_nil ?_; clear S; intro wq S) | (refine wpList_ld S ?_) | (refine wpList_st S ?_; (clear S; intro ws S)))
      ((first | go_ret | go_ret2 | go_ret3 | go_end0 | skip); refine hR.out _ _ ?_)
      exact ⟨rfl, by rw [hbE.out, heE.out]; exact S.head (by omega) (by omega) rfl⟩
    · go_wp2_with (first | ((with_reducible show Code.wp _ (Code.region _ _ true) _ _ _); refine St.regionLast S ?_; (repeat (first | (go_big_quiet_step (fail)) | (go_big_quiet_want; (refine quiet_ld S ?_); go_big_quiet_on))); refine wpQuiet_nil ?_; clear S; intro wq S) | (refine wpList_ld S ?_) | (refine wpList_st S ?_; (clear S; intro ws S)))
      ((first | go_ret | go_ret2 | go_ret3 | go_end0 | skip); refine hR.out _ _ ?_)
      exact ⟨rfl, by rw [hbE.out, heE.out]; exact S.head (by omega) (by omega) rfl⟩
end Go.Proofs.YtbklhnpnkinadaaDoor
end
section
namespace Go.Proofs.YtbklhnpnkinadaaDoor
open Go Go.RowKit Go.Vil
set_option linter.unusedSimpArgs false
set_option linter.unusedVariables false
theorem ringMove (q m : Nat) (T : TypeId) (r : Ri) (W sl : List UInt8) (k n : Nat) (post : List Value) (z : Int) (w : World) (hz : z = r.b + k)
    (hM : Mem w (rMem q m T r sl post)) (h : Snug r W (r.data ++ sl).length) (hk : k + n ≤ W.length) :
    Calls Tryd.prog 53 #[.pointer (some ⟨q, 0, none⟩), .int .i64 z, .int .i64 n] w fun e w' =>
      e = .returned (.int .i64 r.e) ∧ St w [q, m] w' (rMem q m T (r.puts ((W.drop k).take n)) sl post) := by
  by_cases hA : r.at' k ≤ r.ix
  · exact ringMoveA q m T r W sl k n post z w hz hM h hk hA
  · exact ringMoveB q m T r W sl k n post z w hz hM h hk (by omega)
end Go.Proofs.YtbklhnpnkinadaaDoor
end
