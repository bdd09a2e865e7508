/- The ring buffer of the library: another size. -/
import Derived.Test.YtbklhnpnkinadaaDoorRa
import Derived.Test.YtbklhnpnkinadaaDoorRiS
import Derived.Test.YtbklhnpnkinadaaDoorArr
namespace Go.Proofs.YtbklhnpnkinadaaDoor
open Go Go.RowKit Go.Vil
set_option linter.unusedSimpArgs false
set_option linter.unusedVariables false
set_option maxRecDepth 100000

theorem sized_list {X Y : List UInt8} {n : Nat} (h : X.length < n) :
    splice (splice (List.replicate n 0) 0 X) X.length (Y.take (min Y.length (n - X.length))) = ((X ++ Y) ++ List.replicate n 0).take n := by
  have hl : (Y.take (min Y.length (n - X.length))).length = min Y.length (n - X.length) := by rw [List.length_take]; omega
  have h1 := splice_splice (List.replicate n (0 : UInt8)) 0 X (Y.take (min Y.length (n - X.length))) (by rw [List.length_replicate, hl]; omega)
  rw [Nat.zero_add] at h1
  rw [h1]
  unfold splice
  rw [List.take_zero, List.nil_append, Nat.zero_add, List.length_append, hl, List.drop_replicate]
  by_cases hc : Y.length ≤ n - X.length
  · rw [Nat.min_eq_left hc, List.take_of_length_le (Nat.le_refl _), List.take_append (l₁ := X ++ Y), List.take_of_length_le (l := X ++ Y) (by rw [List.length_append]; omega), List.length_append, List.take_replicate]
    congr 2; omega
  · rw [Nat.min_eq_right (by omega), show n - (X.length + (n - X.length)) = 0 by omega, List.replicate_zero, List.append_nil, List.take_append_of_le_length (by rw [List.length_append]; omega), List.take_append, List.take_of_length_le (l := X) (by omega)]
theorem sized_list0 {X Y : List UInt8} {n : Nat} (h : n ≤ X.length) :
    splice (List.replicate n 0) 0 (X.take n) = ((X ++ Y) ++ List.replicate n 0).take n := by
  rw [splice_all _ _ (by rw [List.length_replicate, List.length_take]; omega), List.append_assoc, List.take_append_of_le_length h]

theorem _root_.Go.Vil.At.same {r : Res} {l l' : List Res} (h : At r r l l') : l = l' := by
  induction h with
  | head => rfl
  | tail _ ih => rw [ih]
theorem _root_.Go.Vil.St.headA {w w' : World} {bs : List Nat} {L L' : List Res} {q m n c : Nat} {T : TypeId} {b e ix b' e' ix' : Int} {post : List Value} (S : St w bs w' L) (hb : b = b') (he : e = e') (hi : ix = ix')
    (hA : At (rHead q m T b e n c ix post) (rHead q m T b' e' n c ix' post) L L' := by repeat (first | exact At.head | apply At.tail)) : St w bs w' L' := by
  subst hb he hi
  rw [← hA.same]
  exact S
set_option maxHeartbeats 3200000 in
theorem ringResize (q m : Nat) (T : TypeId) (r : Ri) (W sl : List UInt8) (n : Nat) (post : List Value) (w : World)
    (hM : Mem w (rMem q m T r sl post)) (h : Snug r W (r.data ++ sl).length) (h1 : 1 ≤ n) (hn : n ≤ 1073741824) (hl : r.b = r.e ∨ r.b + n ≤ r.e) :
    Calls Tryd.prog 54 #[.pointer (some ⟨q, 0, none⟩), .int .i64 n] w fun e w' =>
      e = .returned (.tuple #[]) ∧ ∃ m' sl', St w [q, m] w' (rMem q m' T (r.sized n) sl' post) := by
  have S : St w [q, m] w [rHead q m T r.b r.e r.data.length (r.data ++ sl).length r.ix post, rBlk m r.data sl] := St.start hM
  clear hM
  obtain ⟨hh, h2, h3, h4⟩ := h
  have h5 := hh.le
  have h6 := hh.len
  have h7 := hh.fit
  have h8 := hh.ix
  have hsz : r.size = r.data.length := rfl
  have hle : r.len = r.e - r.b := rfl
  have hat := Ri.at_lt hh (r.len - n)
  have hatd := hidden (show r.at' (r.len - n) = (r.base + (r.len - n)) % r.size from rfl)
  have hbase := hidden (show r.base = if r.len < r.size then 0 else r.ix from rfl)
  by_cases c0 : n = r.data.length
  · have hres : r.sized n = r := if_pos c0
    rw [hres]
    have hbb : ((r.data.length : Int) == (n : Int)) = true := by simp [c0]
    replace c0 := hidden c0
    clear hres
    refine Calls.cps ?_; intro R hR
    go_enter Tryd.func54, Tryd.ntmps54
    go_wp2_with (first | go_big_skip | ((with_reducible show Code.wp _ (Code.region _ _ true) _ _ _); refine St.regionLast S ?_; (repeat (first | (go_big_quiet_step (fail)) | (go_big_quiet_want; (first | refine quiet_ld S ?_ | refine quiet_ld8 S ?_ | refine quiet_ld0 ?_ | refine quiet_ldA S ?_ | refine quiet_b2sB S ?_ | refine quiet_b2sR S ?_ | refine quiet_ldc S ?_); go_big_quiet_on))); refine wpQuiet_nil ?_; clear S; intro wq S) | go_big_skip | (refine wpList_ld S ?_) | (refine wpList_ld8 S ?_) | (refine wpList_ld0 ?_) | (refine wpList_ldA S ?_) | (refine wpList_st8 S ?_; (clear S; intro ws S)) | (refine wpList_st S ?_; (clear S; intro ws S)) | (refine wpList_box S ?_; (clear S; intro nb wb hnb S)) | (refine wpList_alloc S ?_; (clear S; intro nb wb hnb S)) | (refine wpList_mk8 S ?_; (clear S; intro nb wb hnb S)) | (refine wpList_mk S ?_; (clear S; intro nb wb hnb S)) | (refine wpList_bs S ?_; (clear S; intro nb wb hnb S)) | (refine wpList_stA S ?_; (clear S; intro ws S; simp only [splice, List.take_zero, List.take_succ_cons, List.drop_succ_cons, List.drop_zero, List.drop_nil, List.length_cons, List.length_nil, Nat.reduceAdd, Nat.zero_add, List.nil_append, List.cons_append, List.append_nil] at S)) | (refine wpList_b2sB S ?_) | (refine wpList_b2sR S ?_) | (refine wpList_ldc S ?_))
    ((first | go_ret | go_ret2 | go_ret3 | go_end0 | skip); refine hR.out _ _ ?_)
    exact ⟨rfl, m, sl, S⟩
  · have hres : r.sized n = ⟨((r.data.drop (r.at' (r.len - n)) ++ r.data.take (r.at' (r.len - n))) ++ List.replicate n 0).take n, max r.b (r.e - n), r.e, 0⟩ := if_neg c0
    have hbb : ((r.data.length : Int) == (n : Int)) = false := by simp; omega
    rw [hsz] at h7 h8 hat
    rw [hres]
    have hcl : (r.data ++ sl).length = r.data.length + sl.length := List.length_append
    generalize hC : (r.data ++ sl).length = C at *
    replace hres := hidden hres
    replace hcl := hidden hcl
    replace hh := hidden hh
    have hlen : r.e - r.b ≤ r.data.length := by omega
    have hlo := hidden hle
    clear h6
    refine Calls.cps ?_; intro R hR
    go_enter Tryd.func54, Tryd.ntmps54
    go_upto_if 31 with (first | (refine wpList_mk8 (ln := n) (cn := n) S ?_; (clear S; intro nb wb hnb S)) | ((with_reducible show Code.wp _ (Code.region _ _ true) _ _ _); refine St.regionLast S ?_; (repeat (first | (go_big_quiet_step (fail)) | (go_big_quiet_want; (first | refine quiet_ld S ?_ | refine quiet_ld8 S ?_ | refine quiet_ld0 ?_ | refine quiet_ldA S ?_ | refine quiet_b2sB S ?_ | refine quiet_b2sR S ?_ | refine quiet_ldc S ?_); go_big_quiet_on))); refine wpQuiet_nil ?_; clear S; intro wq S) | go_big_skip | (refine wpList_ld S ?_) | (refine wpList_ld8 S ?_) | (refine wpList_ld0 ?_) | (refine wpList_ldA S ?_) | (refine wpList_st8 S ?_; (clear S; intro ws S)) | (refine wpList_st S ?_; (clear S; intro ws S)) | (refine wpList_box S ?_; (clear S; intro nb wb hnb S)) | (refine wpList_alloc S ?_; (clear S; intro nb wb hnb S)) | (refine wpList_mk8 S ?_; (clear S; intro nb wb hnb S)) | (refine wpList_mk S ?_; (clear S; intro nb wb hnb S)) | (refine wpList_bs S ?_; (clear S; intro nb wb hnb S)) | (refine wpList_stA S ?_; (clear S; intro ws S; simp only [splice, List.take_zero, List.take_succ_cons, List.drop_succ_cons, List.drop_zero, List.drop_nil, List.length_cons, List.length_nil, Nat.reduceAdd, Nat.zero_add, List.nil_append, List.cons_append, List.append_nil] at S)) | (refine wpList_b2sB S ?_) | (refine wpList_b2sR S ?_) | (refine wpList_ldc S ?_))
    go_cut [5] (fun o w' => o = .int .i64 (r.base : Nat) ∧ St w [q, m] w' [.blk nb (.cells (u8s (List.replicate n 0)).toArray 5 (0, 0)), rHead q m T r.b r.e r.data.length C r.ix post, rBlk m r.data sl])
    case first =>
      by_cases c1 : r.e - r.b = r.data.length
      · have hb1 : ((r.e : Int) - (r.b : Int) == (r.data.length : Int)) = true := by simp; omega
        have hb := hbase.out
        rw [if_neg (by omega)] at hb
        replace hb := hidden hb
        go_wp2_with (first | go_big_skip | ((with_reducible show Code.wp _ (Code.region _ _ true) _ _ _); refine St.regionLast S ?_; (repeat (first | (go_big_quiet_step (fail)) | (go_big_quiet_want; (first | refine quiet_ld S ?_ | refine quiet_ld8 S ?_ | refine quiet_ld0 ?_ | refine quiet_ldA S ?_ | refine quiet_b2sB S ?_ | refine quiet_b2sR S ?_ | refine quiet_ldc S ?_); go_big_quiet_on))); refine wpQuiet_nil ?_; clear S; intro wq S) | go_big_skip | (refine wpList_ld S ?_) | (refine wpList_ld8 S ?_) | (refine wpList_ld0 ?_) | (refine wpList_ldA S ?_) | (refine wpList_st8 S ?_; (clear S; intro ws S)) | (refine wpList_st S ?_; (clear S; intro ws S)) | (refine wpList_box S ?_; (clear S; intro nb wb hnb S)) | (refine wpList_alloc S ?_; (clear S; intro nb wb hnb S)) | (refine wpList_mk8 S ?_; (clear S; intro nb wb hnb S)) | (refine wpList_mk S ?_; (clear S; intro nb wb hnb S)) | (refine wpList_bs S ?_; (clear S; intro nb wb hnb S)) | (refine wpList_stA S ?_; (clear S; intro ws S; simp only [splice, List.take_zero, List.take_succ_cons, List.drop_succ_cons, List.drop_zero, List.drop_nil, List.length_cons, List.length_nil, Nat.reduceAdd, Nat.zero_add, List.nil_append, List.cons_append, List.append_nil] at S)) | (refine wpList_b2sB S ?_) | (refine wpList_b2sR S ?_) | (refine wpList_ldc S ?_))
        go_meet
        exact ⟨by rw [hb.out], S⟩
      · have hb1 : ((r.e : Int) - (r.b : Int) == (r.data.length : Int)) = false := by simp; omega
        have hb := hbase.out
        rw [if_pos (by omega)] at hb
        replace hb := hidden hb
        go_wp2_with (first | go_big_skip | ((with_reducible show Code.wp _ (Code.region _ _ true) _ _ _); refine St.regionLast S ?_; (repeat (first | (go_big_quiet_step (fail)) | (go_big_quiet_want; (first | refine quiet_ld S ?_ | refine quiet_ld8 S ?_ | refine quiet_ld0 ?_ | refine quiet_ldA S ?_ | refine quiet_b2sB S ?_ | refine quiet_b2sR S ?_ | refine quiet_ldc S ?_); go_big_quiet_on))); refine wpQuiet_nil ?_; clear S; intro wq S) | go_big_skip | (refine wpList_ld S ?_) | (refine wpList_ld8 S ?_) | (refine wpList_ld0 ?_) | (refine wpList_ldA S ?_) | (refine wpList_st8 S ?_; (clear S; intro ws S)) | (refine wpList_st S ?_; (clear S; intro ws S)) | (refine wpList_box S ?_; (clear S; intro nb wb hnb S)) | (refine wpList_alloc S ?_; (clear S; intro nb wb hnb S)) | (refine wpList_mk8 S ?_; (clear S; intro nb wb hnb S)) | (refine wpList_mk S ?_; (clear S; intro nb wb hnb S)) | (refine wpList_bs S ?_; (clear S; intro nb wb hnb S)) | (refine wpList_stA S ?_; (clear S; intro ws S; simp only [splice, List.take_zero, List.take_succ_cons, List.drop_succ_cons, List.drop_zero, List.drop_nil, List.length_cons, List.length_nil, Nat.reduceAdd, Nat.zero_add, List.nil_append, List.cons_append, List.append_nil] at S)) | (refine wpList_b2sB S ?_) | (refine wpList_b2sR S ?_) | (refine wpList_ldc S ?_))
        go_meet
        exact ⟨by rw [hb.out]; rfl, S⟩
    case rest =>
      obtain ⟨rfl, S⟩ := hcut
      have hbl : r.base ≤ r.data.length := by have := hbase.out; split at this <;> omega
      go_upto_if 46 with (first | ((with_reducible show Code.wp _ (Code.region _ _ true) _ _ _); refine St.regionLast S ?_; (repeat (first | (go_big_quiet_step (fail)) | (go_big_quiet_want; (first | refine quiet_ld S ?_ | refine quiet_ld8 S ?_ | refine quiet_ld0 ?_ | refine quiet_ldA S ?_ | refine quiet_b2sB S ?_ | refine quiet_b2sR S ?_ | refine quiet_ldc S ?_); go_big_quiet_on))); refine wpQuiet_nil ?_; clear S; intro wq S) | go_big_skip | (refine wpList_ld S ?_) | (refine wpList_ld8 S ?_) | (refine wpList_ld0 ?_) | (refine wpList_ldA S ?_) | (refine wpList_st8 S ?_; (clear S; intro ws S)) | (refine wpList_st S ?_; (clear S; intro ws S)) | (refine wpList_box S ?_; (clear S; intro nb wb hnb S)) | (refine wpList_alloc S ?_; (clear S; intro nb wb hnb S)) | (refine wpList_mk8 S ?_; (clear S; intro nb wb hnb S)) | (refine wpList_mk S ?_; (clear S; intro nb wb hnb S)) | (refine wpList_bs S ?_; (clear S; intro nb wb hnb S)) | (refine wpList_stA S ?_; (clear S; intro ws S; simp only [splice, List.take_zero, List.take_succ_cons, List.drop_succ_cons, List.drop_zero, List.drop_nil, List.length_cons, List.length_nil, Nat.reduceAdd, Nat.zero_add, List.nil_append, List.cons_append, List.append_nil] at S)) | (refine wpList_b2sB S ?_) | (refine wpList_b2sR S ?_) | (refine wpList_ldc S ?_))
      go_cut [5] (fun o w' => o = .int .i64 (r.at' (r.len - n) : Nat) ∧ St w [q, m] w' [.blk nb (.cells (u8s (List.replicate n 0)).toArray 5 (0, 0)), rHead q m T (max r.b (r.e - n) : Nat) r.e r.data.length C r.ix post, rBlk m r.data sl])
      case first =>
        by_cases c1 : n < r.e - r.b
        · go_wp2_with (first | go_big_skip | ((with_reducible show Code.wp _ (Code.region _ _ true) _ _ _); refine St.regionLast S ?_; (repeat (first | (go_big_quiet_step (fail)) | (go_big_quiet_want; (first | refine quiet_ld S ?_ | refine quiet_ld8 S ?_ | refine quiet_ld0 ?_ | refine quiet_ldA S ?_ | refine quiet_b2sB S ?_ | refine quiet_b2sR S ?_ | refine quiet_ldc S ?_); go_big_quiet_on))); refine wpQuiet_nil ?_; clear S; intro wq S) | go_big_skip | (refine wpList_ld S ?_) | (refine wpList_ld8 S ?_) | (refine wpList_ld0 ?_) | (refine wpList_ldA S ?_) | (refine wpList_st8 S ?_; (clear S; intro ws S)) | (refine wpList_st S ?_; (clear S; intro ws S)) | (refine wpList_box S ?_; (clear S; intro nb wb hnb S)) | (refine wpList_alloc S ?_; (clear S; intro nb wb hnb S)) | (refine wpList_mk8 S ?_; (clear S; intro nb wb hnb S)) | (refine wpList_mk S ?_; (clear S; intro nb wb hnb S)) | (refine wpList_bs S ?_; (clear S; intro nb wb hnb S)) | (refine wpList_stA S ?_; (clear S; intro ws S; simp only [splice, List.take_zero, List.take_succ_cons, List.drop_succ_cons, List.drop_zero, List.drop_nil, List.length_cons, List.length_nil, Nat.reduceAdd, Nat.zero_add, List.nil_append, List.cons_append, List.append_nil] at S)) | (refine wpList_b2sB S ?_) | (refine wpList_b2sR S ?_) | (refine wpList_ldc S ?_))
          go_meet
          refine ⟨?_, S.headA (b := (r.e : Int) - n) (b' := (max r.b (r.e - n) : Nat)) (by omega) rfl rfl⟩
          have hmod : (((r.base + (r.len - n)) % r.size : Nat) : Int) = ((r.base : Int) + ((r.e : Int) - (r.b : Int) - (n : Int))) % (r.data.length : Int) := by
            rw [Int.natCast_emod]
            congr 1
            have := hlo.out; omega
          rw [hatd.out, hmod]
        · have hb1 : r.at' (r.len - n) = r.base := by
            rw [hatd.out, show r.len - n = 0 by omega, Nat.add_zero, Nat.mod_eq_of_lt (by have := hbase.out; split at this <;> omega)]
          replace hb1 := hidden hb1
          go_wp2_with (first | go_big_skip | ((with_reducible show Code.wp _ (Code.region _ _ true) _ _ _); refine St.regionLast S ?_; (repeat (first | (go_big_quiet_step (fail)) | (go_big_quiet_want; (first | refine quiet_ld S ?_ | refine quiet_ld8 S ?_ | refine quiet_ld0 ?_ | refine quiet_ldA S ?_ | refine quiet_b2sB S ?_ | refine quiet_b2sR S ?_ | refine quiet_ldc S ?_); go_big_quiet_on))); refine wpQuiet_nil ?_; clear S; intro wq S) | go_big_skip | (refine wpList_ld S ?_) | (refine wpList_ld8 S ?_) | (refine wpList_ld0 ?_) | (refine wpList_ldA S ?_) | (refine wpList_st8 S ?_; (clear S; intro ws S)) | (refine wpList_st S ?_; (clear S; intro ws S)) | (refine wpList_box S ?_; (clear S; intro nb wb hnb S)) | (refine wpList_alloc S ?_; (clear S; intro nb wb hnb S)) | (refine wpList_mk8 S ?_; (clear S; intro nb wb hnb S)) | (refine wpList_mk S ?_; (clear S; intro nb wb hnb S)) | (refine wpList_bs S ?_; (clear S; intro nb wb hnb S)) | (refine wpList_stA S ?_; (clear S; intro ws S; simp only [splice, List.take_zero, List.take_succ_cons, List.drop_succ_cons, List.drop_zero, List.drop_nil, List.length_cons, List.length_nil, Nat.reduceAdd, Nat.zero_add, List.nil_append, List.cons_append, List.append_nil] at S)) | (refine wpList_b2sB S ?_) | (refine wpList_b2sR S ?_) | (refine wpList_ldc S ?_))
          go_meet
          rw [hb1.out]
          exact ⟨rfl, S.headA (b := (r.b : Int)) (b' := (max r.b (r.e - n) : Nat)) (by omega) rfl rfl⟩
      case rest =>
        obtain ⟨rfl, S⟩ := hcut
        generalize r.at' (r.len - n) = at0 at *
        have hX : (r.data.drop at0).length = r.data.length - at0 := List.length_drop
        have hY : (r.data.take at0).length = at0 := by rw [List.length_take]; omega
        have hsrc : Src wc 1 (.slice (some ⟨m, at0, none⟩) (r.data.length - at0) (C - at0)) (r.data.length - at0) (u8s (r.data.drop at0)) := by
          refine St.srcIn (b := m) (o := at0) (n := r.data.length - at0) (l := r.data ++ sl) S (by repeat (first | exact Pull.head | apply Pull.tail)) ?_ ?_
          · rw [List.length_append]; omega
          · rw [List.drop_append_of_le_length (by omega), List.take_append_of_le_length (Nat.le_of_eq List.length_drop.symm), List.take_of_length_le (Nat.le_of_eq List.length_drop)]
        have hs0 := @sized_list0 (r.data.drop at0) (r.data.take at0) n
        have hs1 := @sized_list (r.data.drop at0) (r.data.take at0) n
        rw [hX] at hs0 hs1
        rw [hY] at hs1
        generalize hDe : ((r.data.drop at0 ++ r.data.take at0) ++ List.replicate n 0).take n = D at *
        have hDl : D.length = n := by
          rw [← hDe, List.length_take, List.length_append, List.length_replicate]; omega
        have hmem : ∀ w', St w [q, m] w' [.blk nb (.cells (u8s D).toArray 5 (0, 0)), rHead q nb T (max r.b (r.e - n) : Nat) r.e n n 0 post, rBlk m r.data sl] → St w [q, m] w' (rMem q nb T ⟨D, max r.b (r.e - n), r.e, 0⟩ [] post) := by
          intro w' S'
          have hm : rMem q nb T ⟨D, max r.b (r.e - n), r.e, 0⟩ [] post = [rHead q nb T (max r.b (r.e - n) : Nat) r.e n n 0 post, .blk nb (.cells (u8s D).toArray 5 (0, 0))] := by
            show [rHead q nb T (max r.b (r.e - n) : Nat) r.e D.length (D ++ []).length 0 post, rBlk nb D []] = _
            rw [List.append_nil, hDl]
            show [_, Res.blk nb (.cells (u8s (D ++ [])).toArray 5 (0, 0))] = _
            rw [List.append_nil]
          rw [hm]
          have S := S'
          exact S.sel (by repeat (first | exact Sel.nil | (apply Sel.cons; (repeat (first | exact Pull.head | apply Pull.tail)))))
        replace hmem := hidden hmem
        replace hDl := hidden hDl
        replace hs0 := hidden hs0
        replace hs1 := hidden hs1
        replace hDe := hidden hDe
        obtain ⟨X, hXe⟩ : ∃ X, X = r.data.drop at0 := ⟨_, rfl⟩
        rw [← hXe] at hX hsrc hs0 hs1
        replace hsrc := hidden hsrc
        replace hX := hidden hX
        replace hXe := hidden hXe
        by_cases c2 : n ≤ r.data.length - at0
        · go_wp2_with (first | (refine wpList_slcB at0 ?_; rw [cutN_low (by omega), Nat.zero_add]) | (refine wpList_copyM S hsrc.out n ?_ (hfit := by rw [List.length_replicate]; omega); (clear S; intro ws S; rw [hs0.out c2] at S)) | ((with_reducible show Code.wp _ (Code.region _ _ true) _ _ _); refine St.regionLast S ?_; (repeat (first | (go_big_quiet_step (fail)) | (go_big_quiet_want; (first | refine quiet_ld S ?_ | refine quiet_ld8 S ?_ | refine quiet_ld0 ?_ | refine quiet_ldA S ?_ | refine quiet_b2sB S ?_ | refine quiet_b2sR S ?_ | refine quiet_ldc S ?_); go_big_quiet_on))); refine wpQuiet_nil ?_; clear S; intro wq S) | go_big_skip | (refine wpList_ld S ?_) | (refine wpList_ld8 S ?_) | (refine wpList_ld0 ?_) | (refine wpList_ldA S ?_) | (refine wpList_st8 S ?_; (clear S; intro ws S)) | (refine wpList_st S ?_; (clear S; intro ws S)) | (refine wpList_box S ?_; (clear S; intro nb wb hnb S)) | (refine wpList_alloc S ?_; (clear S; intro nb wb hnb S)) | (refine wpList_mk8 S ?_; (clear S; intro nb wb hnb S)) | (refine wpList_mk S ?_; (clear S; intro nb wb hnb S)) | (refine wpList_bs S ?_; (clear S; intro nb wb hnb S)) | (refine wpList_stA S ?_; (clear S; intro ws S; simp only [splice, List.take_zero, List.take_succ_cons, List.drop_succ_cons, List.drop_zero, List.drop_nil, List.length_cons, List.length_nil, Nat.reduceAdd, Nat.zero_add, List.nil_append, List.cons_append, List.append_nil] at S)) | (refine wpList_b2sB S ?_) | (refine wpList_b2sR S ?_) | (refine wpList_ldc S ?_))
          ((first | go_ret | go_ret2 | go_ret3 | go_end0 | skip); refine hR.out _ _ ?_)
          exact ⟨rfl, nb, [], hmem.out _ S⟩
        · obtain ⟨n1, hn1⟩ : ∃ n1, n1 = r.data.length - at0 := ⟨_, rfl⟩
          rw [← hn1] at hX hsrc hs1
          go_upto_region 11 with (first | (refine wpList_slcB at0 ?_; rw [cutN_low (by omega), Nat.zero_add, ← hn1]) | (refine wpList_copyM S hsrc.out n1 ?_ (hfit := by rw [List.length_replicate]; omega); (clear S; intro ws S)) | ((with_reducible show Code.wp _ (Code.region _ _ true) _ _ _); refine St.regionLast S ?_; (repeat (first | (go_big_quiet_step (fail)) | (go_big_quiet_want; (first | refine quiet_ld S ?_ | refine quiet_ld8 S ?_ | refine quiet_ld0 ?_ | refine quiet_ldA S ?_ | refine quiet_b2sB S ?_ | refine quiet_b2sR S ?_ | refine quiet_ldc S ?_); go_big_quiet_on))); refine wpQuiet_nil ?_; clear S; intro wq S) | go_big_skip | (refine wpList_ld S ?_) | (refine wpList_ld8 S ?_) | (refine wpList_ld0 ?_) | (refine wpList_ldA S ?_) | (refine wpList_st8 S ?_; (clear S; intro ws S)) | (refine wpList_st S ?_; (clear S; intro ws S)) | (refine wpList_box S ?_; (clear S; intro nb wb hnb S)) | (refine wpList_alloc S ?_; (clear S; intro nb wb hnb S)) | (refine wpList_mk8 S ?_; (clear S; intro nb wb hnb S)) | (refine wpList_mk S ?_; (clear S; intro nb wb hnb S)) | (refine wpList_bs S ?_; (clear S; intro nb wb hnb S)) | (refine wpList_stA S ?_; (clear S; intro ws S; simp only [splice, List.take_zero, List.take_succ_cons, List.drop_succ_cons, List.drop_zero, List.drop_nil, List.length_cons, List.length_nil, Nat.reduceAdd, Nat.zero_add, List.nil_append, List.cons_append, List.append_nil] at S)) | (refine wpList_b2sB S ?_) | (refine wpList_b2sR S ?_) | (refine wpList_ldc S ?_))
          have hZ : (splice (List.replicate n 0) 0 X).length = n := by rw [splice_length _ _ _ (by rw [List.length_replicate]; have := hX.out; omega), List.length_replicate]
          rw [List.take_of_length_le (Nat.le_of_eq hX.out)] at S
          replace hs1 := hidden (hs1.out (by omega))
          generalize splice (List.replicate n 0) 0 X = Z at *
          refine St.regionC S [rHead q m T (max r.b (r.e - n) : Nat) r.e r.data.length C r.ix post, rBlk m r.data sl] 10 [([0, 1, 2, 3, 4, 5, 6, 7, 8], 9)] [] ?_
          clear S; intro wr Cr S Sc; simp only [walkC, pick, List.getElem?_cons_succ, List.getElem?_cons_zero, List.drop_succ_cons, List.drop_zero]
          (repeat (first | (go_big_quiet_want; (first | (refine quiet_slcB n1 ?_; rw [cutN_low (by omega), Nat.zero_add]) | (refine quiet_slcH at0 ?_)); go_big_quiet_on) | (first | (go_big_quiet_step (fail)) | (go_big_quiet_want; (first | refine quiet_ld Sc ?_ | refine quiet_ld8 Sc ?_ | refine quiet_ld0 ?_ | refine quiet_ldA Sc ?_ | refine quiet_b2sB Sc ?_ | refine quiet_b2sR Sc ?_ | refine quiet_ldc Sc ?_); go_big_quiet_on))))
          refine wpQuiet_nil ?_
          have hsrc2 : Src wr 1 (.slice (some ⟨m, 0, none⟩) at0 C) at0 (u8s (r.data.take at0)) := by
            refine St.srcIn (b := m) (o := 0) (n := at0) (l := r.data ++ sl) S (by repeat (first | exact Pull.head | apply Pull.tail)) ?_ ?_
            · rw [List.length_append]; omega
            · rw [List.drop_zero, List.take_append_of_le_length (by omega)]
          refine wpList_copyM S hsrc2 (min at0 (n - n1)) ?_ (hfit := by omega)
          clear S hsrc2; intro ws2 S
          rw [hs1.out] at S
          refine ⟨(S.sel (by repeat (first | exact Sel.nil | (apply Sel.cons; (repeat (first | exact Pull.head | apply Pull.tail)))))).inSt _, ?_⟩; (repeat (first | (go_big_quiet_step (fail)) | (go_big_quiet_want; (first | refine quiet_ld Sc ?_ | refine quiet_ld8 Sc ?_ | refine quiet_ld0 ?_ | refine quiet_ldA Sc ?_ | refine quiet_b2sB Sc ?_ | refine quiet_b2sR Sc ?_ | refine quiet_ldc Sc ?_); go_big_quiet_on))); refine wpQuiet_nil ?_
          go_wp2_with (first | go_big_skip | ((with_reducible show Code.wp _ (Code.region _ _ true) _ _ _); refine St.regionLast S ?_; (repeat (first | (go_big_quiet_step (fail)) | (go_big_quiet_want; (first | refine quiet_ld S ?_ | refine quiet_ld8 S ?_ | refine quiet_ld0 ?_ | refine quiet_ldA S ?_ | refine quiet_b2sB S ?_ | refine quiet_b2sR S ?_ | refine quiet_ldc S ?_); go_big_quiet_on))); refine wpQuiet_nil ?_; clear S; intro wq S) | go_big_skip | (refine wpList_ld S ?_) | (refine wpList_ld8 S ?_) | (refine wpList_ld0 ?_) | (refine wpList_ldA S ?_) | (refine wpList_st8 S ?_; (clear S; intro ws S)) | (refine wpList_st S ?_; (clear S; intro ws S)) | (refine wpList_box S ?_; (clear S; intro nb wb hnb S)) | (refine wpList_alloc S ?_; (clear S; intro nb wb hnb S)) | (refine wpList_mk8 S ?_; (clear S; intro nb wb hnb S)) | (refine wpList_mk S ?_; (clear S; intro nb wb hnb S)) | (refine wpList_bs S ?_; (clear S; intro nb wb hnb S)) | (refine wpList_stA S ?_; (clear S; intro ws S; simp only [splice, List.take_zero, List.take_succ_cons, List.drop_succ_cons, List.drop_zero, List.drop_nil, List.length_cons, List.length_nil, Nat.reduceAdd, Nat.zero_add, List.nil_append, List.cons_append, List.append_nil] at S)) | (refine wpList_b2sB S ?_) | (refine wpList_b2sR S ?_) | (refine wpList_ldc S ?_))
          ((first | go_ret | go_ret2 | go_ret3 | go_end0 | skip); refine hR.out _ _ ?_)
          exact ⟨rfl, nb, [], hmem.out _ S⟩
end Go.Proofs.YtbklhnpnkinadaaDoor
