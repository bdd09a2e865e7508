/- The tape of the reference: bytes written over others. -/
import Derived.Test.YtbklhnpnkinadaaDoorTe
namespace Go.Proofs.YtbklhnpnkinadaaDoor
open Go Go.RowKit Go.Vil
set_option linter.unusedSimpArgs false
set_option linter.unusedVariables false
set_option maxRecDepth 100000

theorem bls_set (l : List Bool) (i : Nat) (b : Bool) : bls (l.set i b) = (bls l).set i (.bool b) := by unfold bls; rw [List.map_set]
theorem u8s_set (l : List UInt8) (i : Nat) (b : UInt8) : u8s (l.set i b) = (u8s l).set i (.int .u8 (b.toNat : Int)) := by unfold u8s; rw [List.map_set]
/-- The blocks of a tape on which something stands. -/
theorem TapeSt.blocks {w0 w : World} {bs : List Nat} {tp : Nat} {t : Ta} {F : List Res} (h : TapeSt w0 bs w tp t F) (hb : 0 < t.bytes.length) (hk : 0 < t.known.length) :
    ∃ bb ca mb kb cb mk, t.bytes.length ≤ ca ∧ ca ≤ maxLen ∧ t.bytes.length + mb.length = ca ∧ t.known.length ≤ cb ∧ cb ≤ maxLen ∧ t.known.length + mk.length = cb ∧
      St w0 bs w (.blk kb (.cells (bls t.known ++ mk).toArray 4 (0, 0)) :: .blk bb (.cells (u8s t.bytes ++ mb).toArray 5 (0, 0)) :: tHead tp t.size t.b t.e t.o (.slice (some ⟨bb, 0, none⟩) t.bytes.length ca) (.slice (some ⟨kb, 0, none⟩) t.known.length cb) :: F) := by
  obtain ⟨vb, vk, S⟩ := h
  rcases S.ofRow (hp := .tail .head) with ⟨_, hz, _⟩ | ⟨bb, ca, mb, rfl, h1, h2, h3, h4, S2⟩
  · omega
  rcases S2.ofRow (hp := .tail (.tail .head)) with ⟨_, hz, _⟩ | ⟨kb, cb, mk, rfl, h5, h6, h7, h8, S3⟩
  · omega
  rw [List.length_append, length_u8s] at h4
  rw [List.length_append, length_bls] at h8
  exact ⟨bb, ca, mb, kb, cb, mk, h1, h2, by omega, h5, h6, by omega, S3⟩
theorem TapeSt.ofBlocks {w0 w : World} {bs : List Nat} {tp : Nat} {t : Ta} {F : List Res} {bb ca kb cb n k : Nat} {mb mk : List Value} (hn : n = t.bytes.length) (hk : k = t.known.length) (h1 : n ≤ ca) (h2 : ca ≤ maxLen) (h3 : n + mb.length = ca) (h4 : k ≤ cb) (h5 : cb ≤ maxLen) (h6 : k + mk.length = cb)
    (S : St w0 bs w (.blk kb (.cells (bls t.known ++ mk).toArray 4 (0, 0)) :: .blk bb (.cells (u8s t.bytes ++ mb).toArray 5 (0, 0)) :: tHead tp t.size t.b t.e t.o (.slice (some ⟨bb, 0, none⟩) n ca) (.slice (some ⟨kb, 0, none⟩) k cb) :: F)) : TapeSt w0 bs w tp t F := by
  subst hn hk
  have S2 := S.toRow 1 (b := kb) (n := t.known.length) (cap := cb) .head (by rw [List.length_append, length_bls]; omega) h4 h5
  have S3 := S2.toRow 1 (b := bb) (n := t.bytes.length) (cap := ca) (.tail .head) (by rw [List.length_append, length_u8s]; omega) h1 h2
  rw [Nat.mul_one, List.take_append_of_le_length (by rw [length_u8s]; exact Nat.le_refl _), List.take_of_length_le (by rw [length_u8s]; exact Nat.le_refl _)] at S3
  rw [Nat.mul_one, List.take_append_of_le_length (by rw [length_bls]; exact Nat.le_refl _), List.take_of_length_le (by rw [length_bls]; exact Nat.le_refl _)] at S3
  exact ⟨.slice (some ⟨bb, 0, none⟩) t.bytes.length ca, .slice (some ⟨kb, 0, none⟩) t.known.length cb, S3.perm ((List.Perm.cons _ (.swap _ _ _)).trans (.swap _ _ _))⟩

set_option maxHeartbeats 3200000 in
theorem tapePutAt (tp : Nat) (t : Ta) (p : List UInt8) (n c : Nat) (oa : Option Addr) (z : Int) (F : List Res) (w0 : World) (bs : List Nat) (w : World) (hS : TapeSt w0 bs w tp t F)
    (ht : Mild t) (hs : Seen w0 bs F (.slice oa n c) n p) (hz0 : -1152921504606846976 ≤ z ∧ z ≤ 1152921504606846976) (hn : n ≤ 1048576) :
    Calls Tryd.prog 28 #[.pointer (some ⟨tp, 0, none⟩), .slice oa n c, .int .i64 z] w fun e w' => e = .returned (.bool (t.there z n)) ∧ TapeSt w0 bs w' tp (if t.there z n then t.overs (z - t.b).toNat p else t) F := by
  have hpl := (hs w hS.mem.1 hS.mem.2).len8
  obtain ⟨vb, vk, S⟩ := hS
  have h1 := ht.fine.ob
  have h2 := ht.fine.be
  have h3 := ht.fine.len
  have h4 := ht.fine.klen
  have h5 := ht.e
  have h6 := ht.len
  replace ht := hidden ht
  replace hs := hidden hs
  replace hpl := hidden hpl
  have hbt := hidden (show decide ((t.b : Int) ≤ z ∧ z ≤ (t.e : Int) ∧ (n : Int) ≤ t.e - z) = t.there z n from rfl)
  refine Calls.cps ?_; intro R hR
  go_enter Tryd.func28, Tryd.ntmps28
  go_wp2_with (first | go_big_skip | ((with_reducible show Code.wp _ (Code.region _ _ true) _ _ _); refine St.regionLast S ?_; (repeat (first | (go_big_quiet_step (fail)) | (go_big_quiet_want; (first | refine quiet_ld S ?_ | refine quiet_ld8 S ?_ | refine quiet_ld0 ?_ | refine quiet_ldA S ?_ | refine quiet_b2sB S ?_ | refine quiet_b2sR S ?_ | refine quiet_ldc S ?_); go_big_quiet_on))); refine wpQuiet_nil ?_; clear S; intro wq S) | go_big_skip | (refine wpList_ld S ?_) | (refine wpList_ld8 S ?_) | (refine wpList_ld0 ?_) | (refine wpList_ldA S ?_) | (refine wpList_st8 S ?_; (clear S; intro ws S)) | (refine wpList_st S ?_; (clear S; intro ws S)) | (refine wpList_box S ?_; (clear S; intro nb wb hnb S)) | (refine wpList_alloc S ?_; (clear S; intro nb wb hnb S)) | (refine wpList_mk8 S ?_; (clear S; intro nb wb hnb S)) | (refine wpList_mk S ?_; (clear S; intro nb wb hnb S)) | (refine wpList_bs S ?_; (clear S; intro nb wb hnb S)) | (refine wpList_stA S ?_; (clear S; intro ws S; simp only [splice, List.take_zero, List.take_succ_cons, List.drop_succ_cons, List.drop_zero, List.drop_nil, List.length_cons, List.length_nil, Nat.reduceAdd, Nat.zero_add, List.nil_append, List.cons_append, List.append_nil] at S)) | (refine wpList_b2sB S ?_) | (refine wpList_b2sR S ?_) | (refine wpList_ldc S ?_))
  refine Calls.mono (tapeThere tp t.size t.b t.e t.o _ _ z n w S.sel1 (by omega) hz0) ?_
  rintro e w2 ⟨rfl, C⟩
  have S2 := S.call C; clear S C; simp only [List.cons_append, List.nil_append] at S2; have S := S2; clear S2
  rw [hbt.out]
  cases hth : t.there z n with
  | false =>
    simp only [hth, Bool.false_eq_true, if_false] at hR
    go_wp2_with (first | go_big_skip | ((with_reducible show Code.wp _ (Code.region _ _ true) _ _ _); refine St.regionLast S ?_; (repeat (first | (go_big_quiet_step (fail)) | (go_big_quiet_want; (first | refine quiet_ld S ?_ | refine quiet_ld8 S ?_ | refine quiet_ld0 ?_ | refine quiet_ldA S ?_ | refine quiet_b2sB S ?_ | refine quiet_b2sR S ?_ | refine quiet_ldc S ?_); go_big_quiet_on))); refine wpQuiet_nil ?_; clear S; intro wq S) | go_big_skip | (refine wpList_ld S ?_) | (refine wpList_ld8 S ?_) | (refine wpList_ld0 ?_) | (refine wpList_ldA S ?_) | (refine wpList_st8 S ?_; (clear S; intro ws S)) | (refine wpList_st S ?_; (clear S; intro ws S)) | (refine wpList_box S ?_; (clear S; intro nb wb hnb S)) | (refine wpList_alloc S ?_; (clear S; intro nb wb hnb S)) | (refine wpList_mk8 S ?_; (clear S; intro nb wb hnb S)) | (refine wpList_mk S ?_; (clear S; intro nb wb hnb S)) | (refine wpList_bs S ?_; (clear S; intro nb wb hnb S)) | (refine wpList_stA S ?_; (clear S; intro ws S; simp only [splice, List.take_zero, List.take_succ_cons, List.drop_succ_cons, List.drop_zero, List.drop_nil, List.length_cons, List.length_nil, Nat.reduceAdd, Nat.zero_add, List.nil_append, List.cons_append, List.append_nil] at S)) | (refine wpList_b2sB S ?_) | (refine wpList_b2sR S ?_) | (refine wpList_ldc S ?_))
    ((first | go_ret | go_ret2 | go_ret3 | go_end0 | skip); refine hR.out _ _ ?_)
    exact ⟨rfl, vb, vk, S⟩
  | true =>
    simp only [hth, if_true] at hR
    have hzz : (t.b : Int) ≤ z ∧ z ≤ (t.e : Int) ∧ (n : Int) ≤ t.e - z := of_decide_eq_true hth
    obtain ⟨fr, hfr⟩ : ∃ fr : Nat, z = t.o + fr := ⟨(z - t.o).toNat, by omega⟩
    have hfr1 : (fr : Int) ≤ z - t.o := by omega
    have hfr2 : z - t.o ≤ (fr : Int) := by omega
    obtain ⟨kk, hkk⟩ : ∃ kk : Nat, (z - t.b).toNat = kk := ⟨_, rfl⟩
    have hfk : t.b - t.o + kk = fr := by omega
    rw [hkk] at hR
    obtain ⟨hz1, hz2, hz3⟩ := hzz
    have hT2 : Hid (TapeSt w0 bs w2 tp t F) := hidden ⟨vb, vk, S⟩
    have hfl : fr + n ≤ t.bytes.length := by omega
    replace hfk := hidden hfk
    clear hfr hkk hth hbt S
    go_wp2_with (first | go_big_skip | (refine wpList_ld S ?_) | (refine wpList_ld8 S ?_) | (refine wpList_ld0 ?_) | (refine wpList_ldA S ?_) | (refine wpList_st8 S ?_; (clear S; intro ws S)) | (refine wpList_st S ?_; (clear S; intro ws S)) | (refine wpList_box S ?_; (clear S; intro nb wb hnb S)) | (refine wpList_alloc S ?_; (clear S; intro nb wb hnb S)) | (refine wpList_mk8 S ?_; (clear S; intro nb wb hnb S)) | (refine wpList_mk S ?_; (clear S; intro nb wb hnb S)) | (refine wpList_bs S ?_; (clear S; intro nb wb hnb S)) | (refine wpList_stA S ?_; (clear S; intro ws S; simp only [splice, List.take_zero, List.take_succ_cons, List.drop_succ_cons, List.drop_zero, List.drop_nil, List.length_cons, List.length_nil, Nat.reduceAdd, Nat.zero_add, List.nil_append, List.cons_append, List.append_nil] at S)) | (refine wpList_b2sB S ?_) | (refine wpList_b2sR S ?_) | (refine wpList_ldc S ?_))
    go_loopg [7, 8, 9, 18] n (fun g iv bv av i wr => ∃ k : Nat, Hid (k + g = n) ∧ i = .int .i64 k ∧ k ≤ n ∧ Hid (TapeSt w0 bs wr tp (t.overs kk (p.take k)) F))
    case atStart => exact ⟨0, hidden (by omega), rfl, Nat.zero_le _, hT2⟩
    case round =>
      obtain ⟨k, hg, rfl, hkn, hT2⟩ := hrel
      by_cases hlt : k < n
      · have hsw := hs.out _ hT2.out.mem.1 hT2.out.mem.2
        obtain ⟨ad, rfl⟩ : ∃ ad, oa = some ad := by
          cases oa with
          | some ad => exact ⟨ad, rfl⟩
          | none => have h1 := (hsw.2.2 : n = n ∧ u8s p = []).2; have h2 := hpl.out; simp [u8s] at h1; subst h1; simp at h2; omega
        have g1 := hsw.byte k hlt
        have hpk : p[k]? = some (p.getD k 0) := by simp [List.getD, List.getElem?_eq_getElem (show k < p.length by have := hpl.out; omega)]
        have hnext := hidden (show p.take (k + 1) = p.take k ++ [p.getD k 0] by rw [List.take_add_one, hpk]; rfl)
        have hlen : (p.take k).length = k := by rw [List.length_take]; have := hpl.out; omega
        obtain ⟨o1, o2, o3, o4, o5, o6⟩ := Ta.overs_rest (p.take k) t kk
        clear hpk hsw
        have hov := hidden (Ta.overs_snoc (p.take k) t kk (p.getD k 0))
        rw [hlen] at hov
        generalize p.getD k 0 = x at *
        obtain ⟨bb, ca, mb, kb, cb, mk, q1, q2, q3, q4, q5, q6, S⟩ := hT2.out.blocks (by omega) (by omega)
        rw [o1, o2, o3, o4, o5, o6] at S
        rw [o5] at q1 q3
        rw [o6] at q4 q6
        have S3 : St wr [] wr [] := St.begin wr
        generalize hst : t.overs kk (p.take k) = st at *
        replace hst := hidden hst
        go_upto_region 6 with (first | (refine wpList_ldc S3 ?_) | ((with_reducible show Code.wp _ (Code.region _ _ true) _ _ _); refine St.regionLast S ?_; (repeat (first | (go_big_quiet_step (fail)) | (go_big_quiet_want; (first | refine quiet_ld S ?_ | refine quiet_ld8 S ?_ | refine quiet_ld0 ?_ | refine quiet_ldA S ?_ | refine quiet_b2sB S ?_ | refine quiet_b2sR S ?_ | refine quiet_ldc S ?_); go_big_quiet_on))); refine wpQuiet_nil ?_; clear S; intro wq S) | go_big_skip | (refine wpList_ld S ?_) | (refine wpList_ld8 S ?_) | (refine wpList_ld0 ?_) | (refine wpList_ldA S ?_) | (refine wpList_st8 S ?_; (clear S; intro ws S)) | (refine wpList_st S ?_; (clear S; intro ws S)) | (refine wpList_box S ?_; (clear S; intro nb wb hnb S)) | (refine wpList_alloc S ?_; (clear S; intro nb wb hnb S)) | (refine wpList_mk8 S ?_; (clear S; intro nb wb hnb S)) | (refine wpList_mk S ?_; (clear S; intro nb wb hnb S)) | (refine wpList_bs S ?_; (clear S; intro nb wb hnb S)) | (refine wpList_stA S ?_; (clear S; intro ws S; simp only [splice, List.take_zero, List.take_succ_cons, List.drop_succ_cons, List.drop_zero, List.drop_nil, List.length_cons, List.length_nil, Nat.reduceAdd, Nat.zero_add, List.nil_append, List.cons_append, List.append_nil] at S)) | (refine wpList_b2sB S ?_) | (refine wpList_b2sR S ?_) | (refine wpList_ldc S ?_))
        go_cut [9] (fun f w' => f = .int .i64 (fr + k : Nat) ∧ St w0 bs w' (.blk kb (.cells (bls st.known ++ mk).toArray 4 (0, 0)) :: .blk bb (.cells (u8s st.bytes ++ mb).toArray 5 (0, 0)) :: tHead tp t.size t.b t.e t.o (.slice (some ⟨bb, 0, none⟩) t.bytes.length ca) (.slice (some ⟨kb, 0, none⟩) t.known.length cb) :: F))
        case first =>
          go_wp2_with (first | go_big_skip | ((with_reducible show Code.wp _ (Code.region _ _ true) _ _ _); refine St.regionLast S ?_; (repeat (first | (go_big_quiet_step (fail)) | (go_big_quiet_want; (first | refine quiet_ld S ?_ | refine quiet_ld8 S ?_ | refine quiet_ld0 ?_ | refine quiet_ldA S ?_ | refine quiet_b2sB S ?_ | refine quiet_b2sR S ?_ | refine quiet_ldc S ?_); go_big_quiet_on))); refine wpQuiet_nil ?_; clear S; intro wq S) | go_big_skip | (refine wpList_ld S ?_) | (refine wpList_ld8 S ?_) | (refine wpList_ld0 ?_) | (refine wpList_ldA S ?_) | (refine wpList_st8 S ?_; (clear S; intro ws S)) | (refine wpList_st S ?_; (clear S; intro ws S)) | (refine wpList_box S ?_; (clear S; intro nb wb hnb S)) | (refine wpList_alloc S ?_; (clear S; intro nb wb hnb S)) | (refine wpList_mk8 S ?_; (clear S; intro nb wb hnb S)) | (refine wpList_mk S ?_; (clear S; intro nb wb hnb S)) | (refine wpList_bs S ?_; (clear S; intro nb wb hnb S)) | (refine wpList_stA S ?_; (clear S; intro ws S; simp only [splice, List.take_zero, List.take_succ_cons, List.drop_succ_cons, List.drop_zero, List.drop_nil, List.length_cons, List.length_nil, Nat.reduceAdd, Nat.zero_add, List.nil_append, List.cons_append, List.append_nil] at S)) | (refine wpList_b2sB S ?_) | (refine wpList_b2sR S ?_) | (refine wpList_ldc S ?_))
          go_meet
          exact ⟨congrArg (Value.int .i64) (by omega), S⟩
        case rest =>
        obtain ⟨rfl, S⟩ := hcut
        go_upto_region 7 with (first | ((with_reducible show Code.wp _ (Code.region _ _ true) _ _ _); refine St.regionLast S ?_; (repeat (first | (go_big_quiet_step (fail)) | (go_big_quiet_want; (first | refine quiet_ld S ?_ | refine quiet_ld8 S ?_ | refine quiet_ld0 ?_ | refine quiet_ldA S ?_ | refine quiet_b2sB S ?_ | refine quiet_b2sR S ?_ | refine quiet_ldc S ?_); go_big_quiet_on))); refine wpQuiet_nil ?_; clear S; intro wq S) | go_big_skip | (refine wpList_ld S ?_) | (refine wpList_ld8 S ?_) | (refine wpList_ld0 ?_) | (refine wpList_ldA S ?_) | (refine wpList_st8 S ?_; (clear S; intro ws S)) | (refine wpList_st S ?_; (clear S; intro ws S)) | (refine wpList_box S ?_; (clear S; intro nb wb hnb S)) | (refine wpList_alloc S ?_; (clear S; intro nb wb hnb S)) | (refine wpList_mk8 S ?_; (clear S; intro nb wb hnb S)) | (refine wpList_mk S ?_; (clear S; intro nb wb hnb S)) | (refine wpList_bs S ?_; (clear S; intro nb wb hnb S)) | (refine wpList_stA S ?_; (clear S; intro ws S; simp only [splice, List.take_zero, List.take_succ_cons, List.drop_succ_cons, List.drop_zero, List.drop_nil, List.length_cons, List.length_nil, Nat.reduceAdd, Nat.zero_add, List.nil_append, List.cons_append, List.append_nil] at S)) | (refine wpList_b2sB S ?_) | (refine wpList_b2sR S ?_) | (refine wpList_ldc S ?_))
        refine St.regionC S [tHead tp t.size t.b t.e t.o (.slice (some ⟨bb, 0, none⟩) t.bytes.length ca) (.slice (some ⟨kb, 0, none⟩) t.known.length cb)] 15 [([0, 1, 2, 3, 4, 5, 6, 7, 8, 9, 10, 11], 12), ([13], 14)] [] ?_
        clear S; intro wr Cr S Sc; simp only [walkC, pick, List.getElem?_cons_succ, List.getElem?_cons_zero, List.drop_succ_cons, List.drop_zero]; (repeat (first | (go_big_quiet_step (fail)) | (go_big_quiet_want; (first | refine quiet_ld Sc ?_ | refine quiet_ld8 Sc ?_ | refine quiet_ld0 ?_ | refine quiet_ldA Sc ?_ | refine quiet_b2sB Sc ?_ | refine quiet_b2sR Sc ?_ | refine quiet_ldc Sc ?_); go_big_quiet_on))); refine wpQuiet_nil ?_
        refine wpList_stG S ?_ (hi := by rw [List.length_append, length_u8s]; omega)
        clear S; intro ws2 S
        refine ⟨(S.sel (by repeat (first | exact Sel.nil | (apply Sel.cons; (repeat (first | exact Pull.head | apply Pull.tail)))))).inSt _, ?_⟩; (repeat (first | (go_big_quiet_step (fail)) | (go_big_quiet_want; (first | refine quiet_ld Sc ?_ | refine quiet_ld8 Sc ?_ | refine quiet_ld0 ?_ | refine quiet_ldA Sc ?_ | refine quiet_b2sB Sc ?_ | refine quiet_b2sR Sc ?_ | refine quiet_ldc Sc ?_); go_big_quiet_on))); refine wpQuiet_nil ?_
        refine wpList_stG S ?_ (hi := by rw [List.length_append, length_bls]; omega)
        clear S; intro ws3 S
        refine ⟨(S.sel (by repeat (first | exact Sel.nil | (apply Sel.cons; (repeat (first | exact Pull.head | apply Pull.tail)))))).inSt _, ?_⟩; (repeat (first | (go_big_quiet_step (fail)) | (go_big_quiet_want; (first | refine quiet_ld Sc ?_ | refine quiet_ld8 Sc ?_ | refine quiet_ld0 ?_ | refine quiet_ldA Sc ?_ | refine quiet_b2sB Sc ?_ | refine quiet_b2sR Sc ?_ | refine quiet_ldc Sc ?_); go_big_quiet_on))); refine wpQuiet_nil ?_
        rw [List.set_append_left _ _ (by rw [length_bls]; omega), List.set_append_left _ _ (by rw [length_u8s]; omega), ← u8s_set, ← bls_set] at S
        have hT5 : Hid (TapeSt w0 bs ws3 tp (t.overs kk (p.take (k + 1))) F) := by
          rw [hnext.out, hov.out]
          have hix : st.b - st.o + (kk + k) = fr + k := by have := hfk.out; omega
          have e1 : (st.over (kk + k) x).bytes = st.bytes.set (fr + k) x := by show st.bytes.set (st.b - st.o + (kk + k)) x = _; rw [hix]
          have e2 : (st.over (kk + k) x).known = st.known.set (fr + k) true := by show st.known.set (st.b - st.o + (kk + k)) true = _; rw [hix]
          refine hidden (TapeSt.ofBlocks (bb := bb) (ca := ca) (kb := kb) (cb := cb) (n := t.bytes.length) (k := t.known.length) (mb := mb) (mk := mk) ?_ ?_ q1 q2 q3 q4 q5 q6 ?_)
          · rw [e1, List.length_set]; exact o5.symm
          · rw [e2, List.length_set]; exact o6.symm
          · rw [e1, e2]
            show St w0 bs ws3 (_ :: _ :: tHead tp st.size st.b st.e st.o _ _ :: F)
            rw [o1, o2, o3, o4]
            exact S
        clear S S3 Sc hT2
        go_wp2_with (first | go_big_skip | (refine wpList_ld S ?_) | (refine wpList_ld8 S ?_) | (refine wpList_ld0 ?_) | (refine wpList_ldA S ?_) | (refine wpList_st8 S ?_; (clear S; intro ws S)) | (refine wpList_st S ?_; (clear S; intro ws S)) | (refine wpList_box S ?_; (clear S; intro nb wb hnb S)) | (refine wpList_alloc S ?_; (clear S; intro nb wb hnb S)) | (refine wpList_mk8 S ?_; (clear S; intro nb wb hnb S)) | (refine wpList_mk S ?_; (clear S; intro nb wb hnb S)) | (refine wpList_bs S ?_; (clear S; intro nb wb hnb S)) | (refine wpList_stA S ?_; (clear S; intro ws S; simp only [splice, List.take_zero, List.take_succ_cons, List.drop_succ_cons, List.drop_zero, List.drop_nil, List.length_cons, List.length_nil, Nat.reduceAdd, Nat.zero_add, List.nil_append, List.cons_append, List.append_nil] at S)) | (refine wpList_b2sB S ?_) | (refine wpList_b2sR S ?_) | (refine wpList_ldc S ?_))
        go_roundg (gk - 1)
        case measure => have := hg.out; omega
        case rel => exact ⟨k + 1, hidden (by have := hg.out; omega), by go_num, by omega, hT5⟩
      · have hkl : k = n := by omega
        have hend := hidden (show p.take k = p from List.take_of_length_le (by have := hpl.out; omega))
        replace hkl := hidden hkl
        go_wp2_with (first | go_big_skip | (refine wpList_ld S ?_) | (refine wpList_ld8 S ?_) | (refine wpList_ld0 ?_) | (refine wpList_ldA S ?_) | (refine wpList_st8 S ?_; (clear S; intro ws S)) | (refine wpList_st S ?_; (clear S; intro ws S)) | (refine wpList_box S ?_; (clear S; intro nb wb hnb S)) | (refine wpList_alloc S ?_; (clear S; intro nb wb hnb S)) | (refine wpList_mk8 S ?_; (clear S; intro nb wb hnb S)) | (refine wpList_mk S ?_; (clear S; intro nb wb hnb S)) | (refine wpList_bs S ?_; (clear S; intro nb wb hnb S)) | (refine wpList_stA S ?_; (clear S; intro ws S; simp only [splice, List.take_zero, List.take_succ_cons, List.drop_succ_cons, List.drop_zero, List.drop_nil, List.length_cons, List.length_nil, Nat.reduceAdd, Nat.zero_add, List.nil_append, List.cons_append, List.append_nil] at S)) | (refine wpList_b2sB S ?_) | (refine wpList_b2sR S ?_) | (refine wpList_ldc S ?_))
        ((first | go_ret | go_ret2 | go_ret3 | go_end0 | skip); refine hR.out _ _ ?_)
        rw [hend.out] at hT2
        exact ⟨rfl, hT2.out⟩
end Go.Proofs.YtbklhnpnkinadaaDoor
