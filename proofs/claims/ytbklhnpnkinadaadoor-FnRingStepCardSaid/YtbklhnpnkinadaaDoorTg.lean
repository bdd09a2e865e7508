/- The tape of the reference: bytes compared. -/
import Derived.Test.YtbklhnpnkinadaaDoorTe
namespace Go.Proofs.YtbklhnpnkinadaaDoor
open Go Go.RowKit Go.Vil
set_option linter.unusedSimpArgs false
set_option linter.unusedVariables false
set_option maxRecDepth 100000

theorem same_cons (t : Ta) (a : Nat) (c : UInt8) (l : List UInt8) (told : Bool) : t.same a (c :: l) told = if t.known[a]? = some true ∧ t.bytes[a]? ≠ some c then (false, true) else t.same (a + 1) l (told && decide (t.known[a]? = some true)) := rfl
theorem same_nil (t : Ta) (a : Nat) (told : Bool) : t.same a [] told = (true, told) := rfl
theorem retBB {a b c d : Bool} (h : (a, b) = (c, d)) : Ending.returned (.tuple #[.bool a, .bool b]) = .returned (.tuple #[.bool c, .bool d]) := by cases h; rfl
set_option maxHeartbeats 3200000 in
theorem tapeSame (tp : Nat) (t : Ta) (p : List UInt8) (n c : Nat) (oa : Option Addr) (z : Int) (F : List Res) (w0 : World) (bs : List Nat) (w : World) (hS : TapeSt w0 bs w tp t F)
    (ht : Mild t) (hs : Seen w0 bs F (.slice oa n c) n p) (hz0 : -1152921504606846976 ≤ z ∧ z ≤ 1152921504606846976) (hn : n ≤ 1048576) :
    Calls Tryd.prog 29 #[.pointer (some ⟨tp, 0, none⟩), .slice oa n c, .int .i64 z] w fun e w' => e = .returned (.tuple #[.bool (if t.there z n then t.same (z - t.o).toNat p true else (false, true)).1, .bool (if t.there z n then t.same (z - t.o).toNat p true else (false, true)).2]) ∧ TapeSt w0 bs w' tp t F := by
  have hpl := (hs w hS.mem.1 hS.mem.2).len8
  obtain ⟨vb, vk, S⟩ := hS
  have h1 := ht.fine.ob
  have h2 := ht.fine.be
  have h3 := ht.fine.len
  have h4 := ht.fine.klen
  have h5 := ht.e
  have h6 := ht.len
  replace ht := hidden ht
  replace hs := hidden hs
  replace hpl := hidden hpl
  have hbt := hidden (show decide ((t.b : Int) ≤ z ∧ z ≤ (t.e : Int) ∧ (n : Int) ≤ t.e - z) = t.there z n from rfl)
  refine Calls.cps ?_; intro R hR
  go_enter Tryd.func29, Tryd.ntmps29
  go_wp2_with (first | go_big_skip | ((with_reducible show Code.wp _ (Code.region _ _ true) _ _ _); refine St.regionLast S ?_; (repeat (first | (go_big_quiet_step (fail)) | (go_big_quiet_want; (first | refine quiet_ld S ?_ | refine quiet_ld8 S ?_ | refine quiet_ld0 ?_ | refine quiet_ldA S ?_ | refine quiet_b2sB S ?_ | refine quiet_b2sR S ?_ | refine quiet_ldc S ?_); go_big_quiet_on))); refine wpQuiet_nil ?_; clear S; intro wq S) | go_big_skip | (refine wpList_ld S ?_) | (refine wpList_ld8 S ?_) | (refine wpList_ld0 ?_) | (refine wpList_ldA S ?_) | (refine wpList_st8 S ?_; (clear S; intro ws S)) | (refine wpList_st S ?_; (clear S; intro ws S)) | (refine wpList_box S ?_; (clear S; intro nb wb hnb S)) | (refine wpList_alloc S ?_; (clear S; intro nb wb hnb S)) | (refine wpList_mk8 S ?_; (clear S; intro nb wb hnb S)) | (refine wpList_mk S ?_; (clear S; intro nb wb hnb S)) | (refine wpList_bs S ?_; (clear S; intro nb wb hnb S)) | (refine wpList_stA S ?_; (clear S; intro ws S; simp only [splice, List.take_zero, List.take_succ_cons, List.drop_succ_cons, List.drop_zero, List.drop_nil, List.length_cons, List.length_nil, Nat.reduceAdd, Nat.zero_add, List.nil_append, List.cons_append, List.append_nil] at S)) | (refine wpList_b2sB S ?_) | (refine wpList_b2sR S ?_) | (refine wpList_ldc S ?_))
  refine Calls.mono (tapeThere tp t.size t.b t.e t.o _ _ z n w S.sel1 (by omega) hz0) ?_
  rintro e w2 ⟨rfl, C⟩
  have S2 := S.call C; clear S C; simp only [List.cons_append, List.nil_append] at S2; have S := S2; clear S2
  rw [hbt.out]
  cases hth : t.there z n with
  | false =>
    simp only [hth, Bool.false_eq_true, if_false] at hR
    go_wp2_with (first | go_big_skip | ((with_reducible show Code.wp _ (Code.region _ _ true) _ _ _); refine St.regionLast S ?_; (repeat (first | (go_big_quiet_step (fail)) | (go_big_quiet_want; (first | refine quiet_ld S ?_ | refine quiet_ld8 S ?_ | refine quiet_ld0 ?_ | refine quiet_ldA S ?_ | refine quiet_b2sB S ?_ | refine quiet_b2sR S ?_ | refine quiet_ldc S ?_); go_big_quiet_on))); refine wpQuiet_nil ?_; clear S; intro wq S) | go_big_skip | (refine wpList_ld S ?_) | (refine wpList_ld8 S ?_) | (refine wpList_ld0 ?_) | (refine wpList_ldA S ?_) | (refine wpList_st8 S ?_; (clear S; intro ws S)) | (refine wpList_st S ?_; (clear S; intro ws S)) | (refine wpList_box S ?_; (clear S; intro nb wb hnb S)) | (refine wpList_alloc S ?_; (clear S; intro nb wb hnb S)) | (refine wpList_mk8 S ?_; (clear S; intro nb wb hnb S)) | (refine wpList_mk S ?_; (clear S; intro nb wb hnb S)) | (refine wpList_bs S ?_; (clear S; intro nb wb hnb S)) | (refine wpList_stA S ?_; (clear S; intro ws S; simp only [splice, List.take_zero, List.take_succ_cons, List.drop_succ_cons, List.drop_zero, List.drop_nil, List.length_cons, List.length_nil, Nat.reduceAdd, Nat.zero_add, List.nil_append, List.cons_append, List.append_nil] at S)) | (refine wpList_b2sB S ?_) | (refine wpList_b2sR S ?_) | (refine wpList_ldc S ?_))
    ((first | go_ret | go_ret2 | go_ret3 | go_end0 | skip); refine hR.out _ _ ?_)
    exact ⟨rfl, vb, vk, S⟩
  | true =>
    simp only [hth, if_true] at hR
    have hzz : (t.b : Int) ≤ z ∧ z ≤ (t.e : Int) ∧ (n : Int) ≤ t.e - z := of_decide_eq_true hth
    obtain ⟨fr, hfr⟩ : ∃ fr : Nat, (z - t.o).toNat = fr := ⟨_, rfl⟩
    rw [hfr] at hR
    have hfr1 : (fr : Int) ≤ z - t.o := by omega
    have hfr2 : z - t.o ≤ (fr : Int) := by omega
    obtain ⟨hz1, hz2, hz3⟩ := hzz
    have hT2 : Hid (TapeSt w0 bs w2 tp t F) := hidden ⟨vb, vk, S⟩
    have hfl : fr + n ≤ t.bytes.length := by omega
    have hfk : fr + n ≤ t.known.length := by omega
    clear hfr hth hbt S
    go_wp2_with (first | go_big_skip | (refine wpList_ld S ?_) | (refine wpList_ld8 S ?_) | (refine wpList_ld0 ?_) | (refine wpList_ldA S ?_) | (refine wpList_st8 S ?_; (clear S; intro ws S)) | (refine wpList_st S ?_; (clear S; intro ws S)) | (refine wpList_box S ?_; (clear S; intro nb wb hnb S)) | (refine wpList_alloc S ?_; (clear S; intro nb wb hnb S)) | (refine wpList_mk8 S ?_; (clear S; intro nb wb hnb S)) | (refine wpList_mk S ?_; (clear S; intro nb wb hnb S)) | (refine wpList_bs S ?_; (clear S; intro nb wb hnb S)) | (refine wpList_stA S ?_; (clear S; intro ws S; simp only [splice, List.take_zero, List.take_succ_cons, List.drop_succ_cons, List.drop_zero, List.drop_nil, List.length_cons, List.length_nil, Nat.reduceAdd, Nat.zero_add, List.nil_append, List.cons_append, List.append_nil] at S)) | (refine wpList_b2sB S ?_) | (refine wpList_b2sR S ?_) | (refine wpList_ldc S ?_))
    go_loopg [7, 8, 9, 10, 19] n (fun g tv iv bv av i wr => ∃ (k : Nat) (told : Bool), Hid (k + g = n) ∧ i = .int .i64 k ∧ tv = .bool told ∧ k ≤ n ∧ Hid (t.same fr p true = t.same (fr + k) (p.drop k) told) ∧ Hid (TapeSt w0 bs wr tp t F))
    case atStart => exact ⟨0, true, hidden (by omega), rfl, rfl, Nat.zero_le _, hidden rfl, hT2⟩
    case round =>
      obtain ⟨k, told, hg, rfl, rfl, hkn, hsm, hT2⟩ := hrel
      by_cases hlt : k < n
      · have hsw := hs.out _ hT2.out.mem.1 hT2.out.mem.2
        obtain ⟨pd, rfl⟩ : ∃ pd, oa = some pd := by
          cases oa with
          | some pd => exact ⟨pd, rfl⟩
          | none => have h1 := (hsw.2.2 : n = n ∧ u8s p = []).2; have h2 := hpl.out; simp [u8s] at h1; subst h1; simp at h2; omega
        have g1 := hsw.byte k hlt
        have hdr : p.drop k = p.getD k 0 :: p.drop (k + 1) := by
          rw [List.drop_eq_getElem_cons (show k < p.length by have := hpl.out; omega)]
          simp [List.getD, List.getElem?_eq_getElem (show k < p.length by have := hpl.out; omega)]
        have hgb0 : t.bytes[fr + k]? = some (t.bytes.getD (fr + k) 0) := by
          simp [List.getD, List.getElem?_eq_getElem (show fr + k < t.bytes.length by omega)]
        have hgk0 : t.known[fr + k]? = some (t.known.getD (fr + k) false) := by
          simp [List.getD, List.getElem?_eq_getElem (show fr + k < t.known.length by omega)]
        have hgb := hidden (show (u8s t.bytes)[fr + k]? = some (.int .u8 ((t.bytes.getD (fr + k) 0).toNat : Int)) by rw [u8s_get?, hgb0]; rfl)
        have hgk := hidden (show (bls t.known)[fr + k]? = some (.bool (t.known.getD (fr + k) false)) by unfold bls; rw [List.getElem?_map, hgk0]; rfl)
        have hsm2 := hsm.out
        rw [hdr] at hsm2
        rw [same_cons, hgb0, hgk0] at hsm2
        clear hgb0 hgk0 hdr hsw hsm
        generalize t.bytes.getD (fr + k) 0 = y at *
        generalize t.known.getD (fr + k) false = kn at *
        generalize p.getD k 0 = x at *
        obtain ⟨ad, ca, bd, cb, S⟩ := hT2.out.rows (by omega) (by omega)
        have S3 : St wr [] wr [] := St.begin wr
        go_upto_region 7 with (first | (refine wpList_ldc S3 ?_) | ((with_reducible show Code.wp _ (Code.region _ _ true) _ _ _); refine St.regionLast S ?_; (repeat (first | (go_big_quiet_step (fail)) | (go_big_quiet_want; (first | refine quiet_ld S ?_ | refine quiet_ld8 S ?_ | refine quiet_ld0 ?_ | refine quiet_ldA S ?_ | refine quiet_b2sB S ?_ | refine quiet_b2sR S ?_ | refine quiet_ldc S ?_); go_big_quiet_on))); refine wpQuiet_nil ?_; clear S; intro wq S) | go_big_skip | (refine wpList_ld S ?_) | (refine wpList_ld8 S ?_) | (refine wpList_ld0 ?_) | (refine wpList_ldA S ?_) | (refine wpList_st8 S ?_; (clear S; intro ws S)) | (refine wpList_st S ?_; (clear S; intro ws S)) | (refine wpList_box S ?_; (clear S; intro nb wb hnb S)) | (refine wpList_alloc S ?_; (clear S; intro nb wb hnb S)) | (refine wpList_mk8 S ?_; (clear S; intro nb wb hnb S)) | (refine wpList_mk S ?_; (clear S; intro nb wb hnb S)) | (refine wpList_bs S ?_; (clear S; intro nb wb hnb S)) | (refine wpList_stA S ?_; (clear S; intro ws S; simp only [splice, List.take_zero, List.take_succ_cons, List.drop_succ_cons, List.drop_zero, List.drop_nil, List.length_cons, List.length_nil, Nat.reduceAdd, Nat.zero_add, List.nil_append, List.cons_append, List.append_nil] at S)) | (refine wpList_b2sB S ?_) | (refine wpList_b2sR S ?_) | (refine wpList_ldc S ?_))
        go_cut [10] (fun f w' => f = .int .i64 (fr + k : Nat) ∧ St w0 bs w' (tHead tp t.size t.b t.e t.o (.slice (some ad) t.bytes.length ca) (.slice (some bd) t.known.length cb) :: .row 5 1 (.slice (some ad) t.bytes.length ca) t.bytes.length (u8s t.bytes) :: .row 4 1 (.slice (some bd) t.known.length cb) t.known.length (bls t.known) :: F))
        case first =>
          go_wp2_with (first | go_big_skip | ((with_reducible show Code.wp _ (Code.region _ _ true) _ _ _); refine St.regionLast S ?_; (repeat (first | (go_big_quiet_step (fail)) | (go_big_quiet_want; (first | refine quiet_ld S ?_ | refine quiet_ld8 S ?_ | refine quiet_ld0 ?_ | refine quiet_ldA S ?_ | refine quiet_b2sB S ?_ | refine quiet_b2sR S ?_ | refine quiet_ldc S ?_); go_big_quiet_on))); refine wpQuiet_nil ?_; clear S; intro wq S) | go_big_skip | (refine wpList_ld S ?_) | (refine wpList_ld8 S ?_) | (refine wpList_ld0 ?_) | (refine wpList_ldA S ?_) | (refine wpList_st8 S ?_; (clear S; intro ws S)) | (refine wpList_st S ?_; (clear S; intro ws S)) | (refine wpList_box S ?_; (clear S; intro nb wb hnb S)) | (refine wpList_alloc S ?_; (clear S; intro nb wb hnb S)) | (refine wpList_mk8 S ?_; (clear S; intro nb wb hnb S)) | (refine wpList_mk S ?_; (clear S; intro nb wb hnb S)) | (refine wpList_bs S ?_; (clear S; intro nb wb hnb S)) | (refine wpList_stA S ?_; (clear S; intro ws S; simp only [splice, List.take_zero, List.take_succ_cons, List.drop_succ_cons, List.drop_zero, List.drop_nil, List.length_cons, List.length_nil, Nat.reduceAdd, Nat.zero_add, List.nil_append, List.cons_append, List.append_nil] at S)) | (refine wpList_b2sB S ?_) | (refine wpList_b2sR S ?_) | (refine wpList_ldc S ?_))
          go_meet
          exact ⟨congrArg (Value.int .i64) (by omega), S⟩
        case rest =>
        obtain ⟨rfl, S⟩ := hcut
        cases kn with
        | true =>
          by_cases hxy : y = x
          · have hbb : ((y.toNat : Int) != (x.toNat : Int)) = false := by rw [hxy]; exact bne_self_eq_false _
            rw [if_neg (by rw [hxy]; simp), decide_eq_true rfl, Bool.and_true] at hsm2
            replace hsm2 := hidden hsm2
            replace hxy := hidden hxy
            cases told with
            | true =>
              go_wp2_with (first | go_big_skip | (refine wpList_ldR S (u8s_one _) hgb.out ?_) | (refine wpList_ldR S (bls_one _) hgk.out ?_) | ((with_reducible show Code.wp _ (Code.region _ _ true) _ _ _); refine St.regionLast S ?_; (repeat (first | (go_big_quiet_step (fail)) | (go_big_quiet_want; (first | refine quiet_ld S ?_ | refine quiet_ld8 S ?_ | refine quiet_ld0 ?_ | refine quiet_ldA S ?_ | refine quiet_b2sB S ?_ | refine quiet_b2sR S ?_ | refine quiet_ldc S ?_); go_big_quiet_on))); refine wpQuiet_nil ?_; clear S; intro wq S) | go_big_skip | (refine wpList_ld S ?_) | (refine wpList_ld8 S ?_) | (refine wpList_ld0 ?_) | (refine wpList_ldA S ?_) | (refine wpList_st8 S ?_; (clear S; intro ws S)) | (refine wpList_st S ?_; (clear S; intro ws S)) | (refine wpList_box S ?_; (clear S; intro nb wb hnb S)) | (refine wpList_alloc S ?_; (clear S; intro nb wb hnb S)) | (refine wpList_mk8 S ?_; (clear S; intro nb wb hnb S)) | (refine wpList_mk S ?_; (clear S; intro nb wb hnb S)) | (refine wpList_bs S ?_; (clear S; intro nb wb hnb S)) | (refine wpList_stA S ?_; (clear S; intro ws S; simp only [splice, List.take_zero, List.take_succ_cons, List.drop_succ_cons, List.drop_zero, List.drop_nil, List.length_cons, List.length_nil, Nat.reduceAdd, Nat.zero_add, List.nil_append, List.cons_append, List.append_nil] at S)) | (refine wpList_b2sB S ?_) | (refine wpList_b2sR S ?_) | (refine wpList_ldc S ?_))
              go_roundg (gk - 1)
              case measure => have := hg.out; omega
              case rel => exact ⟨k + 1, true, hidden (by have := hg.out; omega), by go_num, rfl, by omega, hidden hsm2.out, hidden ⟨_, _, S⟩⟩
            | false =>
              go_wp2_with (first | go_big_skip | (refine wpList_ldR S (u8s_one _) hgb.out ?_) | (refine wpList_ldR S (bls_one _) hgk.out ?_) | ((with_reducible show Code.wp _ (Code.region _ _ true) _ _ _); refine St.regionLast S ?_; (repeat (first | (go_big_quiet_step (fail)) | (go_big_quiet_want; (first | refine quiet_ld S ?_ | refine quiet_ld8 S ?_ | refine quiet_ld0 ?_ | refine quiet_ldA S ?_ | refine quiet_b2sB S ?_ | refine quiet_b2sR S ?_ | refine quiet_ldc S ?_); go_big_quiet_on))); refine wpQuiet_nil ?_; clear S; intro wq S) | go_big_skip | (refine wpList_ld S ?_) | (refine wpList_ld8 S ?_) | (refine wpList_ld0 ?_) | (refine wpList_ldA S ?_) | (refine wpList_st8 S ?_; (clear S; intro ws S)) | (refine wpList_st S ?_; (clear S; intro ws S)) | (refine wpList_box S ?_; (clear S; intro nb wb hnb S)) | (refine wpList_alloc S ?_; (clear S; intro nb wb hnb S)) | (refine wpList_mk8 S ?_; (clear S; intro nb wb hnb S)) | (refine wpList_mk S ?_; (clear S; intro nb wb hnb S)) | (refine wpList_bs S ?_; (clear S; intro nb wb hnb S)) | (refine wpList_stA S ?_; (clear S; intro ws S; simp only [splice, List.take_zero, List.take_succ_cons, List.drop_succ_cons, List.drop_zero, List.drop_nil, List.length_cons, List.length_nil, Nat.reduceAdd, Nat.zero_add, List.nil_append, List.cons_append, List.append_nil] at S)) | (refine wpList_b2sB S ?_) | (refine wpList_b2sR S ?_) | (refine wpList_ldc S ?_))
              go_roundg (gk - 1)
              case measure => have := hg.out; omega
              case rel => exact ⟨k + 1, false, hidden (by have := hg.out; omega), by go_num, rfl, by omega, hidden hsm2.out, hidden ⟨_, _, S⟩⟩
          · have hbb : ((y.toNat : Int) != (x.toNat : Int)) = true := by
              simp only [bne_iff_ne, ne_eq]
              intro h
              exact hxy (UInt8.toNat_inj.1 (by omega))
            rw [if_pos ⟨rfl, by simpa using hxy⟩] at hsm2
            replace hsm2 := hidden hsm2
            replace hxy := hidden hxy
            go_wp2_with (first | go_big_skip | (refine wpList_ldR S (u8s_one _) hgb.out ?_) | (refine wpList_ldR S (bls_one _) hgk.out ?_) | ((with_reducible show Code.wp _ (Code.region _ _ true) _ _ _); refine St.regionLast S ?_; (repeat (first | (go_big_quiet_step (fail)) | (go_big_quiet_want; (first | refine quiet_ld S ?_ | refine quiet_ld8 S ?_ | refine quiet_ld0 ?_ | refine quiet_ldA S ?_ | refine quiet_b2sB S ?_ | refine quiet_b2sR S ?_ | refine quiet_ldc S ?_); go_big_quiet_on))); refine wpQuiet_nil ?_; clear S; intro wq S) | go_big_skip | (refine wpList_ld S ?_) | (refine wpList_ld8 S ?_) | (refine wpList_ld0 ?_) | (refine wpList_ldA S ?_) | (refine wpList_st8 S ?_; (clear S; intro ws S)) | (refine wpList_st S ?_; (clear S; intro ws S)) | (refine wpList_box S ?_; (clear S; intro nb wb hnb S)) | (refine wpList_alloc S ?_; (clear S; intro nb wb hnb S)) | (refine wpList_mk8 S ?_; (clear S; intro nb wb hnb S)) | (refine wpList_mk S ?_; (clear S; intro nb wb hnb S)) | (refine wpList_bs S ?_; (clear S; intro nb wb hnb S)) | (refine wpList_stA S ?_; (clear S; intro ws S; simp only [splice, List.take_zero, List.take_succ_cons, List.drop_succ_cons, List.drop_zero, List.drop_nil, List.length_cons, List.length_nil, Nat.reduceAdd, Nat.zero_add, List.nil_append, List.cons_append, List.append_nil] at S)) | (refine wpList_b2sB S ?_) | (refine wpList_b2sR S ?_) | (refine wpList_ldc S ?_))
            ((first | go_ret | go_ret2 | go_ret3 | go_end0 | skip); refine hR.out _ _ ?_)
            exact ⟨retBB (by rw [hsm2.out]), _, _, S⟩
        | false =>
          rw [if_neg (by simp), decide_eq_false (by simp), Bool.and_false] at hsm2
          replace hsm2 := hidden hsm2
          cases told with
          | true =>
            go_wp2_with (first | go_big_skip | (refine wpList_ldR S (u8s_one _) hgb.out ?_) | (refine wpList_ldR S (bls_one _) hgk.out ?_) | ((with_reducible show Code.wp _ (Code.region _ _ true) _ _ _); refine St.regionLast S ?_; (repeat (first | (go_big_quiet_step (fail)) | (go_big_quiet_want; (first | refine quiet_ld S ?_ | refine quiet_ld8 S ?_ | refine quiet_ld0 ?_ | refine quiet_ldA S ?_ | refine quiet_b2sB S ?_ | refine quiet_b2sR S ?_ | refine quiet_ldc S ?_); go_big_quiet_on))); refine wpQuiet_nil ?_; clear S; intro wq S) | go_big_skip | (refine wpList_ld S ?_) | (refine wpList_ld8 S ?_) | (refine wpList_ld0 ?_) | (refine wpList_ldA S ?_) | (refine wpList_st8 S ?_; (clear S; intro ws S)) | (refine wpList_st S ?_; (clear S; intro ws S)) | (refine wpList_box S ?_; (clear S; intro nb wb hnb S)) | (refine wpList_alloc S ?_; (clear S; intro nb wb hnb S)) | (refine wpList_mk8 S ?_; (clear S; intro nb wb hnb S)) | (refine wpList_mk S ?_; (clear S; intro nb wb hnb S)) | (refine wpList_bs S ?_; (clear S; intro nb wb hnb S)) | (refine wpList_stA S ?_; (clear S; intro ws S; simp only [splice, List.take_zero, List.take_succ_cons, List.drop_succ_cons, List.drop_zero, List.drop_nil, List.length_cons, List.length_nil, Nat.reduceAdd, Nat.zero_add, List.nil_append, List.cons_append, List.append_nil] at S)) | (refine wpList_b2sB S ?_) | (refine wpList_b2sR S ?_) | (refine wpList_ldc S ?_))
            go_roundg (gk - 1)
            case measure => have := hg.out; omega
            case rel => exact ⟨k + 1, false, hidden (by have := hg.out; omega), by go_num, rfl, by omega, hidden hsm2.out, hidden ⟨_, _, S⟩⟩
          | false =>
            go_wp2_with (first | go_big_skip | (refine wpList_ldR S (u8s_one _) hgb.out ?_) | (refine wpList_ldR S (bls_one _) hgk.out ?_) | ((with_reducible show Code.wp _ (Code.region _ _ true) _ _ _); refine St.regionLast S ?_; (repeat (first | (go_big_quiet_step (fail)) | (go_big_quiet_want; (first | refine quiet_ld S ?_ | refine quiet_ld8 S ?_ | refine quiet_ld0 ?_ | refine quiet_ldA S ?_ | refine quiet_b2sB S ?_ | refine quiet_b2sR S ?_ | refine quiet_ldc S ?_); go_big_quiet_on))); refine wpQuiet_nil ?_; clear S; intro wq S) | go_big_skip | (refine wpList_ld S ?_) | (refine wpList_ld8 S ?_) | (refine wpList_ld0 ?_) | (refine wpList_ldA S ?_) | (refine wpList_st8 S ?_; (clear S; intro ws S)) | (refine wpList_st S ?_; (clear S; intro ws S)) | (refine wpList_box S ?_; (clear S; intro nb wb hnb S)) | (refine wpList_alloc S ?_; (clear S; intro nb wb hnb S)) | (refine wpList_mk8 S ?_; (clear S; intro nb wb hnb S)) | (refine wpList_mk S ?_; (clear S; intro nb wb hnb S)) | (refine wpList_bs S ?_; (clear S; intro nb wb hnb S)) | (refine wpList_stA S ?_; (clear S; intro ws S; simp only [splice, List.take_zero, List.take_succ_cons, List.drop_succ_cons, List.drop_zero, List.drop_nil, List.length_cons, List.length_nil, Nat.reduceAdd, Nat.zero_add, List.nil_append, List.cons_append, List.append_nil] at S)) | (refine wpList_b2sB S ?_) | (refine wpList_b2sR S ?_) | (refine wpList_ldc S ?_))
            go_roundg (gk - 1)
            case measure => have := hg.out; omega
            case rel => exact ⟨k + 1, false, hidden (by have := hg.out; omega), by go_num, rfl, by omega, hidden hsm2.out, hidden ⟨_, _, S⟩⟩
      · have hkl : k = n := by omega
        have hend := hsm.out
        rw [List.drop_of_length_le (by have := hpl.out; omega)] at hend
        rw [same_nil] at hend
        replace hend := hidden hend
        replace hkl := hidden hkl
        go_wp2_with (first | go_big_skip | (refine wpList_ld S ?_) | (refine wpList_ld8 S ?_) | (refine wpList_ld0 ?_) | (refine wpList_ldA S ?_) | (refine wpList_st8 S ?_; (clear S; intro ws S)) | (refine wpList_st S ?_; (clear S; intro ws S)) | (refine wpList_box S ?_; (clear S; intro nb wb hnb S)) | (refine wpList_alloc S ?_; (clear S; intro nb wb hnb S)) | (refine wpList_mk8 S ?_; (clear S; intro nb wb hnb S)) | (refine wpList_mk S ?_; (clear S; intro nb wb hnb S)) | (refine wpList_bs S ?_; (clear S; intro nb wb hnb S)) | (refine wpList_stA S ?_; (clear S; intro ws S; simp only [splice, List.take_zero, List.take_succ_cons, List.drop_succ_cons, List.drop_zero, List.drop_nil, List.length_cons, List.length_nil, Nat.reduceAdd, Nat.zero_add, List.nil_append, List.cons_append, List.append_nil] at S)) | (refine wpList_b2sB S ?_) | (refine wpList_b2sR S ?_) | (refine wpList_ldc S ?_))
        ((first | go_ret | go_ret2 | go_ret3 | go_end0 | skip); refine hR.out _ _ ?_)
        exact ⟨retBB (by rw [hend.out]), hT2.out⟩
end Go.Proofs.YtbklhnpnkinadaaDoor
