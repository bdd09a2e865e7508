/- A ring buffer beside a tape: the law of its scripts. -/
import Derived.Test.YtbklhnpnkinadaaDoorTq
import Derived.Test.YtbklhnpnkinadaaDoorOpenR
namespace Go.Proofs.YtbklhnpnkinadaaDoor
open Go Go.RowKit Go.Vil
set_option linter.unusedSimpArgs false
set_option linter.unusedVariables false
set_option maxRecDepth 100000

set_option maxHeartbeats 12800000 in
theorem lawRingRun (size bgn : Int) (v : Value) (ops : List Ri.ROp) (ev0 ev1 : Value) (w : World) (h : Arr ROpV 4 w v ops) (hE : Errs w [] ev0 ev1) :
    Calls Tryd.prog 5 #[.int .i64 size, .int .i64 bgn, v] w fun e w' => e = .returned (.bool true) ∧ Chg [] w w' := by
  have S := St.begin w
  obtain ⟨oi, ci, rfl, hci⟩ := h.shape
  replace h := hidden h
  replace hE := hidden hE
  refine Calls.cps ?_; intro R hR
  go_enter Tryd.func5, Tryd.ntmps5
  go_wp2_with (first | go_big_skip | ((with_reducible show Code.wp _ (Code.region _ _ true) _ _ _); refine St.regionLast S ?_; (repeat (first | (go_big_quiet_step (fail)) | (go_big_quiet_want; (first | refine quiet_ld S ?_ | refine quiet_ld8 S ?_ | refine quiet_ld0 ?_ | refine quiet_ldA S ?_ | refine quiet_b2sB S ?_ | refine quiet_b2sR S ?_ | refine quiet_ldc S ?_); go_big_quiet_on))); refine wpQuiet_nil ?_; clear S; intro wq S) | go_big_skip | (refine wpList_ld S ?_) | (refine wpList_ld8 S ?_) | (refine wpList_ld0 ?_) | (refine wpList_ldA S ?_) | (refine wpList_st8 S ?_; (clear S; intro ws S)) | (refine wpList_st S ?_; (clear S; intro ws S)) | (refine wpList_box S ?_; (clear S; intro nb wb hnb S)) | (refine wpList_alloc S ?_; (clear S; intro nb wb hnb S)) | (refine wpList_mk8 S ?_; (clear S; intro nb wb hnb S)) | (refine wpList_mk S ?_; (clear S; intro nb wb hnb S)) | (refine wpList_bs S ?_; (clear S; intro nb wb hnb S)) | (refine wpList_stA S ?_; (clear S; intro ws S; simp only [splice, List.take_zero, List.take_succ_cons, List.drop_succ_cons, List.drop_zero, List.drop_nil, List.length_cons, List.length_nil, Nat.reduceAdd, Nat.zero_add, List.nil_append, List.cons_append, List.append_nil] at S)) | (refine wpList_b2sB S ?_) | (refine wpList_b2sR S ?_) | (refine wpList_ldc S ?_))
  refine Calls.mono (fits8 _ ops _ (h.out.on S.chg fun _ _ h => h.on S.chg)) ?_
  rintro e w2 ⟨b, rfl, hb, C⟩
  have S2 := S.call C; clear S C; simp only [List.cons_append, List.nil_append] at S2; have S := S2; clear S2
  cases b with
  | false =>
    go_wp2_with (first | go_big_skip | ((with_reducible show Code.wp _ (Code.region _ _ true) _ _ _); refine St.regionLast S ?_; (repeat (first | (go_big_quiet_step (fail)) | (go_big_quiet_want; (first | refine quiet_ld S ?_ | refine quiet_ld8 S ?_ | refine quiet_ld0 ?_ | refine quiet_ldA S ?_ | refine quiet_b2sB S ?_ | refine quiet_b2sR S ?_ | refine quiet_ldc S ?_); go_big_quiet_on))); refine wpQuiet_nil ?_; clear S; intro wq S) | go_big_skip | (refine wpList_ld S ?_) | (refine wpList_ld8 S ?_) | (refine wpList_ld0 ?_) | (refine wpList_ldA S ?_) | (refine wpList_st8 S ?_; (clear S; intro ws S)) | (refine wpList_st S ?_; (clear S; intro ws S)) | (refine wpList_box S ?_; (clear S; intro nb wb hnb S)) | (refine wpList_alloc S ?_; (clear S; intro nb wb hnb S)) | (refine wpList_mk8 S ?_; (clear S; intro nb wb hnb S)) | (refine wpList_mk S ?_; (clear S; intro nb wb hnb S)) | (refine wpList_bs S ?_; (clear S; intro nb wb hnb S)) | (refine wpList_stA S ?_; (clear S; intro ws S; simp only [splice, List.take_zero, List.take_succ_cons, List.drop_succ_cons, List.drop_zero, List.drop_nil, List.length_cons, List.length_nil, Nat.reduceAdd, Nat.zero_add, List.nil_append, List.cons_append, List.append_nil] at S)) | (refine wpList_b2sB S ?_) | (refine wpList_b2sR S ?_) | (refine wpList_ldc S ?_))
    ((first | go_ret | go_ret2 | go_ret3 | go_end0 | skip); refine hR.out _ _ ?_)
    exact ⟨rfl, S.chg⟩
  | true =>
    obtain ⟨hf1, hf2⟩ := hb rfl
    clear hb
    replace hf2 := hidden hf2
    have hs1 : 0 ≤ Ta.u64 size % 300 := Int.emod_nonneg _ (by decide)
    have hs2 : Ta.u64 size % 300 < 300 := Int.emod_lt_of_pos _ (by decide)
    have hg1 : 0 ≤ Ta.u64 bgn % 1099511627776 := Int.emod_nonneg _ (by decide)
    have hg2 : Ta.u64 bgn % 1099511627776 < 1099511627776 := Int.emod_lt_of_pos _ (by decide)
    go_upto_region 4 with (first | ((with_reducible show Code.wp _ (Code.region _ _ true) _ _ _); refine St.regionLast S ?_; (repeat (first | (go_big_quiet_step (fail)) | (go_big_quiet_want; (first | refine quiet_ld S ?_ | refine quiet_ld8 S ?_ | refine quiet_ld0 ?_ | refine quiet_ldA S ?_ | refine quiet_b2sB S ?_ | refine quiet_b2sR S ?_ | refine quiet_ldc S ?_); go_big_quiet_on))); refine wpQuiet_nil ?_; clear S; intro wq S) | go_big_skip | (refine wpList_ld S ?_) | (refine wpList_ld8 S ?_) | (refine wpList_ld0 ?_) | (refine wpList_ldA S ?_) | (refine wpList_st8 S ?_; (clear S; intro ws S)) | (refine wpList_st S ?_; (clear S; intro ws S)) | (refine wpList_box S ?_; (clear S; intro nb wb hnb S)) | (refine wpList_alloc S ?_; (clear S; intro nb wb hnb S)) | (refine wpList_mk8 S ?_; (clear S; intro nb wb hnb S)) | (refine wpList_mk S ?_; (clear S; intro nb wb hnb S)) | (refine wpList_bs S ?_; (clear S; intro nb wb hnb S)) | (refine wpList_stA S ?_; (clear S; intro ws S; simp only [splice, List.take_zero, List.take_succ_cons, List.drop_succ_cons, List.drop_zero, List.drop_nil, List.length_cons, List.length_nil, Nat.reduceAdd, Nat.zero_add, List.nil_append, List.cons_append, List.append_nil] at S)) | (refine wpList_b2sB S ?_) | (refine wpList_b2sR S ?_) | (refine wpList_ldc S ?_))
    rw [wrap_rem size 300 (by decide) (by decide), wrap_rem bgn 1099511627776 (by decide) (by decide)] at *
    obtain ⟨sz, hsz⟩ : ∃ sz : Nat, 1 + Ta.u64 size % 300 = sz := ⟨(1 + Ta.u64 size % 300).toNat, by omega⟩
    obtain ⟨bg, hbg⟩ : ∃ bg : Nat, Ta.u64 bgn % 1099511627776 = bg := ⟨(Ta.u64 bgn % 1099511627776).toNat, by omega⟩
    have hwz : wrap64 (1 + Ta.u64 size % 300) = (sz : Int) := by unfold wrap64; omega
    have hsz1 : 1 ≤ sz := by omega
    have hsz2 : sz ≤ 300 := by omega
    have hbg2 : bg < 1099511627776 := by omega
    rw [hwz, hbg] at *
    clear hwz hs1 hs2 hg1 hg2 hsz hbg
    go_wp2_with (first | go_big_skip | ((with_reducible show Code.wp _ (Code.region _ _ true) _ _ _); refine St.regionLast S ?_; (repeat (first | (go_big_quiet_step (fail)) | (go_big_quiet_want; (first | refine quiet_ld S ?_ | refine quiet_ld8 S ?_ | refine quiet_ld0 ?_ | refine quiet_ldA S ?_ | refine quiet_b2sB S ?_ | refine quiet_b2sR S ?_ | refine quiet_ldc S ?_); go_big_quiet_on))); refine wpQuiet_nil ?_; clear S; intro wq S) | go_big_skip | (refine wpList_ld S ?_) | (refine wpList_ld8 S ?_) | (refine wpList_ld0 ?_) | (refine wpList_ldA S ?_) | (refine wpList_st8 S ?_; (clear S; intro ws S)) | (refine wpList_st S ?_; (clear S; intro ws S)) | (refine wpList_box S ?_; (clear S; intro nb wb hnb S)) | (refine wpList_alloc S ?_; (clear S; intro nb wb hnb S)) | (refine wpList_mk8 S ?_; (clear S; intro nb wb hnb S)) | (refine wpList_mk S ?_; (clear S; intro nb wb hnb S)) | (refine wpList_bs S ?_; (clear S; intro nb wb hnb S)) | (refine wpList_stA S ?_; (clear S; intro ws S; simp only [splice, List.take_zero, List.take_succ_cons, List.drop_succ_cons, List.drop_zero, List.drop_nil, List.length_cons, List.length_nil, Nat.reduceAdd, Nat.zero_add, List.nil_append, List.cons_append, List.append_nil] at S)) | (refine wpList_b2sB S ?_) | (refine wpList_b2sR S ?_) | (refine wpList_ldc S ?_))
    refine Calls.mono (newTape sz bg _) ?_
    rintro e w3 ⟨tp, rfl, C⟩
    have S2 := S.call C; clear S C; simp only [List.cons_append, List.nil_append] at S2; have S := S2; clear S2
    have hlow0 := hidden (show (Ta.fresh sz bg).Low 0 from ⟨Ta.fresh_fine _ _ hsz1, hsz2, by show bg ≤ _; omega, Nat.zero_le _⟩)
    have S := S.nilRow 37 8
    have S := S.nilRow 26 4
    have S := S.nilRow 4 1
    have S := S.nilRow 5 1
    go_wp2_with (first | go_big_skip | ((with_reducible show Code.wp _ (Code.region _ _ true) _ _ _); refine St.regionLast S ?_; (repeat (first | (go_big_quiet_step (fail)) | (go_big_quiet_want; (first | refine quiet_ld S ?_ | refine quiet_ld8 S ?_ | refine quiet_ld0 ?_ | refine quiet_ldA S ?_ | refine quiet_b2sB S ?_ | refine quiet_b2sR S ?_ | refine quiet_ldc S ?_); go_big_quiet_on))); refine wpQuiet_nil ?_; clear S; intro wq S) | go_big_skip | (refine wpList_ld S ?_) | (refine wpList_ld8 S ?_) | (refine wpList_ld0 ?_) | (refine wpList_ldA S ?_) | (refine wpList_st8 S ?_; (clear S; intro ws S)) | (refine wpList_st S ?_; (clear S; intro ws S)) | (refine wpList_box S ?_; (clear S; intro nb wb hnb S)) | (refine wpList_alloc S ?_; (clear S; intro nb wb hnb S)) | (refine wpList_mk8 S ?_; (clear S; intro nb wb hnb S)) | (refine wpList_mk S ?_; (clear S; intro nb wb hnb S)) | (refine wpList_bs S ?_; (clear S; intro nb wb hnb S)) | (refine wpList_stA S ?_; (clear S; intro ws S; simp only [splice, List.take_zero, List.take_succ_cons, List.drop_succ_cons, List.drop_zero, List.drop_nil, List.length_cons, List.length_nil, Nat.reduceAdd, Nat.zero_add, List.nil_append, List.cons_append, List.append_nil] at S)) | (refine wpList_b2sB S ?_) | (refine wpList_b2sR S ?_) | (refine wpList_ldc S ?_))
    go_loopg [8, 9, 10, 11] ops.length (fun g lv wv i xp wr => ∃ (k n : Nat) (D : List (Ri.ROp × TAns)) (t : Ta) (css : List (List Value)) (wl : List ((Value × Value) × TAns)) (vb vk lv0 wv0 : Value), lv0 = lv ∧ wv0 = wv ∧ Hid (k + g = ops.length) ∧ i = .int .i64 k ∧ k ≤ ops.length ∧ n ≤ k ∧ k ≤ 60 ∧ Hid (n = D.length) ∧
      Hid (Ta.Did (Ta.fresh sz bg) D t) ∧ Hid (Each (fun x cs => ROpV w x cs ∧ cs.length = 4) (D.map (·.1)) css) ∧ Hid (wl.map (·.2) = D.map (·.2)) ∧
      St w [] wr (tHead tp t.size t.b t.e t.o vb vk :: .row 5 1 vb t.bytes.length (u8s t.bytes) :: .row 4 1 vk t.known.length (bls t.known) :: .row 26 4 lv n css.flatten :: .row 37 8 wv n (tansCells wl) :: tansRows wl))
    case atStart =>
      exact ⟨0, 0, [], Ta.fresh sz bg, [], [], _, _, _, _, rfl, rfl, hidden (by omega), rfl, Nat.zero_le _, Nat.le_refl _, by omega, hidden rfl, hidden .nil, hidden trivial, hidden rfl, S.sel (by repeat (first | exact Sel.nil | (apply Sel.cons; (repeat (first | exact Pull.head | apply Pull.tail)))))⟩
    case round =>
      clear S
      obtain ⟨k, n, D, t, css, wl, vb, vk, lv, wv, rfl, rfl, hg, rfl, hkn, hnk, hk60, hn, hD, hE4, hW, S⟩ := hrel
      go_upto_region 8 with fail
      go_cut [38] (fun c w' => c = .bool (decide (k < ops.length ∧ k < 60)) ∧ St w [] w' (tHead tp t.size t.b t.e t.o vb vk :: .row 5 1 vb t.bytes.length (u8s t.bytes) :: .row 4 1 vk t.known.length (bls t.known) :: .row 26 4 lv n css.flatten :: .row 37 8 wv n (tansCells wl) :: tansRows wl))
      case first =>
        by_cases c1 : k < ops.length
        · go_wp2_with (first | go_big_skip | ((with_reducible show Code.wp _ (Code.region _ _ true) _ _ _); refine St.regionLast S ?_; (repeat (first | (go_big_quiet_step (fail)) | (go_big_quiet_want; (first | refine quiet_ld S ?_ | refine quiet_ld8 S ?_ | refine quiet_ld0 ?_ | refine quiet_ldA S ?_ | refine quiet_b2sB S ?_ | refine quiet_b2sR S ?_ | refine quiet_ldc S ?_); go_big_quiet_on))); refine wpQuiet_nil ?_; clear S; intro wq S) | go_big_skip | (refine wpList_ld S ?_) | (refine wpList_ld8 S ?_) | (refine wpList_ld0 ?_) | (refine wpList_ldA S ?_) | (refine wpList_st8 S ?_; (clear S; intro ws S)) | (refine wpList_st S ?_; (clear S; intro ws S)) | (refine wpList_box S ?_; (clear S; intro nb wb hnb S)) | (refine wpList_alloc S ?_; (clear S; intro nb wb hnb S)) | (refine wpList_mk8 S ?_; (clear S; intro nb wb hnb S)) | (refine wpList_mk S ?_; (clear S; intro nb wb hnb S)) | (refine wpList_bs S ?_; (clear S; intro nb wb hnb S)) | (refine wpList_stA S ?_; (clear S; intro ws S; simp only [splice, List.take_zero, List.take_succ_cons, List.drop_succ_cons, List.drop_zero, List.drop_nil, List.length_cons, List.length_nil, Nat.reduceAdd, Nat.zero_add, List.nil_append, List.cons_append, List.append_nil] at S)) | (refine wpList_b2sB S ?_) | (refine wpList_b2sR S ?_) | (refine wpList_ldc S ?_))
          go_meet
          refine ⟨congrArg Value.bool ?_, S⟩
          by_cases c2 : k < 60
          · rw [decide_eq_true (show (k : Int) < 60 by omega), decide_eq_true (show k < ops.length ∧ k < 60 from ⟨c1, c2⟩)]
          · rw [decide_eq_false (show ¬ (k : Int) < 60 by omega), decide_eq_false (show ¬ (k < ops.length ∧ k < 60) by omega)]
        · go_wp2_with (first | go_big_skip | ((with_reducible show Code.wp _ (Code.region _ _ true) _ _ _); refine St.regionLast S ?_; (repeat (first | (go_big_quiet_step (fail)) | (go_big_quiet_want; (first | refine quiet_ld S ?_ | refine quiet_ld8 S ?_ | refine quiet_ld0 ?_ | refine quiet_ldA S ?_ | refine quiet_b2sB S ?_ | refine quiet_b2sR S ?_ | refine quiet_ldc S ?_); go_big_quiet_on))); refine wpQuiet_nil ?_; clear S; intro wq S) | go_big_skip | (refine wpList_ld S ?_) | (refine wpList_ld8 S ?_) | (refine wpList_ld0 ?_) | (refine wpList_ldA S ?_) | (refine wpList_st8 S ?_; (clear S; intro ws S)) | (refine wpList_st S ?_; (clear S; intro ws S)) | (refine wpList_box S ?_; (clear S; intro nb wb hnb S)) | (refine wpList_alloc S ?_; (clear S; intro nb wb hnb S)) | (refine wpList_mk8 S ?_; (clear S; intro nb wb hnb S)) | (refine wpList_mk S ?_; (clear S; intro nb wb hnb S)) | (refine wpList_bs S ?_; (clear S; intro nb wb hnb S)) | (refine wpList_stA S ?_; (clear S; intro ws S; simp only [splice, List.take_zero, List.take_succ_cons, List.drop_succ_cons, List.drop_zero, List.drop_nil, List.length_cons, List.length_nil, Nat.reduceAdd, Nat.zero_add, List.nil_append, List.cons_append, List.append_nil] at S)) | (refine wpList_b2sB S ?_) | (refine wpList_b2sR S ?_) | (refine wpList_ldc S ?_))
          go_meet
          exact ⟨congrArg Value.bool (decide_eq_false (p := k < ops.length ∧ k < 60) (by omega)).symm, S⟩
      case rest =>
      obtain ⟨rfl, S⟩ := hcut
      by_cases hlt : k < ops.length ∧ k < 60
      · rw [decide_eq_true hlt]
        obtain ⟨hlt, hl60⟩ := hlt
        obtain ⟨ad, rfl⟩ := h.out.some (by decide) (by omega)
        have hop : ops[k]? = some ops[k] := List.getElem?_eq_getElem hlt
        have hnb := hf2.out _ (List.getElem_mem hlt)
        obtain ⟨cs, ⟨oa', n', c', rfl, hs', hc'⟩, hl4, hcell⟩ := h.out.get k _ hop
        have hlow := hidden (Ta.did_low hD.out hlow0.out)
        have hn60 : n ≤ 60 := by omega
        obtain ⟨al, cl, rfl, hcl1, hcl2⟩ := S.rowSliceN (hp := .tail (.tail (.tail .head)))
        obtain ⟨aw, cw, rfl, hcw1, hcw2⟩ := S.rowSliceN (hp := .tail (.tail (.tail (.tail .head))))
        generalize ops[k] = op at *
        replace hcell := hidden hcell
        have hnl := hs'.len8
        rw [hnl] at hnb
        have hs2 := hs'.firsts (min n' 300) c' (by omega)
        have hd2 : op.data.take (min n' 300) = (t.cut op).data := by
          show _ = op.data.take 300
          rcases Nat.le_total n' 300 with h3 | h3
          · rw [Nat.min_eq_left h3, List.take_of_length_le (by omega), List.take_of_length_le (by omega)]
          · rw [Nat.min_eq_right h3]
        rw [hd2] at hs2
        have hkr : 0 ≤ (t.cut op).kind ∧ (t.cut op).kind ≤ 10 ∧ (t.cut op).kind ≠ 9 := Ta.kindOf_range op.kind
        have hcl := Ta.cut_len t op
        have hco := Ta.cut_off t op hlow.out.fine
        have hnear := hidden (Ta.cut_near t op hlow.out.fine)
        have htl := hlow.out.e
        rw [Nat.zero_add, ← hn.out] at htl
        replace hs2 := hidden hs2
        replace hs' := hidden hs'
        clear hop hl4 hd2
        go_wp2_with (first | go_big_skip | (refine wpList_ldAc S ?_ (by rfl) hcell.out) | ((with_reducible show Code.wp _ (Code.region _ _ true) _ _ _); refine St.regionLast S ?_; (repeat (first | (go_big_quiet_step (fail)) | (go_big_quiet_want; (first | refine quiet_ld S ?_ | refine quiet_ld8 S ?_ | refine quiet_ld0 ?_ | refine quiet_ldA S ?_ | refine quiet_b2sB S ?_ | refine quiet_b2sR S ?_ | refine quiet_ldc S ?_); go_big_quiet_on))); refine wpQuiet_nil ?_; clear S; intro wq S) | go_big_skip | (refine wpList_ld S ?_) | (refine wpList_ld8 S ?_) | (refine wpList_ld0 ?_) | (refine wpList_ldA S ?_) | (refine wpList_st8 S ?_; (clear S; intro ws S)) | (refine wpList_st S ?_; (clear S; intro ws S)) | (refine wpList_box S ?_; (clear S; intro nb wb hnb S)) | (refine wpList_alloc S ?_; (clear S; intro nb wb hnb S)) | (refine wpList_mk8 S ?_; (clear S; intro nb wb hnb S)) | (refine wpList_mk S ?_; (clear S; intro nb wb hnb S)) | (refine wpList_bs S ?_; (clear S; intro nb wb hnb S)) | (refine wpList_stA S ?_; (clear S; intro ws S; simp only [splice, List.take_zero, List.take_succ_cons, List.drop_succ_cons, List.drop_zero, List.drop_nil, List.length_cons, List.length_nil, Nat.reduceAdd, Nat.zero_add, List.nil_append, List.cons_append, List.append_nil] at S)) | (refine wpList_b2sB S ?_) | (refine wpList_b2sR S ?_) | (refine wpList_ldc S ?_))
        refine Calls.mono (lawRiOp tp t vb vk op oa' n' c' _ S.sel1 (Mild.low hlow.out (by have := hn.out; omega)) hnl hc' (by omega)) ?_
        rintro e w4 ⟨rfl, C⟩
        have S2 := S.call C; clear S C; simp only [List.cons_append, List.nil_append] at S2; have S := S2; clear S2
        have hm300 : min n' 300 ≤ 300 := Nat.min_le_right _ _
        have hmc : min n' 300 ≤ c' := by omega
        generalize min n' 300 = m at *
        generalize t.cut op = op2 at *
        go_wp2_with (first | go_big_skip | ((with_reducible show Code.wp _ (Code.region _ _ true) _ _ _); refine St.regionLast S ?_; (repeat (first | (go_big_quiet_step (fail)) | (go_big_quiet_want; (first | refine quiet_ld S ?_ | refine quiet_ld8 S ?_ | refine quiet_ld0 ?_ | refine quiet_ldA S ?_ | refine quiet_b2sB S ?_ | refine quiet_b2sR S ?_ | refine quiet_ldc S ?_); go_big_quiet_on))); refine wpQuiet_nil ?_; clear S; intro wq S) | go_big_skip | (refine wpList_ld S ?_) | (refine wpList_ld8 S ?_) | (refine wpList_ld0 ?_) | (refine wpList_ldA S ?_) | (refine wpList_st8 S ?_; (clear S; intro ws S)) | (refine wpList_st S ?_; (clear S; intro ws S)) | (refine wpList_box S ?_; (clear S; intro nb wb hnb S)) | (refine wpList_alloc S ?_; (clear S; intro nb wb hnb S)) | (refine wpList_mk8 S ?_; (clear S; intro nb wb hnb S)) | (refine wpList_mk S ?_; (clear S; intro nb wb hnb S)) | (refine wpList_bs S ?_; (clear S; intro nb wb hnb S)) | (refine wpList_stA S ?_; (clear S; intro ws S; simp only [splice, List.take_zero, List.take_succ_cons, List.drop_succ_cons, List.drop_zero, List.drop_nil, List.length_cons, List.length_nil, Nat.reduceAdd, Nat.zero_add, List.nil_append, List.cons_append, List.append_nil] at S)) | (refine wpList_b2sB S ?_) | (refine wpList_b2sR S ?_) | (refine wpList_ldc S ?_))
        refine Calls.mono (tapeFits tp t vb vk op2 (.slice none 0 0) oa' m c' _ S.sel1 (Mild.low hlow.out (by have := hn.out; omega)) ⟨hkr.1, hkr.2.1⟩ (by omega) (by omega)) ?_
        rintro e w5 ⟨rfl, C⟩
        have S2 := S.call C; clear S C; simp only [List.cons_append, List.nil_append] at S2; have S := S2; clear S2
        cases hfit : t.fits op2 with
        | false =>
          go_wp2_with (first | go_big_skip | ((with_reducible show Code.wp _ (Code.region _ _ true) _ _ _); refine St.regionLast S ?_; (repeat (first | (go_big_quiet_step (fail)) | (go_big_quiet_want; (first | refine quiet_ld S ?_ | refine quiet_ld8 S ?_ | refine quiet_ld0 ?_ | refine quiet_ldA S ?_ | refine quiet_b2sB S ?_ | refine quiet_b2sR S ?_ | refine quiet_ldc S ?_); go_big_quiet_on))); refine wpQuiet_nil ?_; clear S; intro wq S) | go_big_skip | (refine wpList_ld S ?_) | (refine wpList_ld8 S ?_) | (refine wpList_ld0 ?_) | (refine wpList_ldA S ?_) | (refine wpList_st8 S ?_; (clear S; intro ws S)) | (refine wpList_st S ?_; (clear S; intro ws S)) | (refine wpList_box S ?_; (clear S; intro nb wb hnb S)) | (refine wpList_alloc S ?_; (clear S; intro nb wb hnb S)) | (refine wpList_mk8 S ?_; (clear S; intro nb wb hnb S)) | (refine wpList_mk S ?_; (clear S; intro nb wb hnb S)) | (refine wpList_bs S ?_; (clear S; intro nb wb hnb S)) | (refine wpList_stA S ?_; (clear S; intro ws S; simp only [splice, List.take_zero, List.take_succ_cons, List.drop_succ_cons, List.drop_zero, List.drop_nil, List.length_cons, List.length_nil, Nat.reduceAdd, Nat.zero_add, List.nil_append, List.cons_append, List.append_nil] at S)) | (refine wpList_b2sB S ?_) | (refine wpList_b2sR S ?_) | (refine wpList_ldc S ?_))
          go_roundg (gk - 1)
          case measure => have := hg.out; omega
          case rel => exact ⟨k + 1, n, D, t, css, wl, vb, vk, _, _, rfl, rfl, hidden (by have := hg.out; omega), by go_num, by omega, by omega, by omega, hn, hD, hE4, hW, (S.selT (by repeat (first | (apply SelT.nil; (repeat (first | exact Suf.refl | apply Suf.cons)); done) | (apply SelT.cons; (repeat (first | exact Pull.head | apply Pull.tail))))))⟩
        | true =>
          have hnr := hidden (hnear.out hfit)
          clear hnear
          go_wp2_with (first | go_big_skip | (refine wpList_appB S ?_; (clear S; intro va wa hva S)) | ((with_reducible show Code.wp _ (Code.region _ _ true) _ _ _); refine St.regionLast S ?_; (repeat (first | (go_big_quiet_step (fail)) | (go_big_quiet_want; (first | refine quiet_ld S ?_ | refine quiet_ld8 S ?_ | refine quiet_ld0 ?_ | refine quiet_ldA S ?_ | refine quiet_b2sB S ?_ | refine quiet_b2sR S ?_ | refine quiet_ldc S ?_); go_big_quiet_on))); refine wpQuiet_nil ?_; clear S; intro wq S) | go_big_skip | (refine wpList_ld S ?_) | (refine wpList_ld8 S ?_) | (refine wpList_ld0 ?_) | (refine wpList_ldA S ?_) | (refine wpList_st8 S ?_; (clear S; intro ws S)) | (refine wpList_st S ?_; (clear S; intro ws S)) | (refine wpList_box S ?_; (clear S; intro nb wb hnb S)) | (refine wpList_alloc S ?_; (clear S; intro nb wb hnb S)) | (refine wpList_mk8 S ?_; (clear S; intro nb wb hnb S)) | (refine wpList_mk S ?_; (clear S; intro nb wb hnb S)) | (refine wpList_bs S ?_; (clear S; intro nb wb hnb S)) | (refine wpList_stA S ?_; (clear S; intro ws S; simp only [splice, List.take_zero, List.take_succ_cons, List.drop_succ_cons, List.drop_zero, List.drop_nil, List.length_cons, List.length_nil, Nat.reduceAdd, Nat.zero_add, List.nil_append, List.cons_append, List.append_nil] at S)) | (refine wpList_b2sB S ?_) | (refine wpList_b2sR S ?_) | (refine wpList_ldc S ?_))
          have hT : TapeSt w [] _ tp t (.row 26 4 va (n + 1) (css.flatten ++ [.int .i64 op2.kind, .slice oa' m c', .int .i64 op2.off, .int .i64 op2.len]) :: .row 37 8 (.slice aw n cw) n (tansCells wl) :: tansRows wl) := ⟨vb, vk, (S.selT (by repeat (first | (apply SelT.nil; (repeat (first | exact Suf.refl | apply Suf.cons)); done) | (apply SelT.cons; (repeat (first | exact Pull.head | apply Pull.tail))))))⟩
          refine Calls.mono (tapeDoNear tp t op2 m c' oa' _ w [] _ hT hlow.out (by have := hn.out; omega) (Seen.of hs2.out) hnr.out) ?_
          rintro e w6 ⟨dv, kv, rfl, vb2, vk2, S2⟩
          clear S hT
          have S := S2
          clear S2
          have hD2 := Ta.Did.snoc hD.out hnr.out
          generalize t.step op2 = st at *
          obtain ⟨t2, an⟩ := st
          simp only at *
          obtain ⟨a3, c3, rfl, hc3, hc4⟩ := S.rowSlice (hp := .tail (.tail (.tail .head)))
          obtain ⟨a5, c5, rfl, hc5, hc6⟩ := S.rowSlice (hp := .tail (.tail (.tail (.tail .head))))
          replace hD2 := hidden hD2
          go_wp2_with (first | go_big_skip | (refine wpList_appB S ?_; (clear S; intro vc wa2 hvc S)) | ((with_reducible show Code.wp _ (Code.region _ _ true) _ _ _); refine St.regionLast S ?_; (repeat (first | (go_big_quiet_step (fail)) | (go_big_quiet_want; (first | refine quiet_ld S ?_ | refine quiet_ld8 S ?_ | refine quiet_ld0 ?_ | refine quiet_ldA S ?_ | refine quiet_b2sB S ?_ | refine quiet_b2sR S ?_ | refine quiet_ldc S ?_); go_big_quiet_on))); refine wpQuiet_nil ?_; clear S; intro wq S) | go_big_skip | (refine wpList_ld S ?_) | (refine wpList_ld8 S ?_) | (refine wpList_ld0 ?_) | (refine wpList_ldA S ?_) | (refine wpList_st8 S ?_; (clear S; intro ws S)) | (refine wpList_st S ?_; (clear S; intro ws S)) | (refine wpList_box S ?_; (clear S; intro nb wb hnb S)) | (refine wpList_alloc S ?_; (clear S; intro nb wb hnb S)) | (refine wpList_mk8 S ?_; (clear S; intro nb wb hnb S)) | (refine wpList_mk S ?_; (clear S; intro nb wb hnb S)) | (refine wpList_bs S ?_; (clear S; intro nb wb hnb S)) | (refine wpList_stA S ?_; (clear S; intro ws S; simp only [splice, List.take_zero, List.take_succ_cons, List.drop_succ_cons, List.drop_zero, List.drop_nil, List.length_cons, List.length_nil, Nat.reduceAdd, Nat.zero_add, List.nil_append, List.cons_append, List.append_nil] at S)) | (refine wpList_b2sB S ?_) | (refine wpList_b2sR S ?_) | (refine wpList_ldc S ?_))
          go_roundg (gk - 1)
          case measure => have := hg.out; omega
          case rel =>
            refine ⟨k + 1, n + 1, D ++ [(op2, an)], t2, css ++ [[.int .i64 op2.kind, .slice oa' m c', .int .i64 op2.off, .int .i64 op2.len]], wl ++ [((.slice a3 an.want.data.length c3, .slice a5 an.known.length c5), an)], vb2, vk2, va, vc, rfl, rfl, hidden (by have := hg.out; omega), by go_num, by omega, by omega, by omega, hidden (by rw [List.length_append, hn.out]; rfl), hD2, hidden ?_, hidden ?_, ?_⟩
            · rw [List.map_append]
              exact hE4.out.append ⟨⟨⟨oa', m, c', rfl, hs2.out, hmc⟩, rfl⟩, trivial⟩
            · rw [List.map_append, List.map_append, hW.out]; rfl
            · rw [List.flatten_append, tansCells_snoc, tansRows_snoc]
              have S2 : St w [] wa2 (tHead tp t2.size t2.b t2.e t2.o vb2 vk2 :: .row 5 1 vb2 t2.bytes.length (u8s t2.bytes) :: .row 4 1 vk2 t2.known.length (bls t2.known) :: .row 26 4 va (n + 1) (css.flatten ++ [.int .i64 op2.kind, .slice oa' m c', .int .i64 op2.off, .int .i64 op2.len]) ::
                .row 37 8 vc (n + 1) (tansCells wl ++ [.int .i64 an.want.fault, .int .i64 an.want.n, .int .i64 an.want.m, .int .i64 an.want.len, .slice a3 an.want.data.length c3, .bool an.want.is, .slice a5 an.known.length c5, .bool an.open']) ::
                .row 5 1 (.slice a3 an.want.data.length c3) an.want.data.length (u8s an.want.data) :: .row 4 1 (.slice a5 an.known.length c5) an.known.length (bls an.known) :: tansRows wl) := (S.selT (by repeat (first | (apply SelT.nil; (repeat (first | exact Suf.refl | apply Suf.cons)); done) | (apply SelT.cons; (repeat (first | exact Pull.head | apply Pull.tail))))))
              exact S2.perm (.cons _ (.cons _ (.cons _ (.cons _ (.cons _ (List.perm_append_comm (l₁ := [_, _])))))))
      · rw [decide_eq_false hlt]
        have hlow := hidden (Ta.did_low hD.out hlow0.out)
        have hn60 : n ≤ 60 := by omega
        have hbe := hlow.out.fine.be
        have hfit := hlow.out.fine.fit
        have hszt := hlow.out.size
        have hee := hlow.out.e
        rw [Nat.zero_add, ← hn.out] at hee
        obtain ⟨al, cl, rfl, hcl1, hcl2⟩ := S.rowSliceN (hp := .tail (.tail (.tail .head)))
        obtain ⟨aw, cw, rfl, hcw1, hcw2⟩ := S.rowSliceN (hp := .tail (.tail (.tail (.tail .head))))
        go_upto_region 14 with fail
        refine St.regionC S [tHead tp t.size t.b t.e t.o vb vk] 19 [([0, 1, 2, 3, 4, 5, 6, 7, 8, 9, 10, 11, 12, 13, 14, 15], 16), ([], 17)] [18] ?_
        clear S; intro wr Cr S Sc; simp only [walkC, pick, List.getElem?_cons_succ, List.getElem?_cons_zero, List.drop_succ_cons, List.drop_zero]; (repeat (first | (go_big_quiet_step (fail)) | (go_big_quiet_want; (first | refine quiet_ld Sc ?_ | refine quiet_ld8 Sc ?_ | refine quiet_ld0 ?_ | refine quiet_ldA Sc ?_ | refine quiet_b2sB Sc ?_ | refine quiet_b2sR Sc ?_ | refine quiet_ldc Sc ?_); go_big_quiet_on))); refine wpQuiet_nil ?_
        refine wpList_bs S ?_; (clear S; intro nb wb hnb S)
        refine ⟨(S.sel (by repeat (first | exact Sel.nil | (apply Sel.cons; (repeat (first | exact Pull.head | apply Pull.tail)))))).inSt _, ?_⟩; (repeat (first | (go_big_quiet_step (fail)) | (go_big_quiet_want; (first | refine quiet_ld Sc ?_ | refine quiet_ld8 Sc ?_ | refine quiet_ld0 ?_ | refine quiet_ldA Sc ?_ | refine quiet_b2sB Sc ?_ | refine quiet_b2sR Sc ?_ | refine quiet_ldc Sc ?_); go_big_quiet_on))); refine wpQuiet_nil ?_
        refine wpList_appB S ?_; (clear S; intro va wa hva S)
        refine ⟨(S.sel (by repeat (first | exact Sel.nil | (apply Sel.cons; (repeat (first | exact Pull.head | apply Pull.tail)))))).inSt _, ?_⟩; (repeat (first | (go_big_quiet_step (fail)) | (go_big_quiet_want; (first | refine quiet_ld Sc ?_ | refine quiet_ld8 Sc ?_ | refine quiet_ld0 ?_ | refine quiet_ldA Sc ?_ | refine quiet_b2sB Sc ?_ | refine quiet_b2sR Sc ?_ | refine quiet_ldc Sc ?_); go_big_quiet_on))); refine wpQuiet_nil ?_
        clear hva
        have S2 : St w [] _ (tHead tp t.size t.b t.e t.o vb vk :: .row 5 1 vb t.bytes.length (u8s t.bytes) :: .row 4 1 vk t.known.length (bls t.known) :: .row 26 4 va (n + 2) (css.flatten ++ [.int .i64 10, .slice none 0 0, .int .i64 0, .int .i64 0, .int .i64 1, .slice none 0 0, .int .i64 t.b, .int .i64 ((t.e : Int) - t.b)]) :: .row 37 8 (.slice aw n cw) n (tansCells wl) :: tansRows wl) := (S.selT (by repeat (first | (apply SelT.nil; (repeat (first | exact Suf.refl | apply Suf.cons)); done) | (apply SelT.cons; (repeat (first | exact Pull.head | apply Pull.tail))))))
        clear S
        have S := S2
        clear S2
        obtain ⟨lb, lc, rfl, hlc⟩ := S.rowSome (by omega) (.tail (.tail (.tail .head)))
        have hfl : css.flatten.length = n * 4 := by
          rw [flat_len (size := 4) hE4.out.sizes, ← hE4.out.length, List.length_map, hn.out]
        have hone := hidden (show ∀ u ∈ css.flatten ++ [.int .i64 10, .slice none 0 0, .int .i64 0, .int .i64 0, .int .i64 1, .slice none 0 0, .int .i64 t.b, .int .i64 ((t.e : Int) - t.b)], u.oneCell' = true from by
          intro u hu
          rcases List.mem_append.1 hu with hu | hu
          · obtain ⟨cs, hcs, hu⟩ := List.mem_flatten.1 hu
            obtain ⟨i, hi⟩ := List.getElem?_of_mem hcs
            have hlt2 := (List.getElem?_eq_some_iff.1 hi).1
            have hl := hE4.out.length
            obtain ⟨b, hb, hb2, _⟩ := hE4.out.get i _ (List.getElem?_eq_getElem (show i < (D.map (·.1)).length by omega))
            rw [hi] at hb
            cases hb
            exact hb2.one u hu
          · simp at hu
            rcases hu with rfl | rfl | rfl | rfl | rfl | rfl | rfl | rfl <;> rfl)
        have hi1 := hidden (get_app (xs := css.flatten ++ [.int .i64 10, .slice none 0 0, .int .i64 0, .int .i64 0, .int .i64 1, .slice none 0 0, .int .i64 t.b, .int .i64 ((t.e : Int) - t.b)]) (cs := [.int .i64 10, .slice none 0 0, .int .i64 0, .int .i64 0]) (more := [.int .i64 1, .slice none 0 0, .int .i64 t.b, .int .i64 ((t.e : Int) - t.b)]) hfl rfl)
        have hi2 := hidden (get_app (xs := css.flatten ++ [.int .i64 10, .slice none 0 0, .int .i64 0, .int .i64 0, .int .i64 1, .slice none 0 0, .int .i64 t.b, .int .i64 ((t.e : Int) - t.b)]) (a := css.flatten ++ [.int .i64 10, .slice none 0 0, .int .i64 0, .int .i64 0]) (i := (n + 1) * 4) (cs := [.int .i64 1, .slice none 0 0, .int .i64 t.b, .int .i64 ((t.e : Int) - t.b)]) (more := []) (by rw [List.length_append, hfl]; simp; omega) (by simp))
        go_upto_region 15 with fail
        refine St.regionC S [.row 26 4 (.slice (some ⟨lb, 0, none⟩) (n + 2) lc) (n + 2) (css.flatten ++ [.int .i64 10, .slice none 0 0, .int .i64 0, .int .i64 0, .int .i64 1, .slice none 0 0, .int .i64 t.b, .int .i64 ((t.e : Int) - t.b)])] 20 [([0, 1, 2, 3, 4, 5, 6, 7, 9, 10, 11, 12, 13, 14, 15], 8), ([], 16), ([], 17), ([], 18)] [19] ?_
        clear S; intro wr Cr S Sc; simp only [walkC, pick, List.getElem?_cons_succ, List.getElem?_cons_zero, List.drop_succ_cons, List.drop_zero]
        (repeat (first | (go_big_quiet_want; (first | refine quiet_ldRc Sc hone.out rfl hi1.out ?_ | refine quiet_ldRc Sc hone.out rfl hi2.out ?_); go_big_quiet_on) | (first | (go_big_quiet_step (fail)) | (go_big_quiet_want; (first | refine quiet_ld Sc ?_ | refine quiet_ld8 Sc ?_ | refine quiet_ld0 ?_ | refine quiet_ldA Sc ?_ | refine quiet_b2sB Sc ?_ | refine quiet_b2sR Sc ?_ | refine quiet_ldc Sc ?_); go_big_quiet_on))))
        refine wpQuiet_nil ?_
        go_wp2_with fail
        have hT : TapeSt w [] _ tp t (.row 26 4 (.slice (some ⟨lb, 0, none⟩) (n + 2) lc) (n + 2) (css.flatten ++ [.int .i64 10, .slice none 0 0, .int .i64 0, .int .i64 0, .int .i64 1, .slice none 0 0, .int .i64 t.b, .int .i64 ((t.e : Int) - t.b)]) :: .row 37 8 (.slice aw n cw) n (tansCells wl) :: tansRows wl) := ⟨vb, vk, S⟩
        obtain ⟨a10, ha10⟩ : ∃ a, t.step ⟨10, [], 0, 0⟩ = (t, a) := ⟨_, Ta.step10 t [] 0 0⟩
        have hD2 : Ta.Did (Ta.fresh sz bg) (D ++ [(⟨10, [], 0, 0⟩, a10)]) t := by
          have h := Ta.Did.snoc hD.out (Ta.near_ten t)
          rw [ha10] at h
          exact h
        obtain ⟨t3, a1, hst⟩ : ∃ t3 a1, t.step ⟨1, [], t.b, (t.e : Int) - t.b⟩ = (t3, a1) := ⟨_, _, rfl⟩
        have hD3 : Ta.Did (Ta.fresh sz bg) (D ++ [(⟨10, [], 0, 0⟩, a10)] ++ [(⟨1, [], t.b, (t.e : Int) - t.b⟩, a1)]) t3 := by
          have h := Ta.Did.snoc hD2 (Ta.near_all t hlow.out)
          rw [hst] at h
          exact h
        replace hD2 := hidden hD2
        replace hD3 := hidden hD3
        refine Calls.mono (tapeDoNear tp t ⟨10, [], 0, 0⟩ 0 0 none _ w [] _ hT hlow.out (by have := hn.out; omega) (Seen.of (Src.nil w 1 0)) (Ta.near_ten t)) ?_
        rintro e w6 ⟨dv, kv, rfl, vb2, vk2, S2⟩
        clear S Sc hT
        have S := S2
        clear S2
        rw [ha10] at S ⊢
        simp only at S
        obtain ⟨a3, c3, rfl, hc3, hc4⟩ := S.rowSlice (hp := .tail (.tail (.tail .head)))
        obtain ⟨a5, c5, rfl, hc5, hc6⟩ := S.rowSlice (hp := .tail (.tail (.tail (.tail .head))))
        go_wp2_with fail
        refine ⟨(S.sel (by repeat (first | exact Sel.nil | (apply Sel.cons; (repeat (first | exact Pull.head | apply Pull.tail)))))).inSt _, ?_⟩; (repeat (first | (go_big_quiet_step (fail)) | (go_big_quiet_want; (first | refine quiet_ld Sc ?_ | refine quiet_ld8 Sc ?_ | refine quiet_ld0 ?_ | refine quiet_ldA Sc ?_ | refine quiet_b2sB Sc ?_ | refine quiet_b2sR Sc ?_ | refine quiet_ldc Sc ?_); go_big_quiet_on))); refine wpQuiet_nil ?_
        go_wp2_with fail
        have hT : TapeSt w [] _ tp t _ := ⟨vb2, vk2, S⟩
        refine Calls.mono (tapeDoNear tp t ⟨1, [], t.b, (t.e : Int) - t.b⟩ 0 0 none _ w [] _ hT hlow.out (by have := hn.out; omega) (Seen.of (Src.nil w 1 0)) (Ta.near_all t hlow.out)) ?_
        rintro e w7 ⟨dv, kv, rfl, vb3, vk3, S2⟩
        clear S hT
        have S := S2
        clear S2
        rw [hst] at S ⊢
        simp only at S
        obtain ⟨a7, c7, rfl, hc7, hc8⟩ := S.rowSlice (hp := .tail (.tail (.tail .head)))
        obtain ⟨a9, c9, rfl, hc9, hc10⟩ := S.rowSlice (hp := .tail (.tail (.tail (.tail .head))))
        replace ha10 := hidden ha10
        replace hst := hidden hst
        go_wp2_with fail
        refine ⟨(S.sel (by repeat (first | exact Sel.nil | (apply Sel.cons; (repeat (first | exact Pull.head | apply Pull.tail)))))).inSt _, ?_⟩; (repeat (first | (go_big_quiet_step (fail)) | (go_big_quiet_want; (first | refine quiet_ld Sc ?_ | refine quiet_ld8 Sc ?_ | refine quiet_ld0 ?_ | refine quiet_ldA Sc ?_ | refine quiet_b2sB Sc ?_ | refine quiet_b2sR Sc ?_ | refine quiet_ldc Sc ?_); go_big_quiet_on))); refine wpQuiet_nil ?_
        refine wpList_bs S ?_; (clear S; intro nb2 wb2 hnb2 S)
        refine ⟨(S.sel (by repeat (first | exact Sel.nil | (apply Sel.cons; (repeat (first | exact Pull.head | apply Pull.tail)))))).inSt _, ?_⟩; (repeat (first | (go_big_quiet_step (fail)) | (go_big_quiet_want; (first | refine quiet_ld Sc ?_ | refine quiet_ld8 Sc ?_ | refine quiet_ld0 ?_ | refine quiet_ldA Sc ?_ | refine quiet_b2sB Sc ?_ | refine quiet_b2sR Sc ?_ | refine quiet_ldc Sc ?_); go_big_quiet_on))); refine wpQuiet_nil ?_
        refine wpList_appB S ?_; (clear S; intro vc wa2 hvc S)
        refine ⟨(S.sel (by repeat (first | exact Sel.nil | (apply Sel.cons; (repeat (first | exact Pull.head | apply Pull.tail)))))).inSt _, ?_⟩; (repeat (first | (go_big_quiet_step (fail)) | (go_big_quiet_want; (first | refine quiet_ld Sc ?_ | refine quiet_ld8 Sc ?_ | refine quiet_ld0 ?_ | refine quiet_ldA Sc ?_ | refine quiet_b2sB Sc ?_ | refine quiet_b2sR Sc ?_ | refine quiet_ldc Sc ?_); go_big_quiet_on))); refine wpQuiet_nil ?_
        clear hvc
        go_upto_region 16 with fail
        have S2 : St w [] _ (.row 26 4 (.slice (some ⟨lb, 0, none⟩) (n + 2) lc) (n + 2) (css.flatten ++ [.int .i64 10, .slice none 0 0, .int .i64 0, .int .i64 0, .int .i64 1, .slice none 0 0, .int .i64 t.b, .int .i64 ((t.e : Int) - t.b)]) ::
          .row 37 8 vc (n + 2) (tansCells wl ++ [.int .i64 a10.want.fault, .int .i64 a10.want.n, .int .i64 a10.want.m, .int .i64 a10.want.len, .slice a3 a10.want.data.length c3, .bool a10.want.is, .slice a5 a10.known.length c5, .bool a10.open', .int .i64 a1.want.fault, .int .i64 a1.want.n, .int .i64 a1.want.m, .int .i64 a1.want.len, .slice a7 a1.want.data.length c7, .bool a1.want.is, .slice a9 a1.known.length c9, .bool a1.open']) ::
          .row 5 1 (.slice a3 a10.want.data.length c3) a10.want.data.length (u8s a10.want.data) :: .row 4 1 (.slice a5 a10.known.length c5) a10.known.length (bls a10.known) ::
          .row 5 1 (.slice a7 a1.want.data.length c7) a1.want.data.length (u8s a1.want.data) :: .row 4 1 (.slice a9 a1.known.length c9) a1.known.length (bls a1.known) :: tansRows wl) := (S.selT (by repeat (first | (apply SelT.nil; (repeat (first | exact Suf.refl | apply Suf.cons)); done) | (apply SelT.cons; (repeat (first | exact Pull.head | apply Pull.tail))))))
        clear S
        have hns := hn.out
        obtain ⟨D3, e3⟩ : ∃ D3 : List (Ri.ROp × TAns), D3 = D ++ [(⟨10, [], 0, 0⟩, a10)] ++ [(⟨1, [], t.b, (t.e : Int) - t.b⟩, a1)] := ⟨_, rfl⟩
        rw [← e3] at hD3
        have hlen3 : D3.length = n + 2 := by rw [e3, List.length_append, List.length_append]; simp; omega
        have e31 : D3.map (·.1) = D.map (·.1) ++ [⟨10, [], 0, 0⟩, ⟨1, [], t.b, (t.e : Int) - t.b⟩] := by rw [e3]; simp
        obtain ⟨wl3, ew⟩ : ∃ wl3 : List ((Value × Value) × TAns), wl3 = wl ++ [((.slice a3 a10.want.data.length c3, .slice a5 a10.known.length c5), a10)] ++ [((.slice a7 a1.want.data.length c7, .slice a9 a1.known.length c9), a1)] := ⟨_, rfl⟩
        have e32 : D3.map (·.2) = wl3.map (·.2) := by
          rw [e3, ew, List.map_append, List.map_append, List.map_append, List.map_append, hW.out]; rfl
        have hwl3 : wl3.length = n + 2 := by
          have h := congrArg List.length e32
          rw [List.length_map, List.length_map] at h
          omega
        have harr : ∃ v2 : Value, v2 = .slice (some ⟨lb, 0, none⟩) (n + 2) lc ∧ Arr ROpV 4 wa2 v2 (D3.map (·.1)) := by
          refine ⟨_, rfl, rops_arr (css := css ++ [[.int .i64 10, .slice none 0 0, .int .i64 0, .int .i64 0], [.int .i64 1, .slice none 0 0, .int .i64 t.b, .int .i64 ((t.e : Int) - t.b)]]) (F := []) ?_ (S2.sel (.cons .head .nil)) ?_⟩
          · rw [e31]
            exact hE4.out.append ⟨⟨⟨none, 0, 0, rfl, Src.nil w 1 0, Nat.le_refl _⟩, rfl⟩, ⟨⟨none, 0, 0, rfl, Src.nil w 1 0, Nat.le_refl _⟩, rfl⟩, trivial⟩
          · rw [List.length_map, hlen3, List.flatten_append]
            exact .head
        have hwant : Arr TAnsV 8 wa2 vc (D3.map (·.2)) := by
          rw [e32]
          refine tans_arr ?_ ?_
          · rw [hwl3, ew, tansCells_snoc, tansCells_snoc, List.append_assoc]
            exact S2.mem.2 _ (.tail _ (.head _))
          · intro r hr
            rw [ew, tansRows_snoc, tansRows_snoc] at hr
            refine S2.mem.2 r ?_
            simp only [List.mem_append, List.mem_cons, List.not_mem_nil, or_false] at hr
            rcases hr with (hr | hr | hr) | hr | hr
            · exact .tail _ (.tail _ (.tail _ (.tail _ (.tail _ (.tail _ hr)))))
            · rw [hr]; exact .tail _ (.tail _ (.head _))
            · rw [hr]; exact .tail _ (.tail _ (.tail _ (.head _)))
            · rw [hr]; exact .tail _ (.tail _ (.tail _ (.tail _ (.head _))))
            · rw [hr]; exact .tail _ (.tail _ (.tail _ (.tail _ (.tail _ (.head _)))))
        have hEr : Errs wa2 [] ev0 ev1 := hE.out.call S2 (bs' := [])
        have hchg := hidden S2.chg
        clear S2 e3 e31 e32 ew hwl3
        obtain ⟨_, hfine, _, hsays⟩ := Ta.did_all hD3.out (Ta.fresh_both sz bg hsz1) hlow0.out (by omega)
        obtain ⟨hrk, hrt⟩ := did_rok hD3.out hlow0.out (by omega)
        have hsm := hidden (Ta.did_small hD3.out)
        have hkn2 := hidden (Ta.did_known hD3.out hlow0.out)
        obtain ⟨v2, hv2, harr⟩ := harr
        have hrun := ringRun v2 (D3.map (·.1)) sz bg ev0 ev1 wa2 harr hrk (by rw [List.length_map]; omega) (by omega) hsz1 (by omega) (by omega) hEr hfine
        rw [hv2] at hrun
        have hrl : ((Ri.fresh sz bg).run (D3.map (·.1))).length = n + 2 := by rw [Ri.run_length, List.length_map]; exact hlen3
        have hwl3 : (D3.map (·.2)).length = n + 2 := by rw [List.length_map]; exact hlen3
        obtain ⟨_, hsays⟩ := hsays
        have hsm2 : ∀ p ∈ D3.map (·.2), p.want.data.length ≤ 300 ∧ (p.want.data = [] ∨ p.known.length = p.want.data.length) := by
          intro p hp
          obtain ⟨q, hq, rfl⟩ := List.mem_map.1 hp
          exact ⟨hsm.out q hq, hkn2.out q hq⟩
        have hsh : ∃ ow cw2, vc = .slice ow (n + 2) cw2 := by
          obtain ⟨ow, cw2, h1, _⟩ := hwant.shape
          exact ⟨ow, cw2, by rw [h1, hwl3]⟩
        obtain ⟨A, hA⟩ : ∃ A, A = (Ri.fresh sz bg).run (D3.map (·.1)) := ⟨_, rfl⟩
        obtain ⟨B, hB⟩ : ∃ B, B = D3.map (·.2) := ⟨_, rfl⟩
        rw [← hA] at hrun hrl hsays
        rw [← hB] at hwant hwl3 hsays hsm2
        have hfacts := hidden (And.intro hsays hsm2)
        replace hrun := hidden hrun
        replace hwant := hidden hwant
        clear hsays hsm2 hrk hrt hsm hkn2 hfine harr hv2 hone hi1 hi2 hfl hD hD2 hD3 hE4 hW hEr hlow0 hlow hbe hfit hszt hee hnb hnb2 ha10 hst hn hc3 hc4 hc5 hc6 hc7 hc8 hc9 hc10 hA hB hlen3 hns
        obtain ⟨ow, cw2, rfl⟩ := hsh
        have S := St.begin wa2
        go_wp2_with (first | go_big_skip | ((with_reducible show Code.wp _ (Code.region _ _ true) _ _ _); refine St.regionLast S ?_; (repeat (first | (go_big_quiet_step (fail)) | (go_big_quiet_want; (first | refine quiet_ld S ?_ | refine quiet_ld8 S ?_ | refine quiet_ld0 ?_ | refine quiet_ldA S ?_ | refine quiet_b2sB S ?_ | refine quiet_b2sR S ?_ | refine quiet_ldc S ?_); go_big_quiet_on))); refine wpQuiet_nil ?_; clear S; intro wq S) | go_big_skip | (refine wpList_ld S ?_) | (refine wpList_ld8 S ?_) | (refine wpList_ld0 ?_) | (refine wpList_ldA S ?_) | (refine wpList_st8 S ?_; (clear S; intro ws S)) | (refine wpList_st S ?_; (clear S; intro ws S)) | (refine wpList_box S ?_; (clear S; intro nb wb hnb S)) | (refine wpList_alloc S ?_; (clear S; intro nb wb hnb S)) | (refine wpList_mk8 S ?_; (clear S; intro nb wb hnb S)) | (refine wpList_mk S ?_; (clear S; intro nb wb hnb S)) | (refine wpList_bs S ?_; (clear S; intro nb wb hnb S)) | (refine wpList_stA S ?_; (clear S; intro ws S; simp only [splice, List.take_zero, List.take_succ_cons, List.drop_succ_cons, List.drop_zero, List.drop_nil, List.length_cons, List.length_nil, Nat.reduceAdd, Nat.zero_add, List.nil_append, List.cons_append, List.append_nil] at S)) | (refine wpList_b2sB S ?_) | (refine wpList_b2sR S ?_) | (refine wpList_ldc S ?_))
        refine Calls.mono hrun.out ?_
        clear S
        rintro e w8 ⟨ov, rfl, hout, C⟩
        have hsh : ∃ oo co, ov = .slice oo (n + 2) co := by
          obtain ⟨oo, co, h1, _⟩ := hout.shape
          exact ⟨oo, co, by rw [h1, hrl]⟩
        have hwant8 := hidden (hwant.out.on C fun _ _ h => h.on C)
        replace hout := hidden hout
        have hchg8 := hidden (hchg.out.trans C)
        clear C hchg hwant hrun
        obtain ⟨oo, co, rfl⟩ := hsh
        have S := St.begin w8
        go_wp2_with (first | go_big_skip | ((with_reducible show Code.wp _ (Code.region _ _ true) _ _ _); refine St.regionLast S ?_; (repeat (first | (go_big_quiet_step (fail)) | (go_big_quiet_want; (first | refine quiet_ld S ?_ | refine quiet_ld8 S ?_ | refine quiet_ld0 ?_ | refine quiet_ldA S ?_ | refine quiet_b2sB S ?_ | refine quiet_b2sR S ?_ | refine quiet_ldc S ?_); go_big_quiet_on))); refine wpQuiet_nil ?_; clear S; intro wq S) | go_big_skip | (refine wpList_ld S ?_) | (refine wpList_ld8 S ?_) | (refine wpList_ld0 ?_) | (refine wpList_ldA S ?_) | (refine wpList_st8 S ?_; (clear S; intro ws S)) | (refine wpList_st S ?_; (clear S; intro ws S)) | (refine wpList_box S ?_; (clear S; intro nb wb hnb S)) | (refine wpList_alloc S ?_; (clear S; intro nb wb hnb S)) | (refine wpList_mk8 S ?_; (clear S; intro nb wb hnb S)) | (refine wpList_mk S ?_; (clear S; intro nb wb hnb S)) | (refine wpList_bs S ?_; (clear S; intro nb wb hnb S)) | (refine wpList_stA S ?_; (clear S; intro ws S; simp only [splice, List.take_zero, List.take_succ_cons, List.drop_succ_cons, List.drop_zero, List.drop_nil, List.length_cons, List.length_nil, Nat.reduceAdd, Nat.zero_add, List.nil_append, List.cons_append, List.append_nil] at S)) | (refine wpList_b2sB S ?_) | (refine wpList_b2sR S ?_) | (refine wpList_ldc S ?_))
        go_loopg [14, 15, 116] (n + 2) (fun g xi xp i wr => ∃ j : Nat, Hid (j + g = n + 2) ∧ i = .int .i64 j ∧ j ≤ n + 2 ∧ St w8 [] wr [])
        case atStart => exact ⟨0, hidden (by omega), rfl, Nat.zero_le _, S⟩
        case round =>
          clear S
          obtain ⟨j, hg2, rfl, hjn, S⟩ := hrel
          by_cases hlt2 : j < n + 2
          · have hja : A[j]? = some A[j] := List.getElem?_eq_getElem (by omega)
            have hjb : B[j]? = some B[j] := List.getElem?_eq_getElem (by omega)
            obtain ⟨hsay, hsml⟩ := hfacts.out
            have hs1 := hsay j _ _ hjb hja
            obtain ⟨hb1, hb2⟩ := hsml _ (List.getElem_mem (l := B) (n := j) (by omega))
            have hb3 := Ta.says_length hs1
            have hao : ∃ ad, oo = some ad := by
              have h := hout.out
              rw [← hrl] at h
              exact h.some (by decide) (by omega)
            have hbo : ∃ ad, ow = some ad := by
              have h := hwant8.out
              rw [← hwl3] at h
              exact h.some (by decide) (by omega)
            obtain ⟨oad, rfl⟩ := hao
            obtain ⟨wad, rfl⟩ := hbo
            obtain ⟨cs, ⟨oa', c', rfl, hsx, hcx⟩, hl6, hcell⟩ := hout.out.get j _ hja
            obtain ⟨cs, ⟨ob, db, oc, ec, rfl, hsy, hsk⟩, hl8, hcellw⟩ := hwant8.out.get j _ hjb
            have hcall : ∀ w', Chg [] w8 w' → Calls Tryd.prog 16 #[.agg #[.int .i64 B[j].want.fault, .int .i64 B[j].want.n, .int .i64 B[j].want.m, .int .i64 B[j].want.len, .slice ob B[j].want.data.length db, .bool B[j].want.is, .slice oc B[j].known.length ec, .bool B[j].open'], .agg #[.int .i64 A[j].fault, .int .i64 A[j].n, .int .i64 A[j].m, .int .i64 A[j].len, .slice oa' A[j].data.length c', .bool A[j].is]] w' fun e' w'' => e' = .returned (.bool true) ∧ St w' [] w'' [] := fun w' C => by
              have h := specSays B[j] A[j] oa' ob oc A[j].data.length c' db ec B[j].want.data.length B[j].known.length w' (hsx.on C) (hsy.on C) (hsk.on C) (by
                rcases hb2 with h | h
                · left; rw [h]; rfl
                · right; exact h) (by omega) (by omega)
              rw [hs1] at h
              exact h
            generalize A[j] = an at *
            generalize B[j] = bn at *
            replace hcall := hidden hcall
            replace hcell := hidden hcell
            replace hcellw := hidden hcellw
            clear hja hjb hsay hsml hs1 hb1 hb2 hb3 hsx hcx hl6 hsy hsk hl8
            go_wp2_with (first | go_big_skip | (refine wpList_ldAc S ?_ (by rfl) hcell.out) | ((with_reducible show Code.wp _ (Code.region _ _ true) _ _ _); refine St.regionLast S ?_; (repeat (first | (go_big_quiet_step (fail)) | (go_big_quiet_want; (first | refine quiet_ld S ?_ | refine quiet_ld8 S ?_ | refine quiet_ld0 ?_ | refine quiet_ldA S ?_ | refine quiet_b2sB S ?_ | refine quiet_b2sR S ?_ | refine quiet_ldc S ?_); go_big_quiet_on))); refine wpQuiet_nil ?_; clear S; intro wq S) | go_big_skip | (refine wpList_ld S ?_) | (refine wpList_ld8 S ?_) | (refine wpList_ld0 ?_) | (refine wpList_ldA S ?_) | (refine wpList_st8 S ?_; (clear S; intro ws S)) | (refine wpList_st S ?_; (clear S; intro ws S)) | (refine wpList_box S ?_; (clear S; intro nb wb hnb S)) | (refine wpList_alloc S ?_; (clear S; intro nb wb hnb S)) | (refine wpList_mk8 S ?_; (clear S; intro nb wb hnb S)) | (refine wpList_mk S ?_; (clear S; intro nb wb hnb S)) | (refine wpList_bs S ?_; (clear S; intro nb wb hnb S)) | (refine wpList_stA S ?_; (clear S; intro ws S; simp only [splice, List.take_zero, List.take_succ_cons, List.drop_succ_cons, List.drop_zero, List.drop_nil, List.length_cons, List.length_nil, Nat.reduceAdd, Nat.zero_add, List.nil_append, List.cons_append, List.append_nil] at S)) | (refine wpList_b2sB S ?_) | (refine wpList_b2sR S ?_) | (refine wpList_ldc S ?_))
            refine St.regionC S [.blk nb _] 7 [([0, 1, 2, 3, 4], 5)] [6] ?_
            clear S; intro wr2 Cr S Sc; simp only [walkC, pick, List.getElem?_cons_succ, List.getElem?_cons_zero, List.drop_succ_cons, List.drop_zero]
            (repeat (first | (go_big_quiet_want; (refine quiet_ldAd Sc ?_ (by rfl) hcellw.out); go_big_quiet_on) | (first | (go_big_quiet_step (fail)) | (go_big_quiet_want; (first | refine quiet_ld Sc ?_ | refine quiet_ld8 Sc ?_ | refine quiet_ld0 ?_ | refine quiet_ldA Sc ?_ | refine quiet_b2sB Sc ?_ | refine quiet_b2sR Sc ?_ | refine quiet_ldc Sc ?_); go_big_quiet_on))))
            refine wpQuiet_nil ?_
            go_wp2_with fail
            refine Calls.mono (hcall.out _ S.chg) ?_
            rintro e w9 ⟨rfl, C⟩
            have S2 := S.same C.chg
            clear S C
            have S := S2
            clear S2
            go_wp2_with fail
            refine ⟨(S.sel (by repeat (first | exact Sel.nil | (apply Sel.cons; (repeat (first | exact Pull.head | apply Pull.tail)))))).inSt _, ?_⟩; (repeat (first | (go_big_quiet_step (fail)) | (go_big_quiet_want; (first | refine quiet_ld Sc ?_ | refine quiet_ld8 Sc ?_ | refine quiet_ld0 ?_ | refine quiet_ldA Sc ?_ | refine quiet_b2sB Sc ?_ | refine quiet_b2sR Sc ?_ | refine quiet_ldc Sc ?_); go_big_quiet_on))); refine wpQuiet_nil ?_
            go_wp2_with (first | go_big_skip | ((with_reducible show Code.wp _ (Code.region _ _ true) _ _ _); refine St.regionLast S ?_; (repeat (first | (go_big_quiet_step (fail)) | (go_big_quiet_want; (first | refine quiet_ld S ?_ | refine quiet_ld8 S ?_ | refine quiet_ld0 ?_ | refine quiet_ldA S ?_ | refine quiet_b2sB S ?_ | refine quiet_b2sR S ?_ | refine quiet_ldc S ?_); go_big_quiet_on))); refine wpQuiet_nil ?_; clear S; intro wq S) | go_big_skip | (refine wpList_ld S ?_) | (refine wpList_ld8 S ?_) | (refine wpList_ld0 ?_) | (refine wpList_ldA S ?_) | (refine wpList_st8 S ?_; (clear S; intro ws S)) | (refine wpList_st S ?_; (clear S; intro ws S)) | (refine wpList_box S ?_; (clear S; intro nb wb hnb S)) | (refine wpList_alloc S ?_; (clear S; intro nb wb hnb S)) | (refine wpList_mk8 S ?_; (clear S; intro nb wb hnb S)) | (refine wpList_mk S ?_; (clear S; intro nb wb hnb S)) | (refine wpList_bs S ?_; (clear S; intro nb wb hnb S)) | (refine wpList_stA S ?_; (clear S; intro ws S; simp only [splice, List.take_zero, List.take_succ_cons, List.drop_succ_cons, List.drop_zero, List.drop_nil, List.length_cons, List.length_nil, Nat.reduceAdd, Nat.zero_add, List.nil_append, List.cons_append, List.append_nil] at S)) | (refine wpList_b2sB S ?_) | (refine wpList_b2sR S ?_) | (refine wpList_ldc S ?_))
            go_roundg (gk - 1)
            case measure => have := hg2.out; omega
            case rel => exact ⟨j + 1, hidden (by have := hg2.out; omega), by go_num, by omega, S.sel (by repeat (first | exact Sel.nil | (apply Sel.cons; (repeat (first | exact Pull.head | apply Pull.tail)))))⟩
          · have hjl : j = n + 2 := by omega
            replace hjl := hidden hjl
            go_wp2_with (first | go_big_skip | ((with_reducible show Code.wp _ (Code.region _ _ true) _ _ _); refine St.regionLast S ?_; (repeat (first | (go_big_quiet_step (fail)) | (go_big_quiet_want; (first | refine quiet_ld S ?_ | refine quiet_ld8 S ?_ | refine quiet_ld0 ?_ | refine quiet_ldA S ?_ | refine quiet_b2sB S ?_ | refine quiet_b2sR S ?_ | refine quiet_ldc S ?_); go_big_quiet_on))); refine wpQuiet_nil ?_; clear S; intro wq S) | go_big_skip | (refine wpList_ld S ?_) | (refine wpList_ld8 S ?_) | (refine wpList_ld0 ?_) | (refine wpList_ldA S ?_) | (refine wpList_st8 S ?_; (clear S; intro ws S)) | (refine wpList_st S ?_; (clear S; intro ws S)) | (refine wpList_box S ?_; (clear S; intro nb wb hnb S)) | (refine wpList_alloc S ?_; (clear S; intro nb wb hnb S)) | (refine wpList_mk8 S ?_; (clear S; intro nb wb hnb S)) | (refine wpList_mk S ?_; (clear S; intro nb wb hnb S)) | (refine wpList_bs S ?_; (clear S; intro nb wb hnb S)) | (refine wpList_stA S ?_; (clear S; intro ws S; simp only [splice, List.take_zero, List.take_succ_cons, List.drop_succ_cons, List.drop_zero, List.drop_nil, List.length_cons, List.length_nil, Nat.reduceAdd, Nat.zero_add, List.nil_append, List.cons_append, List.append_nil] at S)) | (refine wpList_b2sB S ?_) | (refine wpList_b2sR S ?_) | (refine wpList_ldc S ?_))
            ((first | go_ret | go_ret2 | go_ret3 | go_end0 | skip); refine hR.out _ _ ?_)
            exact ⟨rfl, hchg8.out.trans S.chg⟩
theorem rowRingRun {H : Type} {enc : TypeId × Value → H} {base base' : Nat} {spare : Nat → Bool} {held : Bool} {r : Reach} {d : DataW H} {ps : List MemPlace} {X0 X1 X2 : Prop} {t0 t1 : TypeId} {x0 x1 : Addr} (a0 a1 : Int) (v : Value) (W : World) (_ : X0) (_ : X1)
    (hval : Value.okWide Tryd.prog W r base' 49 v) (hd : DataW.Trod enc Tryd.prog W base spare held 49 v d ps) (_ : X2)
    (h1 : W.cell? ⟨1, 0, none⟩ = some (.iface t1 (.pointer (some x1)))) (h0 : W.cell? ⟨0, 0, none⟩ = some (.iface t0 (.pointer (some x0)))) :
    Calls Tryd.prog 5 #[.int .i64 a0, .int .i64 a1, v] W fun e w' => e = .returned (.bool true) ∧ Below W.heap.size W w' := by
  obtain ⟨ops, h⟩ := open_rops hval hd
  exact Calls.mono (lawRingRun a0 a1 v ops _ _ W h (errs_of h1 h0)) fun e w' ⟨h1, h2⟩ => ⟨h1, h2.below⟩
end Go.Proofs.YtbklhnpnkinadaaDoor
