/- One operation on the parts of a ring buffer: the law. -/
import Derived.Test.YtbklhnpnkinadaaDoorTs
import Derived.Test.YtbklhnpnkinadaaDoorTx
import Derived.Test.YtbklhnpnkinadaaDoorOpenR
namespace Go.Proofs.YtbklhnpnkinadaaDoor
open Go Go.RowKit Go.Vil
set_option linter.unusedSimpArgs false
set_option linter.unusedVariables false
set_option maxRecDepth 100000

theorem fits10 (data : List UInt8) (oa : Option Addr) (n c : Nat) (bg en ix : Int) (w : World) (hs : Src w 1 (.slice oa n c) n (u8s data)) :
    Calls Tryd.prog 9 #[.agg #[.slice oa n c, .int .i64 bg, .int .i64 en, .int .i64 ix]] w fun e w' => ∃ b, e = .returned (.bool b) ∧ (b = true → n ≤ 2147483647) ∧ St w [] w' [] := by
  have S := St.begin w
  clear hs
  refine Calls.cps ?_; intro R hR
  by_cases hn : (n : Int) > 2147483647
  · have hbb : decide ((n : Int) > 2147483647) = true := decide_eq_true hn
    replace hn := hidden hn
    go_enter Tryd.func9, Tryd.ntmps9
    go_wp2_with (first | go_big_skip | ((with_reducible show Code.wp _ (Code.region _ _ true) _ _ _); refine St.regionLast S ?_; (repeat (first | (go_big_quiet_step (fail)) | (go_big_quiet_want; (first | refine quiet_ld S ?_ | refine quiet_ld8 S ?_ | refine quiet_ld0 ?_ | refine quiet_ldA S ?_ | refine quiet_b2sB S ?_ | refine quiet_b2sR S ?_ | refine quiet_ldc S ?_); go_big_quiet_on))); refine wpQuiet_nil ?_; clear S; intro wq S) | go_big_skip | (refine wpList_ld S ?_) | (refine wpList_ld8 S ?_) | (refine wpList_ld0 ?_) | (refine wpList_ldA S ?_) | (refine wpList_st8 S ?_; (clear S; intro ws S)) | (refine wpList_st S ?_; (clear S; intro ws S)) | (refine wpList_box S ?_; (clear S; intro nb wb hnb S)) | (refine wpList_alloc S ?_; (clear S; intro nb wb hnb S)) | (refine wpList_mk8 S ?_; (clear S; intro nb wb hnb S)) | (refine wpList_mk S ?_; (clear S; intro nb wb hnb S)) | (refine wpList_bs S ?_; (clear S; intro nb wb hnb S)) | (refine wpList_stA S ?_; (clear S; intro ws S; simp only [splice, List.take_zero, List.take_succ_cons, List.drop_succ_cons, List.drop_zero, List.drop_nil, List.length_cons, List.length_nil, Nat.reduceAdd, Nat.zero_add, List.nil_append, List.cons_append, List.append_nil] at S)) | (refine wpList_b2sB S ?_) | (refine wpList_b2sR S ?_) | (refine wpList_ldc S ?_))
    ((first | go_ret | go_ret2 | go_ret3 | go_end0 | skip); refine hR.out _ _ ?_)
    exact ⟨_, rfl, by simp, S.sel (by repeat (first | exact Sel.nil | (apply Sel.cons; (repeat (first | exact Pull.head | apply Pull.tail)))))⟩
  · have hbb : decide ((n : Int) > 2147483647) = false := decide_eq_false hn
    replace hn := hidden hn
    go_enter Tryd.func9, Tryd.ntmps9
    go_wp2_with (first | go_big_skip | ((with_reducible show Code.wp _ (Code.region _ _ true) _ _ _); refine St.regionLast S ?_; (repeat (first | (go_big_quiet_step (fail)) | (go_big_quiet_want; (first | refine quiet_ld S ?_ | refine quiet_ld8 S ?_ | refine quiet_ld0 ?_ | refine quiet_ldA S ?_ | refine quiet_b2sB S ?_ | refine quiet_b2sR S ?_ | refine quiet_ldc S ?_); go_big_quiet_on))); refine wpQuiet_nil ?_; clear S; intro wq S) | go_big_skip | (refine wpList_ld S ?_) | (refine wpList_ld8 S ?_) | (refine wpList_ld0 ?_) | (refine wpList_ldA S ?_) | (refine wpList_st8 S ?_; (clear S; intro ws S)) | (refine wpList_st S ?_; (clear S; intro ws S)) | (refine wpList_box S ?_; (clear S; intro nb wb hnb S)) | (refine wpList_alloc S ?_; (clear S; intro nb wb hnb S)) | (refine wpList_mk8 S ?_; (clear S; intro nb wb hnb S)) | (refine wpList_mk S ?_; (clear S; intro nb wb hnb S)) | (refine wpList_bs S ?_; (clear S; intro nb wb hnb S)) | (refine wpList_stA S ?_; (clear S; intro ws S; simp only [splice, List.take_zero, List.take_succ_cons, List.drop_succ_cons, List.drop_zero, List.drop_nil, List.length_cons, List.length_nil, Nat.reduceAdd, Nat.zero_add, List.nil_append, List.cons_append, List.append_nil] at S)) | (refine wpList_b2sB S ?_) | (refine wpList_b2sR S ?_) | (refine wpList_ldc S ?_))
    ((first | go_ret | go_ret2 | go_ret3 | go_end0 | skip); refine hR.out _ _ ?_)
    exact ⟨_, rfl, fun _ => by have := hn.out; omega, S.sel (by repeat (first | exact Sel.nil | (apply Sel.cons; (repeat (first | exact Pull.head | apply Pull.tail)))))⟩

theorem of_low (data : List UInt8) (bg en ix : Int) : (Ta.of' (Ri.cut data bg en ix)).Low 1 := by
  obtain ⟨D, _, h1, h2, b, l, i, _, _, h3, h4, h5, _, _, h⟩ := Ri.cut_of data bg en ix
  have hB := Ta.of_beside (Ri.cut_has data bg en ix)
  have hs := hB.size
  have he := hB.e
  rw [h] at hB hs he ⊢
  have hs2 : (Ri.mk D b (b + l) i).size = D.length := rfl
  have he2 : (Ri.mk D b (b + l) i).e = b + l := rfl
  refine ⟨hB.fine, by omega, by omega, ?_⟩
  have hl := hB.fine.len
  have ho : (Ta.of' (Ri.mk D b (b + l) i)).o = b := Ta.puts_o _ _
  omega

theorem step_e {t : Ta} {k : Nat} {op : Ri.ROp} (h : t.Low k) (hn : t.Near op) : (t.step op).1.e ≤ t.e + 305 := by
  obtain ⟨hapt, hd, hln, ho1, ho2⟩ := hn
  have hks := hapt.kind
  have hl0 := hapt.len
  have h8 := hapt.off
  clear hapt
  obtain ⟨kd, xs, off, len⟩ := op
  simp only at *
  have hkk : kd = 0 ∨ kd = 1 ∨ kd = 2 ∨ kd = 3 ∨ kd = 4 ∨ kd = 5 ∨ kd = 6 ∨ kd = 7 ∨ kd = 8 ∨ kd = 10 := by omega
  rcases hkk with rfl | rfl | rfl | rfl | rfl | rfl | rfl | rfl | rfl | rfl
  · rw [Ta.step0]; split
    · rw [Ta.puts_e, List.length_map]; omega
    · show t.e ≤ _; omega
  · rw [Ta.step1]; split <;> (show t.e ≤ _; omega)
  · rw [Ta.step2]; split
    · obtain ⟨e1, e2, e3, e4, e5, e6⟩ := Ta.overs_rest xs t (off - t.b).toNat
      show (t.overs _ xs).e ≤ _; omega
    · show t.e ≤ _; omega
  · rw [Ta.step3]; split <;> (show t.e ≤ _; omega)
  · rw [Ta.step4]; show t.e ≤ _; omega
  · rw [Ta.step5]
    show (if t.there off len = true then t.puts (t.piece (off - t.b).toNat len.toNat) else t).e ≤ _
    split
    · rw [Ta.puts_e]
      unfold Ta.piece
      rw [List.length_take]; omega
    · omega
  · rw [Ta.step6]; show t.e ≤ _; omega
  · rw [Ta.step7]; rw [Ta.puts_e, List.length_replicate]; omega
  · rw [Ta.step8]
    show off.toNat ≤ _
    omega
  · rw [Ta.step10]; show t.e ≤ _; omega

set_option maxHeartbeats 12800000 in
theorem lawRingStep (data : List UInt8) (oa : Option Addr) (n c : Nat) (bg en ix : Int) (op : Ri.ROp) (cs : List Value) (ev0 ev1 : Value) (w : World) (hs : Src w 1 (.slice oa n c) n (u8s data)) (hc : n ≤ c) (hop : ROpV w op cs) (hE : Errs w [] ev0 ev1) :
    Calls Tryd.prog 3 #[.agg #[.slice oa n c, .int .i64 bg, .int .i64 en, .int .i64 ix], .agg cs.toArray] w fun e w' => e = .returned (.bool true) ∧ Chg [] w w' := by
  have S := St.begin w
  have hop2 := hop
  obtain ⟨oo, no, co, rfl, ho, hco⟩ := hop
  replace hs := hidden hs
  replace ho := hidden ho
  replace hE := hidden hE
  replace hop2 := hidden hop2
  refine Calls.cps ?_; intro R hR
  go_enter Tryd.func3, Tryd.ntmps3
  go_upto_region 1 with (first | (refine wpList_box S ?_; (clear S; intro nb wb hnb S)) | go_big_skip | go_big_skip | (refine wpList_ld S ?_) | (refine wpList_ld8 S ?_) | (refine wpList_ld0 ?_) | (refine wpList_ldA S ?_) | (refine wpList_st8 S ?_; (clear S; intro ws S)) | (refine wpList_st S ?_; (clear S; intro ws S)) | (refine wpList_box S ?_; (clear S; intro nb wb hnb S)) | (refine wpList_alloc S ?_; (clear S; intro nb wb hnb S)) | (refine wpList_mk8 S ?_; (clear S; intro nb wb hnb S)) | (refine wpList_mk S ?_; (clear S; intro nb wb hnb S)) | (refine wpList_bs S ?_; (clear S; intro nb wb hnb S)) | (refine wpList_stA S ?_; (clear S; intro ws S; simp only [splice, List.take_zero, List.take_succ_cons, List.drop_succ_cons, List.drop_zero, List.drop_nil, List.length_cons, List.length_nil, Nat.reduceAdd, Nat.zero_add, List.nil_append, List.cons_append, List.append_nil] at S)) | (refine wpList_b2sB S ?_) | (refine wpList_b2sR S ?_) | (refine wpList_ldc S ?_))
  go_wp2_with (first | go_big_skip | ((with_reducible show Code.wp _ (Code.region _ _ true) _ _ _); refine St.regionLast S ?_; (repeat (first | (go_big_quiet_step (fail)) | (go_big_quiet_want; (first | refine quiet_ld S ?_ | refine quiet_ld8 S ?_ | refine quiet_ld0 ?_ | refine quiet_ldA S ?_ | refine quiet_b2sB S ?_ | refine quiet_b2sR S ?_ | refine quiet_ldc S ?_); go_big_quiet_on))); refine wpQuiet_nil ?_; clear S; intro wq S) | go_big_skip | (refine wpList_ld S ?_) | (refine wpList_ld8 S ?_) | (refine wpList_ld0 ?_) | (refine wpList_ldA S ?_) | (refine wpList_st8 S ?_; (clear S; intro ws S)) | (refine wpList_st S ?_; (clear S; intro ws S)) | (refine wpList_box S ?_; (clear S; intro nb wb hnb S)) | (refine wpList_alloc S ?_; (clear S; intro nb wb hnb S)) | (refine wpList_mk8 S ?_; (clear S; intro nb wb hnb S)) | (refine wpList_mk S ?_; (clear S; intro nb wb hnb S)) | (refine wpList_bs S ?_; (clear S; intro nb wb hnb S)) | (refine wpList_stA S ?_; (clear S; intro ws S; simp only [splice, List.take_zero, List.take_succ_cons, List.drop_succ_cons, List.drop_zero, List.drop_nil, List.length_cons, List.length_nil, Nat.reduceAdd, Nat.zero_add, List.nil_append, List.cons_append, List.append_nil] at S)) | (refine wpList_b2sB S ?_) | (refine wpList_b2sR S ?_) | (refine wpList_ldc S ?_))
  refine Calls.mono (fits10 data oa n c bg en ix _ (hs.out.on S.chg)) ?_
  rintro e w2 ⟨b, rfl, hb, C⟩
  have S2 := S.call C; clear S C; simp only [List.cons_append, List.nil_append] at S2; have S := S2; clear S2
  cases b with
  | false =>
    go_wp2_with (first | go_big_skip | ((with_reducible show Code.wp _ (Code.region _ _ true) _ _ _); refine St.regionLast S ?_; (repeat (first | (go_big_quiet_step (fail)) | (go_big_quiet_want; (first | refine quiet_ld S ?_ | refine quiet_ld8 S ?_ | refine quiet_ld0 ?_ | refine quiet_ldA S ?_ | refine quiet_b2sB S ?_ | refine quiet_b2sR S ?_ | refine quiet_ldc S ?_); go_big_quiet_on))); refine wpQuiet_nil ?_; clear S; intro wq S) | go_big_skip | (refine wpList_ld S ?_) | (refine wpList_ld8 S ?_) | (refine wpList_ld0 ?_) | (refine wpList_ldA S ?_) | (refine wpList_st8 S ?_; (clear S; intro ws S)) | (refine wpList_st S ?_; (clear S; intro ws S)) | (refine wpList_box S ?_; (clear S; intro nb wb hnb S)) | (refine wpList_alloc S ?_; (clear S; intro nb wb hnb S)) | (refine wpList_mk8 S ?_; (clear S; intro nb wb hnb S)) | (refine wpList_mk S ?_; (clear S; intro nb wb hnb S)) | (refine wpList_bs S ?_; (clear S; intro nb wb hnb S)) | (refine wpList_stA S ?_; (clear S; intro ws S; simp only [splice, List.take_zero, List.take_succ_cons, List.drop_succ_cons, List.drop_zero, List.drop_nil, List.length_cons, List.length_nil, Nat.reduceAdd, Nat.zero_add, List.nil_append, List.cons_append, List.append_nil] at S)) | (refine wpList_b2sB S ?_) | (refine wpList_b2sR S ?_) | (refine wpList_ldc S ?_))
    ((first | go_ret | go_ret2 | go_ret3 | go_end0 | skip); refine hR.out _ _ ?_)
    exact ⟨rfl, S.chg⟩
  | true =>
    have hn := hb rfl
    clear hb
    go_wp2_with (first | go_big_skip | ((with_reducible show Code.wp _ (Code.region _ _ true) _ _ _); refine St.regionLast S ?_; (repeat (first | (go_big_quiet_step (fail)) | (go_big_quiet_want; (first | refine quiet_ld S ?_ | refine quiet_ld8 S ?_ | refine quiet_ld0 ?_ | refine quiet_ldA S ?_ | refine quiet_b2sB S ?_ | refine quiet_b2sR S ?_ | refine quiet_ldc S ?_); go_big_quiet_on))); refine wpQuiet_nil ?_; clear S; intro wq S) | go_big_skip | (refine wpList_ld S ?_) | (refine wpList_ld8 S ?_) | (refine wpList_ld0 ?_) | (refine wpList_ldA S ?_) | (refine wpList_st8 S ?_; (clear S; intro ws S)) | (refine wpList_st S ?_; (clear S; intro ws S)) | (refine wpList_box S ?_; (clear S; intro nb wb hnb S)) | (refine wpList_alloc S ?_; (clear S; intro nb wb hnb S)) | (refine wpList_mk8 S ?_; (clear S; intro nb wb hnb S)) | (refine wpList_mk S ?_; (clear S; intro nb wb hnb S)) | (refine wpList_bs S ?_; (clear S; intro nb wb hnb S)) | (refine wpList_stA S ?_; (clear S; intro ws S; simp only [splice, List.take_zero, List.take_succ_cons, List.drop_succ_cons, List.drop_zero, List.drop_nil, List.length_cons, List.length_nil, Nat.reduceAdd, Nat.zero_add, List.nil_append, List.cons_append, List.append_nil] at S)) | (refine wpList_b2sB S ?_) | (refine wpList_b2sR S ?_) | (refine wpList_ldc S ?_))
    refine Calls.mono (fits9 op _ _ (hop2.out.on S.chg)) ?_
    rintro e w3 ⟨b, rfl, hb, C⟩
    have S2 := S.call C; clear S C; simp only [List.cons_append, List.nil_append] at S2; have S := S2; clear S2
    cases b with
    | false =>
      go_wp2_with (first | go_big_skip | ((with_reducible show Code.wp _ (Code.region _ _ true) _ _ _); refine St.regionLast S ?_; (repeat (first | (go_big_quiet_step (fail)) | (go_big_quiet_want; (first | refine quiet_ld S ?_ | refine quiet_ld8 S ?_ | refine quiet_ld0 ?_ | refine quiet_ldA S ?_ | refine quiet_b2sB S ?_ | refine quiet_b2sR S ?_ | refine quiet_ldc S ?_); go_big_quiet_on))); refine wpQuiet_nil ?_; clear S; intro wq S) | go_big_skip | (refine wpList_ld S ?_) | (refine wpList_ld8 S ?_) | (refine wpList_ld0 ?_) | (refine wpList_ldA S ?_) | (refine wpList_st8 S ?_; (clear S; intro ws S)) | (refine wpList_st S ?_; (clear S; intro ws S)) | (refine wpList_box S ?_; (clear S; intro nb wb hnb S)) | (refine wpList_alloc S ?_; (clear S; intro nb wb hnb S)) | (refine wpList_mk8 S ?_; (clear S; intro nb wb hnb S)) | (refine wpList_mk S ?_; (clear S; intro nb wb hnb S)) | (refine wpList_bs S ?_; (clear S; intro nb wb hnb S)) | (refine wpList_stA S ?_; (clear S; intro ws S; simp only [splice, List.take_zero, List.take_succ_cons, List.drop_succ_cons, List.drop_zero, List.drop_nil, List.length_cons, List.length_nil, Nat.reduceAdd, Nat.zero_add, List.nil_append, List.cons_append, List.append_nil] at S)) | (refine wpList_b2sB S ?_) | (refine wpList_b2sR S ?_) | (refine wpList_ldc S ?_))
      ((first | go_ret | go_ret2 | go_ret3 | go_end0 | skip); refine hR.out _ _ ?_)
      exact ⟨rfl, S.chg⟩
    | true =>
      have hno := hb rfl
      clear hb
      have hopl := ho.out.len8
      rw [hopl] at hno
      go_upto_region 3 with (first | go_big_skip | ((with_reducible show Code.wp _ (Code.region _ _ true) _ _ _); refine St.regionLast S ?_; (repeat (first | (go_big_quiet_step (fail)) | (go_big_quiet_want; (first | refine quiet_ld S ?_ | refine quiet_ld8 S ?_ | refine quiet_ld0 ?_ | refine quiet_ldA S ?_ | refine quiet_b2sB S ?_ | refine quiet_b2sR S ?_ | refine quiet_ldc S ?_); go_big_quiet_on))); refine wpQuiet_nil ?_; clear S; intro wq S) | go_big_skip | (refine wpList_ld S ?_) | (refine wpList_ld8 S ?_) | (refine wpList_ld0 ?_) | (refine wpList_ldA S ?_) | (refine wpList_st8 S ?_; (clear S; intro ws S)) | (refine wpList_st S ?_; (clear S; intro ws S)) | (refine wpList_box S ?_; (clear S; intro nb wb hnb S)) | (refine wpList_alloc S ?_; (clear S; intro nb wb hnb S)) | (refine wpList_mk8 S ?_; (clear S; intro nb wb hnb S)) | (refine wpList_mk S ?_; (clear S; intro nb wb hnb S)) | (refine wpList_bs S ?_; (clear S; intro nb wb hnb S)) | (refine wpList_stA S ?_; (clear S; intro ws S; simp only [splice, List.take_zero, List.take_succ_cons, List.drop_succ_cons, List.drop_zero, List.drop_nil, List.length_cons, List.length_nil, Nat.reduceAdd, Nat.zero_add, List.nil_append, List.cons_append, List.append_nil] at S)) | (refine wpList_b2sB S ?_) | (refine wpList_b2sR S ?_) | (refine wpList_ldc S ?_))
      rename_i bs wbs hbs kk1 kk2
      rename Nat => bx
      go_wp2_with (first | go_big_skip | ((with_reducible show Code.wp _ (Code.region _ _ true) _ _ _); refine St.regionLast S ?_; (repeat (first | (go_big_quiet_step (fail)) | (go_big_quiet_want; (first | refine quiet_ld S ?_ | refine quiet_ld8 S ?_ | refine quiet_ld0 ?_ | refine quiet_ldA S ?_ | refine quiet_b2sB S ?_ | refine quiet_b2sR S ?_ | refine quiet_ldc S ?_); go_big_quiet_on))); refine wpQuiet_nil ?_; clear S; intro wq S) | go_big_skip | (refine wpList_ld S ?_) | (refine wpList_ld8 S ?_) | (refine wpList_ld0 ?_) | (refine wpList_ldA S ?_) | (refine wpList_st8 S ?_; (clear S; intro ws S)) | (refine wpList_st S ?_; (clear S; intro ws S)) | (refine wpList_box S ?_; (clear S; intro nb wb hnb S)) | (refine wpList_alloc S ?_; (clear S; intro nb wb hnb S)) | (refine wpList_mk8 S ?_; (clear S; intro nb wb hnb S)) | (refine wpList_mk S ?_; (clear S; intro nb wb hnb S)) | (refine wpList_bs S ?_; (clear S; intro nb wb hnb S)) | (refine wpList_stA S ?_; (clear S; intro ws S; simp only [splice, List.take_zero, List.take_succ_cons, List.drop_succ_cons, List.drop_zero, List.drop_nil, List.length_cons, List.length_nil, Nat.reduceAdd, Nat.zero_add, List.nil_append, List.cons_append, List.append_nil] at S)) | (refine wpList_b2sB S ?_) | (refine wpList_b2sR S ?_) | (refine wpList_ldc S ?_))
      refine Calls.mono (lawRiState data oa n c bg en ix _ (hs.out.on S.chg) (by omega) hc) ?_
      rintro e w4 ⟨dvs, tp, rfl, vb, vk, C⟩
      have S2 := S.call C; clear S C; simp only [List.cons_append, List.nil_append] at S2; have S := S2; clear S2
      have hlow := hidden (of_low data bg en ix)
      have hB := hidden (Ta.of_beside (Ri.cut_has data bg en ix))
      have hrb : (Ri.cut data bg en ix).e ≤ 1073742124 ∧ (Ri.cut data bg en ix).data.length ≤ 300 ∧ 1 ≤ (Ri.cut data bg en ix).data.length := by
        obtain ⟨D, _, h1, h2, b, l, i, _, _, h3, h4, h5, _, _, h⟩ := Ri.cut_of data bg en ix
        rw [h]
        exact ⟨by show b + l ≤ _; omega, h2, h1⟩
      obtain ⟨hre, hrd, hrd1⟩ := hrb
      generalize Ta.of' (Ri.cut data bg en ix) = t at *
      generalize Ri.cut data bg en ix = r at *
      generalize r.win = W0 at hB
      obtain ⟨bd, cd, rfl, hcd⟩ := S.rowSome (by omega) (.tail (.tail (.tail .head)))
      clear hs
      go_wp2_with (first | go_big_skip | ((with_reducible show Code.wp _ (Code.region _ _ true) _ _ _); refine St.regionLast S ?_; (repeat (first | (go_big_quiet_step (fail)) | (go_big_quiet_want; (first | refine quiet_ld S ?_ | refine quiet_ld8 S ?_ | refine quiet_ld0 ?_ | refine quiet_ldA S ?_ | refine quiet_b2sB S ?_ | refine quiet_b2sR S ?_ | refine quiet_ldc S ?_); go_big_quiet_on))); refine wpQuiet_nil ?_; clear S; intro wq S) | go_big_skip | (refine wpList_ld S ?_) | (refine wpList_ld8 S ?_) | (refine wpList_ld0 ?_) | (refine wpList_ldA S ?_) | (refine wpList_st8 S ?_; (clear S; intro ws S)) | (refine wpList_st S ?_; (clear S; intro ws S)) | (refine wpList_box S ?_; (clear S; intro nb wb hnb S)) | (refine wpList_alloc S ?_; (clear S; intro nb wb hnb S)) | (refine wpList_mk8 S ?_; (clear S; intro nb wb hnb S)) | (refine wpList_mk S ?_; (clear S; intro nb wb hnb S)) | (refine wpList_bs S ?_; (clear S; intro nb wb hnb S)) | (refine wpList_stA S ?_; (clear S; intro ws S; simp only [splice, List.take_zero, List.take_succ_cons, List.drop_succ_cons, List.drop_zero, List.drop_nil, List.length_cons, List.length_nil, Nat.reduceAdd, Nat.zero_add, List.nil_append, List.cons_append, List.append_nil] at S)) | (refine wpList_b2sB S ?_) | (refine wpList_b2sR S ?_) | (refine wpList_ldc S ?_))
      refine Calls.mono (lawRiOp tp t vb vk op oo no co _ S.sel1 (Mild.low hlow.out (by omega)) hopl hco (by omega)) ?_
      rintro e w5 ⟨rfl, C⟩
      have S2 := S.call C; clear S C; simp only [List.cons_append, List.nil_append] at S2; have S := S2; clear S2
      have hkr : 0 ≤ (t.cut op).kind ∧ (t.cut op).kind ≤ 10 ∧ (t.cut op).kind ≠ 9 := Ta.kindOf_range op.kind
      have hcl := Ta.cut_len t op
      have hco2 := Ta.cut_off t op hlow.out.fine
      have hnear := hidden (Ta.cut_near t op hlow.out.fine)
      have hs2 := ho.out.firsts (min no 300) co (by omega)
      have hd2 : op.data.take (min no 300) = (t.cut op).data := by
        show _ = op.data.take 300
        rcases Nat.le_total no 300 with h3 | h3
        · rw [Nat.min_eq_left h3, List.take_of_length_le (by omega), List.take_of_length_le (by omega)]
        · rw [Nat.min_eq_right h3]
      rw [hd2] at hs2
      have hmc : min no 300 ≤ co := by omega
      have hte := hlow.out.e
      generalize min no 300 = m at *
      generalize t.cut op = op2 at *
      replace hs2 := hidden hs2
      clear hd2
      go_wp2_with (first | go_big_skip | ((with_reducible show Code.wp _ (Code.region _ _ true) _ _ _); refine St.regionLast S ?_; (repeat (first | (go_big_quiet_step (fail)) | (go_big_quiet_want; (first | refine quiet_ld S ?_ | refine quiet_ld8 S ?_ | refine quiet_ld0 ?_ | refine quiet_ldA S ?_ | refine quiet_b2sB S ?_ | refine quiet_b2sR S ?_ | refine quiet_ldc S ?_); go_big_quiet_on))); refine wpQuiet_nil ?_; clear S; intro wq S) | go_big_skip | (refine wpList_ld S ?_) | (refine wpList_ld8 S ?_) | (refine wpList_ld0 ?_) | (refine wpList_ldA S ?_) | (refine wpList_st8 S ?_; (clear S; intro ws S)) | (refine wpList_st S ?_; (clear S; intro ws S)) | (refine wpList_box S ?_; (clear S; intro nb wb hnb S)) | (refine wpList_alloc S ?_; (clear S; intro nb wb hnb S)) | (refine wpList_mk8 S ?_; (clear S; intro nb wb hnb S)) | (refine wpList_mk S ?_; (clear S; intro nb wb hnb S)) | (refine wpList_bs S ?_; (clear S; intro nb wb hnb S)) | (refine wpList_stA S ?_; (clear S; intro ws S; simp only [splice, List.take_zero, List.take_succ_cons, List.drop_succ_cons, List.drop_zero, List.drop_nil, List.length_cons, List.length_nil, Nat.reduceAdd, Nat.zero_add, List.nil_append, List.cons_append, List.append_nil] at S)) | (refine wpList_b2sB S ?_) | (refine wpList_b2sR S ?_) | (refine wpList_ldc S ?_))
      refine Calls.mono (tapeFits tp t vb vk op2 (.slice none 0 0) oo m co _ S.sel1 (Mild.low hlow.out (by omega)) ⟨hkr.1, hkr.2.1⟩ (by omega) (by omega)) ?_
      rintro e w6 ⟨rfl, C⟩
      have S2 := S.call C; clear S C; simp only [List.cons_append, List.nil_append] at S2; have S := S2; clear S2
      clear hkr hcl hco2
      go_upto_if 32 with (first | go_big_skip | ((with_reducible show Code.wp _ (Code.region _ _ true) _ _ _); refine St.regionLast S ?_; (repeat (first | (go_big_quiet_step (fail)) | (go_big_quiet_want; (first | refine quiet_ld S ?_ | refine quiet_ld8 S ?_ | refine quiet_ld0 ?_ | refine quiet_ldA S ?_ | refine quiet_b2sB S ?_ | refine quiet_b2sR S ?_ | refine quiet_ldc S ?_); go_big_quiet_on))); refine wpQuiet_nil ?_; clear S; intro wq S) | go_big_skip | (refine wpList_ld S ?_) | (refine wpList_ld8 S ?_) | (refine wpList_ld0 ?_) | (refine wpList_ldA S ?_) | (refine wpList_st8 S ?_; (clear S; intro ws S)) | (refine wpList_st S ?_; (clear S; intro ws S)) | (refine wpList_box S ?_; (clear S; intro nb wb hnb S)) | (refine wpList_alloc S ?_; (clear S; intro nb wb hnb S)) | (refine wpList_mk8 S ?_; (clear S; intro nb wb hnb S)) | (refine wpList_mk S ?_; (clear S; intro nb wb hnb S)) | (refine wpList_bs S ?_; (clear S; intro nb wb hnb S)) | (refine wpList_stA S ?_; (clear S; intro ws S; simp only [splice, List.take_zero, List.take_succ_cons, List.drop_succ_cons, List.drop_zero, List.drop_nil, List.length_cons, List.length_nil, Nat.reduceAdd, Nat.zero_add, List.nil_append, List.cons_append, List.append_nil] at S)) | (refine wpList_b2sB S ?_) | (refine wpList_b2sR S ?_) | (refine wpList_ldc S ?_))
      go_cut [] (fun w' => ∃ (op3 : Ri.ROp) (o3 : Option Addr) (n3 c3 : Nat), Hid (t.Near op3) ∧ Hid (Src w 1 (.slice o3 n3 c3) n3 (u8s op3.data)) ∧ n3 ≤ c3 ∧ St w [] w' [tHead tp t.size t.b t.e t.o vb vk, .row 5 1 vb t.bytes.length (u8s t.bytes), .row 4 1 vk t.known.length (bls t.known), .row 5 1 (.slice (some ⟨bd, 0, none⟩) r.data.length cd) r.data.length (u8s r.data),
        .blk bx (.cells [.int .i64 op3.kind, .slice o3 n3 c3, .int .i64 op3.off, .int .i64 op3.len].toArray 26 (0, 0)), .blk bs (.cells [.slice (some ⟨bd, 0, none⟩) r.data.length cd, .int .i64 r.b, .int .i64 r.e, .int .i64 r.ix].toArray 24 (0, 0))])
      case first =>
        cases hft : t.fits op2 with
        | false =>
          go_wp2_with (first | go_big_skip | ((with_reducible show Code.wp _ (Code.region _ _ true) _ _ _); refine St.regionLast S ?_; (repeat (first | (go_big_quiet_step (fail)) | (go_big_quiet_want; (first | refine quiet_ld S ?_ | refine quiet_ld8 S ?_ | refine quiet_ld0 ?_ | refine quiet_ldA S ?_ | refine quiet_b2sB S ?_ | refine quiet_b2sR S ?_ | refine quiet_ldc S ?_); go_big_quiet_on))); refine wpQuiet_nil ?_; clear S; intro wq S) | go_big_skip | (refine wpList_ld S ?_) | (refine wpList_ld8 S ?_) | (refine wpList_ld0 ?_) | (refine wpList_ldA S ?_) | (refine wpList_st8 S ?_; (clear S; intro ws S)) | (refine wpList_st S ?_; (clear S; intro ws S)) | (refine wpList_box S ?_; (clear S; intro nb wb hnb S)) | (refine wpList_alloc S ?_; (clear S; intro nb wb hnb S)) | (refine wpList_mk8 S ?_; (clear S; intro nb wb hnb S)) | (refine wpList_mk S ?_; (clear S; intro nb wb hnb S)) | (refine wpList_bs S ?_; (clear S; intro nb wb hnb S)) | (refine wpList_stA S ?_; (clear S; intro ws S; simp only [splice, List.take_zero, List.take_succ_cons, List.drop_succ_cons, List.drop_zero, List.drop_nil, List.length_cons, List.length_nil, Nat.reduceAdd, Nat.zero_add, List.nil_append, List.cons_append, List.append_nil] at S)) | (refine wpList_b2sB S ?_) | (refine wpList_b2sR S ?_) | (refine wpList_ldc S ?_))
          go_meet
          exact ⟨⟨10, [], 0, 0⟩, none, 0, 0, hidden (Ta.near_ten t), hidden (Src.nil w 1 0), Nat.le_refl _, S.sel (by repeat (first | exact Sel.nil | (apply Sel.cons; (repeat (first | exact Pull.head | apply Pull.tail)))))⟩
        | true =>
          go_wp2_with (first | go_big_skip | ((with_reducible show Code.wp _ (Code.region _ _ true) _ _ _); refine St.regionLast S ?_; (repeat (first | (go_big_quiet_step (fail)) | (go_big_quiet_want; (first | refine quiet_ld S ?_ | refine quiet_ld8 S ?_ | refine quiet_ld0 ?_ | refine quiet_ldA S ?_ | refine quiet_b2sB S ?_ | refine quiet_b2sR S ?_ | refine quiet_ldc S ?_); go_big_quiet_on))); refine wpQuiet_nil ?_; clear S; intro wq S) | go_big_skip | (refine wpList_ld S ?_) | (refine wpList_ld8 S ?_) | (refine wpList_ld0 ?_) | (refine wpList_ldA S ?_) | (refine wpList_st8 S ?_; (clear S; intro ws S)) | (refine wpList_st S ?_; (clear S; intro ws S)) | (refine wpList_box S ?_; (clear S; intro nb wb hnb S)) | (refine wpList_alloc S ?_; (clear S; intro nb wb hnb S)) | (refine wpList_mk8 S ?_; (clear S; intro nb wb hnb S)) | (refine wpList_mk S ?_; (clear S; intro nb wb hnb S)) | (refine wpList_bs S ?_; (clear S; intro nb wb hnb S)) | (refine wpList_stA S ?_; (clear S; intro ws S; simp only [splice, List.take_zero, List.take_succ_cons, List.drop_succ_cons, List.drop_zero, List.drop_nil, List.length_cons, List.length_nil, Nat.reduceAdd, Nat.zero_add, List.nil_append, List.cons_append, List.append_nil] at S)) | (refine wpList_b2sB S ?_) | (refine wpList_b2sR S ?_) | (refine wpList_ldc S ?_))
          go_meet
          exact ⟨op2, oo, m, co, hidden (hnear.out hft), hs2, hmc, S.sel (by repeat (first | exact Sel.nil | (apply Sel.cons; (repeat (first | exact Pull.head | apply Pull.tail)))))⟩
      case rest =>
      clear S hnear hs2 hmc ho hop2
      obtain ⟨op3, o3, n3, c3, hnr, hs3, hc3, S⟩ := hcut
      have hn3 : n3 ≤ 300 := by have h1 := hs3.out.len8; have h2 := hnr.out.data; omega
      go_upto_region 7 with fail
      go_wp2_with (first | go_big_skip | ((with_reducible show Code.wp _ (Code.region _ _ true) _ _ _); refine St.regionLast S ?_; (repeat (first | (go_big_quiet_step (fail)) | (go_big_quiet_want; (first | refine quiet_ld S ?_ | refine quiet_ld8 S ?_ | refine quiet_ld0 ?_ | refine quiet_ldA S ?_ | refine quiet_b2sB S ?_ | refine quiet_b2sR S ?_ | refine quiet_ldc S ?_); go_big_quiet_on))); refine wpQuiet_nil ?_; clear S; intro wq S) | go_big_skip | (refine wpList_ld S ?_) | (refine wpList_ld8 S ?_) | (refine wpList_ld0 ?_) | (refine wpList_ldA S ?_) | (refine wpList_st8 S ?_; (clear S; intro ws S)) | (refine wpList_st S ?_; (clear S; intro ws S)) | (refine wpList_box S ?_; (clear S; intro nb wb hnb S)) | (refine wpList_alloc S ?_; (clear S; intro nb wb hnb S)) | (refine wpList_mk8 S ?_; (clear S; intro nb wb hnb S)) | (refine wpList_mk S ?_; (clear S; intro nb wb hnb S)) | (refine wpList_bs S ?_; (clear S; intro nb wb hnb S)) | (refine wpList_stA S ?_; (clear S; intro ws S; simp only [splice, List.take_zero, List.take_succ_cons, List.drop_succ_cons, List.drop_zero, List.drop_nil, List.length_cons, List.length_nil, Nat.reduceAdd, Nat.zero_add, List.nil_append, List.cons_append, List.append_nil] at S)) | (refine wpList_b2sB S ?_) | (refine wpList_b2sR S ?_) | (refine wpList_ldc S ?_))
      have hT : TapeSt w [] _ tp t (.row 5 1 (.slice (some ⟨bd, 0, none⟩) r.data.length cd) r.data.length (u8s r.data) :: .blk bx (.cells [.int .i64 op3.kind, .slice o3 n3 c3, .int .i64 op3.off, .int .i64 op3.len].toArray 26 (0, 0)) :: .blk bs (.cells [.slice (some ⟨bd, 0, none⟩) r.data.length cd, .int .i64 r.b, .int .i64 r.e, .int .i64 r.ix].toArray 24 (0, 0)) :: []) := ⟨vb, vk, S⟩
      refine Calls.mono (tapeDoNear tp t op3 n3 c3 o3 _ w [] _ hT hlow.out (by omega) (Seen.of hs3.out) hnr.out) ?_
      rintro e w7 ⟨dv, kv, rfl, vb2, vk2, S2⟩
      clear S hT
      have S := S2
      clear S2
      obtain ⟨⟨W2, hB2⟩, hsay⟩ := Ta.step_beside hB.out hnr.out.apt
      have hlow2 := Ta.step_low hlow.out hnr.out
      have hte2 : (t.step op3).1.e ≤ 1073742429 := by have h1 := step_e hlow.out hnr.out; have h2 := hB.out.e; omega
      have hlegal := hidden (Ta.legal_of hB.out hlow.out (by omega) hnr.out)
      have hrok := hidden (rok_near hlow.out (by omega) hnr.out)
      have hsm : (t.step op3).2.want.data.length ≤ 300 := by have h1 := Ta.step_small t op3; have h2 := hnr.out.len; omega
      have hkn := Ta.step_known hlow.out.fine op3 hnr.out.apt
      generalize t.step op3 = st at *
      obtain ⟨t2, an⟩ := st
      simp only at *
      obtain ⟨a5, c5, rfl, hc5, hc6⟩ := S.rowSlice (hp := .tail (.tail (.tail .head)))
      obtain ⟨a7, c7, rfl, hc7, hc8⟩ := S.rowSlice (hp := .tail (.tail (.tail (.tail .head))))
      replace hte2 := hidden hte2
      replace hB2 := hidden hB2
      replace hlow2 := hidden hlow2
      replace hsay := hidden hsay
      replace hkn := hidden hkn
      go_wp2_with (first | go_big_skip | ((with_reducible show Code.wp _ (Code.region _ _ true) _ _ _); refine St.regionLast S ?_; (repeat (first | (go_big_quiet_step (fail)) | (go_big_quiet_want; (first | refine quiet_ld S ?_ | refine quiet_ld8 S ?_ | refine quiet_ld0 ?_ | refine quiet_ldA S ?_ | refine quiet_b2sB S ?_ | refine quiet_b2sR S ?_ | refine quiet_ldc S ?_); go_big_quiet_on))); refine wpQuiet_nil ?_; clear S; intro wq S) | go_big_skip | (refine wpList_ld S ?_) | (refine wpList_ld8 S ?_) | (refine wpList_ld0 ?_) | (refine wpList_ldA S ?_) | (refine wpList_st8 S ?_; (clear S; intro ws S)) | (refine wpList_st S ?_; (clear S; intro ws S)) | (refine wpList_box S ?_; (clear S; intro nb wb hnb S)) | (refine wpList_alloc S ?_; (clear S; intro nb wb hnb S)) | (refine wpList_mk8 S ?_; (clear S; intro nb wb hnb S)) | (refine wpList_mk S ?_; (clear S; intro nb wb hnb S)) | (refine wpList_bs S ?_; (clear S; intro nb wb hnb S)) | (refine wpList_stA S ?_; (clear S; intro ws S; simp only [splice, List.take_zero, List.take_succ_cons, List.drop_succ_cons, List.drop_zero, List.drop_nil, List.length_cons, List.length_nil, Nat.reduceAdd, Nat.zero_add, List.nil_append, List.cons_append, List.append_nil] at S)) | (refine wpList_b2sB S ?_) | (refine wpList_b2sR S ?_) | (refine wpList_ldc S ?_))
      rename Nat => bw
      refine Calls.mono (ringStep r op3 (some ⟨bd, 0, none⟩) o3 cd n3 c3 ev0 ev1 _ hlegal.out hrok.out (by omega) (by omega) S.rowSrc (hs3.out.on S.chg) hc3 (by omega) (hE.out.call S (bs' := []))) ?_
      rintro e w8 ⟨m2, sl2, dv2, rfl, C⟩
      have S2 := S.call C; clear S C; simp only [List.cons_append, List.nil_append] at S2; have S := S2; clear S2
      generalize r.step op3 = sr at *
      obtain ⟨r2, a2⟩ := sr
      simp only at *
      obtain ⟨a9, c9, rfl, hc9, hc10⟩ := S.rowSlice (hp := .tail .head)
      have hbe2 := hidden hB2.out.b
      have hee2 := hidden hB2.out.e
      have hsz2 := hidden (show t2.size = r2.data.length from hB2.out.size)
      have hal : a2.data.length ≤ 300 := by have := Ta.says_length hsay.out; omega
      have hbb1 : ((r2.b : Int) != (t2.b : Int)) = false := by rw [hbe2.out]; simp
      have hbb2 : ((r2.e : Int) != (t2.e : Int)) = false := by rw [hee2.out]; simp
      have hbb3 : ((r2.data.length : Int) != (t2.size : Int)) = false := by rw [hsz2.out]; simp
      have hle2 := hidden hlow2.out.e
      have hlb2 := hlow2.out.fine.be
      have hls2 := hlow2.out.size
      have hls3 := hlow2.out.fine.fit
      go_upto_region 9 with (first | (refine wpList_alloc (ty := 24) S ?_; (clear S; intro bn wn hbn S)) | (refine wpList_alloc (ty := 34) S ?_; (clear S; intro bo wo hbo S)) | go_big_skip | ((with_reducible show Code.wp _ (Code.region _ _ true) _ _ _); refine St.regionLast S ?_; (repeat (first | (go_big_quiet_step (fail)) | (go_big_quiet_want; (first | refine quiet_ld S ?_ | refine quiet_ld8 S ?_ | refine quiet_ld0 ?_ | refine quiet_ldA S ?_ | refine quiet_b2sB S ?_ | refine quiet_b2sR S ?_ | refine quiet_ldc S ?_); go_big_quiet_on))); refine wpQuiet_nil ?_; clear S; intro wq S) | go_big_skip | (refine wpList_ld S ?_) | (refine wpList_ld8 S ?_) | (refine wpList_ld0 ?_) | (refine wpList_ldA S ?_) | (refine wpList_st8 S ?_; (clear S; intro ws S)) | (refine wpList_st S ?_; (clear S; intro ws S)) | (refine wpList_box S ?_; (clear S; intro nb wb hnb S)) | (refine wpList_alloc S ?_; (clear S; intro nb wb hnb S)) | (refine wpList_mk8 S ?_; (clear S; intro nb wb hnb S)) | (refine wpList_mk S ?_; (clear S; intro nb wb hnb S)) | (refine wpList_bs S ?_; (clear S; intro nb wb hnb S)) | (refine wpList_stA S ?_; (clear S; intro ws S; simp only [splice, List.take_zero, List.take_succ_cons, List.drop_succ_cons, List.drop_zero, List.drop_nil, List.length_cons, List.length_nil, Nat.reduceAdd, Nat.zero_add, List.nil_append, List.cons_append, List.append_nil] at S)) | (refine wpList_b2sB S ?_) | (refine wpList_b2sR S ?_) | (refine wpList_ldc S ?_))
      have hcall : ∀ w', St w [] w' [.row 5 1 (.slice a5 an.want.data.length c5) an.want.data.length (u8s an.want.data), .row 4 1 (.slice a7 an.known.length c7) an.known.length (bls an.known), .row 5 1 (.slice a9 a2.data.length c9) a2.data.length (u8s a2.data)] →
          Calls Tryd.prog 16 #[.agg #[.int .i64 an.want.fault, .int .i64 an.want.n, .int .i64 an.want.m, .int .i64 an.want.len, .slice a5 an.want.data.length c5, .bool an.want.is, .slice a7 an.known.length c7, .bool an.open'], .agg #[.int .i64 a2.fault, .int .i64 a2.n, .int .i64 a2.m, .int .i64 a2.len, .slice a9 a2.data.length c9, .bool a2.is]] w' fun e' w'' => e' = .returned (.bool true) ∧ St w' [] w'' [] := fun w' S' => by
        have h := specSays an a2 a9 a5 a7 a2.data.length c9 c5 c7 an.want.data.length an.known.length w' (S'.rowSrc (hp := .tail (.tail .head))) (S'.rowSrc (hp := .head)) (Src.row (S'.mem.2 _ (.tail _ (.head _))) (bls_one _)) (by
          rcases hkn.out with h | h
          · left; rw [h]; rfl
          · right; exact h) (by omega) (by omega)
        rw [hsay.out] at h
        exact h
      replace hcall := hidden hcall
      refine St.regionG S 32 [([0, 1], 2)] [3, 4, 5, 6, 7, 8, 9, 10, 11, 12, 13, 14, 15, 16, 17, 18, 19, 20, 21, 22, 23, 24, 25, 26, 27, 28, 29, 30, 31] ?_
      clear S; intro wr S; simp only [walkSt, pick, List.getElem?_cons_succ, List.getElem?_cons_zero, List.drop_succ_cons, List.drop_zero]; (repeat (first | (go_big_quiet_step (fail)) | (go_big_quiet_want; (first | refine quiet_ld S ?_ | refine quiet_ld8 S ?_ | refine quiet_ld0 ?_ | refine quiet_ldA S ?_ | refine quiet_b2sB S ?_ | refine quiet_b2sR S ?_ | refine quiet_ldc S ?_); go_big_quiet_on))); refine wpQuiet_nil ?_
      go_wp2_with fail
      refine Calls.mono (hcall.out _ (S.sel (by repeat (first | exact Sel.nil | (apply Sel.cons; (repeat (first | exact Pull.head | apply Pull.tail))))))) ?_
      rintro e w10 ⟨rfl, C⟩
      have S2 := S.same C.chg
      clear S C
      have S := S2
      clear S2
      go_wp2_with fail
      refine ⟨_, S, (by repeat (first | exact Sel.nil | (apply Sel.cons; (repeat (first | exact Pull.head | apply Pull.tail))))), ?_⟩; (repeat (first | (go_big_quiet_step (fail)) | (go_big_quiet_want; (first | refine quiet_ld S ?_ | refine quiet_ld8 S ?_ | refine quiet_ld0 ?_ | refine quiet_ldA S ?_ | refine quiet_b2sB S ?_ | refine quiet_b2sR S ?_ | refine quiet_ldc S ?_); go_big_quiet_on))); refine wpQuiet_nil ?_
      go_upto_region 11 with (first | go_big_skip | ((with_reducible show Code.wp _ (Code.region _ _ true) _ _ _); refine St.regionLast S ?_; (repeat (first | (go_big_quiet_step (fail)) | (go_big_quiet_want; (first | refine quiet_ld S ?_ | refine quiet_ld8 S ?_ | refine quiet_ld0 ?_ | refine quiet_ldA S ?_ | refine quiet_b2sB S ?_ | refine quiet_b2sR S ?_ | refine quiet_ldc S ?_); go_big_quiet_on))); refine wpQuiet_nil ?_; clear S; intro wq S) | go_big_skip | (refine wpList_ld S ?_) | (refine wpList_ld8 S ?_) | (refine wpList_ld0 ?_) | (refine wpList_ldA S ?_) | (refine wpList_st8 S ?_; (clear S; intro ws S)) | (refine wpList_st S ?_; (clear S; intro ws S)) | (refine wpList_box S ?_; (clear S; intro nb wb hnb S)) | (refine wpList_alloc S ?_; (clear S; intro nb wb hnb S)) | (refine wpList_mk8 S ?_; (clear S; intro nb wb hnb S)) | (refine wpList_mk S ?_; (clear S; intro nb wb hnb S)) | (refine wpList_bs S ?_; (clear S; intro nb wb hnb S)) | (refine wpList_stA S ?_; (clear S; intro ws S; simp only [splice, List.take_zero, List.take_succ_cons, List.drop_succ_cons, List.drop_zero, List.drop_nil, List.length_cons, List.length_nil, Nat.reduceAdd, Nat.zero_add, List.nil_append, List.cons_append, List.append_nil] at S)) | (refine wpList_b2sB S ?_) | (refine wpList_b2sR S ?_) | (refine wpList_ldc S ?_))
      clear hcall hbb1 hbb2 hbb3 hal hkn hsay hc5 hc6 hc7 hc8 hc9 hc10
      have hte3 := hte2.out
      refine St.regionG S 15 [([0, 1, 2, 3, 4, 5, 6, 7, 8, 9, 10, 11, 12, 13], 14)] [] ?_
      clear S; intro wr S; simp only [walkSt, pick, List.getElem?_cons_succ, List.getElem?_cons_zero, List.drop_succ_cons, List.drop_zero]; (repeat (first | (go_big_quiet_step (fail)) | (go_big_quiet_want; (first | refine quiet_ld S ?_ | refine quiet_ld8 S ?_ | refine quiet_ld0 ?_ | refine quiet_ldA S ?_ | refine quiet_b2sB S ?_ | refine quiet_b2sR S ?_ | refine quiet_ldc S ?_); go_big_quiet_on))); refine wpQuiet_nil ?_
      refine wpList_alloc S ?_; (clear S; intro bl wl hbl S)
      refine ⟨_, S, (by repeat (first | exact Sel.nil | (apply Sel.cons; (repeat (first | exact Pull.head | apply Pull.tail))))), ?_⟩; (repeat (first | (go_big_quiet_step (fail)) | (go_big_quiet_want; (first | refine quiet_ld S ?_ | refine quiet_ld8 S ?_ | refine quiet_ld0 ?_ | refine quiet_ldA S ?_ | refine quiet_b2sB S ?_ | refine quiet_b2sR S ?_ | refine quiet_ldc S ?_); go_big_quiet_on))); refine wpQuiet_nil ?_
      go_wp2_with (first | go_big_skip | ((with_reducible show Code.wp _ (Code.region _ _ true) _ _ _); refine St.regionLast S ?_; (repeat (first | (go_big_quiet_step (fail)) | (go_big_quiet_want; (first | refine quiet_ld S ?_ | refine quiet_ld8 S ?_ | refine quiet_ld0 ?_ | refine quiet_ldA S ?_ | refine quiet_b2sB S ?_ | refine quiet_b2sR S ?_ | refine quiet_ldc S ?_); go_big_quiet_on))); refine wpQuiet_nil ?_; clear S; intro wq S) | go_big_skip | (refine wpList_ld S ?_) | (refine wpList_ld8 S ?_) | (refine wpList_ld0 ?_) | (refine wpList_ldA S ?_) | (refine wpList_st8 S ?_; (clear S; intro ws S)) | (refine wpList_st S ?_; (clear S; intro ws S)) | (refine wpList_box S ?_; (clear S; intro nb wb hnb S)) | (refine wpList_alloc S ?_; (clear S; intro nb wb hnb S)) | (refine wpList_mk8 S ?_; (clear S; intro nb wb hnb S)) | (refine wpList_mk S ?_; (clear S; intro nb wb hnb S)) | (refine wpList_bs S ?_; (clear S; intro nb wb hnb S)) | (refine wpList_stA S ?_; (clear S; intro ws S; simp only [splice, List.take_zero, List.take_succ_cons, List.drop_succ_cons, List.drop_zero, List.drop_nil, List.length_cons, List.length_nil, Nat.reduceAdd, Nat.zero_add, List.nil_append, List.cons_append, List.append_nil] at S)) | (refine wpList_b2sB S ?_) | (refine wpList_b2sR S ?_) | (refine wpList_ldc S ?_))
      have hT : TapeSt w [] _ tp t2 (.blk bl (.cells [.int .i64 1, .slice none 0 0, .int .i64 t2.b, .int .i64 ((t2.e : Int) - t2.b)].toArray 26 (0, 0)) :: .blk bn (.cells [.slice (some ⟨m2, 0, none⟩) r2.data.length (r2.data.length + sl2.length), .int .i64 r2.b, .int .i64 r2.e, .int .i64 r2.ix].toArray 24 (0, 0)) :: rBlk m2 r2.data sl2 :: []) := ⟨vb2, vk2, (S.selT (by repeat (first | (apply SelT.nil; (repeat (first | exact Suf.refl | apply Suf.cons)); done) | (apply SelT.cons; (repeat (first | exact Pull.head | apply Pull.tail))))))⟩
      refine Calls.mono (tapeDoNear tp t2 ⟨1, [], t2.b, (t2.e : Int) - t2.b⟩ 0 0 none _ w [] _ hT hlow2.out (by omega) (Seen.of (Src.nil w 1 0)) (Ta.near_all t2 hlow2.out)) ?_
      rintro e w11 ⟨dv, kv, rfl, vb3, vk3, S2⟩
      clear S hT
      have S := S2
      clear S2
      obtain ⟨hB3, hsay3⟩ := Ta.step_beside hB2.out (Ta.near_all t2 hlow2.out).apt
      have hlegal3 := hidden (Ta.legal_of hB2.out hlow2.out (by omega) (Ta.near_all t2 hlow2.out))
      have hrok3 := hidden (rok_near hlow2.out (by omega) (Ta.near_all t2 hlow2.out))
      have hkn3 := hidden (Ta.step_known hlow2.out.fine _ (Ta.near_all t2 hlow2.out).apt)
      have hsm3 : (t2.step ⟨1, [], t2.b, (t2.e : Int) - t2.b⟩).2.want.data.length ≤ 300 := by
        have h1 := Ta.step_small t2 ⟨1, [], t2.b, (t2.e : Int) - t2.b⟩
        have h2 := (Ta.near_all t2 hlow2.out).len
        simp only at h1 h2
        omega
      have hal3 : (r2.step ⟨1, [], t2.b, (t2.e : Int) - t2.b⟩).2.data.length ≤ 300 := by have := Ta.says_length hsay3; omega
      have hre2 : r2.e ≤ 1073742429 := by have := hee2.out; omega
      have hrd2 : r2.data.length ≤ 300 := by have := hsz2.out; omega
      replace hsay3 := hidden hsay3
      replace hkn3 := hkn3
      clear hB3
      generalize t2.step ⟨1, [], t2.b, (t2.e : Int) - t2.b⟩ = st3 at *
      obtain ⟨t3, a3⟩ := st3
      simp only at *
      obtain ⟨b5, d5, rfl, hd5, hd6⟩ := S.rowSlice (hp := .tail (.tail (.tail .head)))
      obtain ⟨b7, d7, rfl, hd7, hd8⟩ := S.rowSlice (hp := .tail (.tail (.tail (.tail .head))))
      clear hd5 hd6 hd7 hd8
      go_wp2_with (first | go_big_skip | (refine wpList_alloc (ty := 37) S ?_; (clear S; intro bw2 ww2 hbw2 S)) | ((with_reducible show Code.wp _ (Code.region _ _ true) _ _ _); refine St.regionLast S ?_; (repeat (first | (go_big_quiet_step (fail)) | (go_big_quiet_want; (first | refine quiet_ld S ?_ | refine quiet_ld8 S ?_ | refine quiet_ld0 ?_ | refine quiet_ldA S ?_ | refine quiet_b2sB S ?_ | refine quiet_b2sR S ?_ | refine quiet_ldc S ?_); go_big_quiet_on))); refine wpQuiet_nil ?_; clear S; intro wq S) | go_big_skip | (refine wpList_ld S ?_) | (refine wpList_ld8 S ?_) | (refine wpList_ld0 ?_) | (refine wpList_ldA S ?_) | (refine wpList_st8 S ?_; (clear S; intro ws S)) | (refine wpList_st S ?_; (clear S; intro ws S)) | (refine wpList_box S ?_; (clear S; intro nb wb hnb S)) | (refine wpList_alloc S ?_; (clear S; intro nb wb hnb S)) | (refine wpList_mk8 S ?_; (clear S; intro nb wb hnb S)) | (refine wpList_mk S ?_; (clear S; intro nb wb hnb S)) | (refine wpList_bs S ?_; (clear S; intro nb wb hnb S)) | (refine wpList_stA S ?_; (clear S; intro ws S; simp only [splice, List.take_zero, List.take_succ_cons, List.drop_succ_cons, List.drop_zero, List.drop_nil, List.length_cons, List.length_nil, Nat.reduceAdd, Nat.zero_add, List.nil_append, List.cons_append, List.append_nil] at S)) | (refine wpList_b2sB S ?_) | (refine wpList_b2sR S ?_) | (refine wpList_ldc S ?_))
      have hsrc : Src ws 1 (.slice (some ⟨m2, 0, none⟩) r2.data.length (r2.data.length + sl2.length)) r2.data.length (u8s r2.data) := by
        have h := S.src8 (b := m2) (o := 0) (m := r2.data.length) (c := r2.data.length + sl2.length) (l := r2.data ++ sl2) (T := 5) (fr := (0, 0)) (by repeat (first | exact Pull.head | apply Pull.tail)) (by simp)
        rw [List.drop_zero, List.take_left] at h
        exact h
      refine Calls.mono (ringStep r2 ⟨1, [], t2.b, (t2.e : Int) - t2.b⟩ (some ⟨m2, 0, none⟩) none (r2.data.length + sl2.length) 0 0 ev0 ev1 _ hlegal3.out hrok3.out (by omega) (by omega) hsrc (Src.nil _ 1 0) (Nat.le_refl _) (by omega) (hE.out.call S (bs' := []))) ?_
      rintro e w12 ⟨m3, sl3, dv3, rfl, C⟩
      clear hsrc
      have S2 := S.call C; clear S C; simp only [List.cons_append, List.nil_append] at S2; have S := S2; clear S2
      generalize r2.step ⟨1, [], t2.b, (t2.e : Int) - t2.b⟩ = sr3 at *
      obtain ⟨r3, a4⟩ := sr3
      simp only at *
      obtain ⟨b9, d9, rfl, hd9, hd10⟩ := S.rowSlice (hp := .tail .head)
      clear hd9 hd10
      go_upto_region 14 with (first | (refine wpList_alloc (ty := 24) S ?_; (clear S; intro bn2 wn2 hbn2 S)) | (refine wpList_alloc (ty := 34) S ?_; (clear S; intro bo2 wo2 hbo2 S)) | go_big_skip | ((with_reducible show Code.wp _ (Code.region _ _ true) _ _ _); refine St.regionLast S ?_; (repeat (first | (go_big_quiet_step (fail)) | (go_big_quiet_want; (first | refine quiet_ld S ?_ | refine quiet_ld8 S ?_ | refine quiet_ld0 ?_ | refine quiet_ldA S ?_ | refine quiet_b2sB S ?_ | refine quiet_b2sR S ?_ | refine quiet_ldc S ?_); go_big_quiet_on))); refine wpQuiet_nil ?_; clear S; intro wq S) | go_big_skip | (refine wpList_ld S ?_) | (refine wpList_ld8 S ?_) | (refine wpList_ld0 ?_) | (refine wpList_ldA S ?_) | (refine wpList_st8 S ?_; (clear S; intro ws S)) | (refine wpList_st S ?_; (clear S; intro ws S)) | (refine wpList_box S ?_; (clear S; intro nb wb hnb S)) | (refine wpList_alloc S ?_; (clear S; intro nb wb hnb S)) | (refine wpList_mk8 S ?_; (clear S; intro nb wb hnb S)) | (refine wpList_mk S ?_; (clear S; intro nb wb hnb S)) | (refine wpList_bs S ?_; (clear S; intro nb wb hnb S)) | (refine wpList_stA S ?_; (clear S; intro ws S; simp only [splice, List.take_zero, List.take_succ_cons, List.drop_succ_cons, List.drop_zero, List.drop_nil, List.length_cons, List.length_nil, Nat.reduceAdd, Nat.zero_add, List.nil_append, List.cons_append, List.append_nil] at S)) | (refine wpList_b2sB S ?_) | (refine wpList_b2sR S ?_) | (refine wpList_ldc S ?_))
      have hcall : ∀ w', St w [] w' [.row 5 1 (.slice b5 a3.want.data.length d5) a3.want.data.length (u8s a3.want.data), .row 4 1 (.slice b7 a3.known.length d7) a3.known.length (bls a3.known), .row 5 1 (.slice b9 a4.data.length d9) a4.data.length (u8s a4.data)] →
          Calls Tryd.prog 16 #[.agg #[.int .i64 a3.want.fault, .int .i64 a3.want.n, .int .i64 a3.want.m, .int .i64 a3.want.len, .slice b5 a3.want.data.length d5, .bool a3.want.is, .slice b7 a3.known.length d7, .bool a3.open'], .agg #[.int .i64 a4.fault, .int .i64 a4.n, .int .i64 a4.m, .int .i64 a4.len, .slice b9 a4.data.length d9, .bool a4.is]] w' fun e' w'' => e' = .returned (.bool true) ∧ St w' [] w'' [] := fun w' S' => by
        have h := specSays a3 a4 b9 b5 b7 a4.data.length d9 d5 d7 a3.want.data.length a3.known.length w' (S'.rowSrc (hp := .tail (.tail .head))) (S'.rowSrc (hp := .head)) (Src.row (S'.mem.2 _ (.tail _ (.head _))) (bls_one _)) (by
          rcases hkn3.out with h | h
          · left; rw [h]; rfl
          · right; exact h) (by omega) (by omega)
        rw [hsay3.out] at h
        exact h
      replace hcall := hidden hcall
      go_wp2_with (first | go_big_skip | ((with_reducible show Code.wp _ (Code.region _ _ true) _ _ _); refine St.regionLast S ?_; (repeat (first | (go_big_quiet_step (fail)) | (go_big_quiet_want; (first | refine quiet_ld S ?_ | refine quiet_ld8 S ?_ | refine quiet_ld0 ?_ | refine quiet_ldA S ?_ | refine quiet_b2sB S ?_ | refine quiet_b2sR S ?_ | refine quiet_ldc S ?_); go_big_quiet_on))); refine wpQuiet_nil ?_; clear S; intro wq S) | go_big_skip | (refine wpList_ld S ?_) | (refine wpList_ld8 S ?_) | (refine wpList_ld0 ?_) | (refine wpList_ldA S ?_) | (refine wpList_st8 S ?_; (clear S; intro ws S)) | (refine wpList_st S ?_; (clear S; intro ws S)) | (refine wpList_box S ?_; (clear S; intro nb wb hnb S)) | (refine wpList_alloc S ?_; (clear S; intro nb wb hnb S)) | (refine wpList_mk8 S ?_; (clear S; intro nb wb hnb S)) | (refine wpList_mk S ?_; (clear S; intro nb wb hnb S)) | (refine wpList_bs S ?_; (clear S; intro nb wb hnb S)) | (refine wpList_stA S ?_; (clear S; intro ws S; simp only [splice, List.take_zero, List.take_succ_cons, List.drop_succ_cons, List.drop_zero, List.drop_nil, List.length_cons, List.length_nil, Nat.reduceAdd, Nat.zero_add, List.nil_append, List.cons_append, List.append_nil] at S)) | (refine wpList_b2sB S ?_) | (refine wpList_b2sR S ?_) | (refine wpList_ldc S ?_))
      refine Calls.mono (hcall.out _ (S.sel (by repeat (first | exact Sel.nil | (apply Sel.cons; (repeat (first | exact Pull.head | apply Pull.tail))))))) ?_
      rintro e w13 ⟨rfl, C⟩
      have S2 := S.same C.chg
      clear S C
      have S := S2
      clear S2
      go_wp2_with (first | go_big_skip | ((with_reducible show Code.wp _ (Code.region _ _ true) _ _ _); refine St.regionLast S ?_; (repeat (first | (go_big_quiet_step (fail)) | (go_big_quiet_want; (first | refine quiet_ld S ?_ | refine quiet_ld8 S ?_ | refine quiet_ld0 ?_ | refine quiet_ldA S ?_ | refine quiet_b2sB S ?_ | refine quiet_b2sR S ?_ | refine quiet_ldc S ?_); go_big_quiet_on))); refine wpQuiet_nil ?_; clear S; intro wq S) | go_big_skip | (refine wpList_ld S ?_) | (refine wpList_ld8 S ?_) | (refine wpList_ld0 ?_) | (refine wpList_ldA S ?_) | (refine wpList_st8 S ?_; (clear S; intro ws S)) | (refine wpList_st S ?_; (clear S; intro ws S)) | (refine wpList_box S ?_; (clear S; intro nb wb hnb S)) | (refine wpList_alloc S ?_; (clear S; intro nb wb hnb S)) | (refine wpList_mk8 S ?_; (clear S; intro nb wb hnb S)) | (refine wpList_mk S ?_; (clear S; intro nb wb hnb S)) | (refine wpList_bs S ?_; (clear S; intro nb wb hnb S)) | (refine wpList_stA S ?_; (clear S; intro ws S; simp only [splice, List.take_zero, List.take_succ_cons, List.drop_succ_cons, List.drop_zero, List.drop_nil, List.length_cons, List.length_nil, Nat.reduceAdd, Nat.zero_add, List.nil_append, List.cons_append, List.append_nil] at S)) | (refine wpList_b2sB S ?_) | (refine wpList_b2sR S ?_) | (refine wpList_ldc S ?_))
      ((first | go_ret | go_ret2 | go_ret3 | go_end0 | skip); refine hR.out _ _ ?_)
      exact ⟨rfl, S.chg⟩
open Go.ChangeShapes Go.WideShapes Go.ChangeAt Go.Deep
/-- An operation, and the parts of a ring, that came in by value. -/
theorem open_rop {H : Type} {enc : TypeId × Value → H} {w : World} {base base' : Nat} {spare : Nat → Bool} {held : Bool} {r : Reach} {v : Value} {d : DataW H} {ps : List MemPlace}
    (hval : Value.okWide Tryd.prog w r base' 26 v) (hd : DataW.Trod enc Tryd.prog w base spare held 26 v d ps) : ∃ op cs, v = .agg cs.toArray ∧ ROpV w op cs := by
  obtain ⟨cs, rfl, hsz⟩ := okWide_struct Tryd.underlying26 hval
  obtain ⟨fuel, hf⟩ := hd
  obtain ⟨l⟩ := cs
  have c4 : Tryd.prog.cellsOf 26 = 4 := by kernel_rfl
  have hl : l.length = 4 := by simpa using hsz.trans c4
  obtain ⟨op, h⟩ := rop_of (cs := l) hl (by simpa [Value.cells] using hf)
  exact ⟨op, l, rfl, h⟩
theorem open_ring {H : Type} {enc : TypeId × Value → H} {w : World} {base base' : Nat} {spare : Nat → Bool} {held : Bool} {r : Reach} {v : Value} {d : DataW H} {ps : List MemPlace}
    (hval : Value.okWide Tryd.prog w r base' 24 v) (hd : DataW.Trod enc Tryd.prog w base spare held 24 v d ps) :
    ∃ (data : List UInt8) (oa : Option Addr) (n c : Nat) (bg en ix : Int), v = .agg #[.slice oa n c, .int .i64 bg, .int .i64 en, .int .i64 ix] ∧ Src w 1 (.slice oa n c) n (u8s data) ∧ n ≤ c := by
  obtain ⟨cs, rfl, hsz⟩ := okWide_struct Tryd.underlying24 hval
  obtain ⟨fuel, hf⟩ := hd
  obtain ⟨l⟩ := cs
  have c4 : Tryd.prog.cellsOf 24 = 4 := by kernel_rfl
  have hl : l.length = 4 := by simpa using hsz.trans c4
  have c3 : Tryd.prog.cellsOf 3 = 1 := by kernel_rfl
  have c26 : Tryd.prog.cellsOf 22 = 1 := by kernel_rfl
  match l, hl with
  | [e0, e1, e2, e3], _ =>
    have hf2 : DataW.trod enc Tryd.prog w base spare held fuel 24 [e0, e1, e2, e3] = some (d, ps) := by simpa [Value.cells] using hf
    obtain ⟨y0, y1, y2, y3, n, _, _, t0, t1, t2, t3⟩ := Go.Joins.trod_struct4 Tryd.underlying24 hf2
    simp only [c3, c26, List.drop, List.take] at t0 t1 t2 t3
    obtain ⟨k, hk, _, _⟩ := DataW.trod_int Tryd.underlying3 t1
    obtain ⟨i, hi, _, _⟩ := DataW.trod_int Tryd.underlying3 t2
    obtain ⟨j, hj, _, _⟩ := DataW.trod_int Tryd.underlying3 t3
    obtain ⟨m, l, h1, h2, a, c, h3, h4, h5⟩ := open_bytesC Tryd.underlying22 Tryd.underlying5 (by kernel_rfl) t0
    simp only [List.cons.injEq, and_true] at hk hi hj
    subst hk hi hj h3
    exact ⟨l, a, m, c, k, i, j, rfl, h1, h5⟩
theorem rowRingStep {H : Type} {enc : TypeId × Value → H} {base base' base2 base2' : Nat} {spare spare2 : Nat → Bool} {held held2 : Bool} {r r2 : Reach} {d d2 : DataW H} {ps ps2 : List MemPlace} {X2 X3 : Prop} {t0 t1 : TypeId} {x0 x1 : Addr} (v v2 : Value) (W : World)
    (hval : Value.okWide Tryd.prog W r base' 24 v) (hd : DataW.Trod enc Tryd.prog W base spare held 24 v d ps) (_ : X2)
    (hval2 : Value.okWide Tryd.prog W r2 base2' 26 v2) (hd2 : DataW.Trod enc Tryd.prog W base2 spare2 held2 26 v2 d2 ps2) (_ : X3)
    (h1 : W.cell? ⟨1, 0, none⟩ = some (.iface t1 (.pointer (some x1)))) (h0 : W.cell? ⟨0, 0, none⟩ = some (.iface t0 (.pointer (some x0)))) :
    Calls Tryd.prog 3 #[v, v2] W fun e w' => e = .returned (.bool true) ∧ Below W.heap.size W w' := by
  obtain ⟨data, oa, n, c, bg, en, ix, rfl, hs, hc⟩ := open_ring hval hd
  obtain ⟨op, cs, rfl, hop⟩ := open_rop hval2 hd2
  exact Calls.mono (lawRingStep data oa n c bg en ix op cs _ _ W hs hc hop (errs_of h1 h0)) fun e w' ⟨h1, h2⟩ => ⟨h1, h2.below⟩
end Go.Proofs.YtbklhnpnkinadaaDoor
