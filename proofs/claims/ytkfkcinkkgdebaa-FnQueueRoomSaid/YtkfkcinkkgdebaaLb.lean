/- The script that is asked. -/
import Derived.Test.YtkfkcinkkgdebaaLa
namespace Go.Proofs.Ytkfkcinkkgdebaa
open Go Go.RowKit Go.Vil
set_option linter.unusedSimpArgs false
set_option linter.unusedVariables false
set_option maxRecDepth 100000

theorem asked_take {ops : List QOp} {k : Nat} {op : QOp} (h : ops[k]? = some op) : asked (ops.take (k + 1)) = asked (ops.take k) ++ asked [op] := by
  rw [List.take_add_one, h, asked_append]; rfl
theorem OpV.one {w : World} {op : QOp} {cs : List Value} (h : OpV w op cs) : ∀ u ∈ cs, u.oneCell' = true := by
  obtain ⟨oa, n, c, rfl, _⟩ := h
  intro u hu
  simp at hu
  rcases hu with rfl | rfl | rfl <;> rfl

set_option maxHeartbeats 1600000 in
theorem asked6R (v : Value) (ops : List QOp) (w : World) (h : Arr OpV 3 w v ops) (hlen : ops.length ≤ 60) :
    Calls Try.prog 15 #[v] w fun e w' => ∃ ov css, e = .returned ov ∧ Each (fun x cs => OpV w x cs ∧ cs.length = 3) (asked ops) css ∧ St w [] w' [.row 28 3 ov (asked ops).length css.flatten] := by
  have S := St.begin w
  obtain ⟨oa, c, rfl, hc⟩ := h.shape
  have hh := hidden h
  clear h
  refine Calls.cps ?_; intro R hR
  go_enter Try.func15, Try.ntmps15
  go_wp2_with (first | go_big_skip | ((with_reducible show Code.wp _ (Code.region _ _ true) _ _ _); refine St.regionLast S ?_; (repeat (first | (go_big_quiet_step (fail)) | (go_big_quiet_want; (first | refine quiet_ld S ?_ | refine quiet_ld8 S ?_ | refine quiet_ld0 ?_ | refine quiet_ldA S ?_ | refine quiet_b2sB S ?_ | refine quiet_b2sR S ?_ | refine quiet_ldc S ?_); go_big_quiet_on))); refine wpQuiet_nil ?_; clear S; intro wq S) | go_big_skip | (refine wpList_ld S ?_) | (refine wpList_ld8 S ?_) | (refine wpList_ld0 ?_) | (refine wpList_ldA S ?_) | (refine wpList_st8 S ?_; (clear S; intro ws S)) | (refine wpList_st S ?_; (clear S; intro ws S)) | (refine wpList_box S ?_; (clear S; intro nb wb hnb S)) | (refine wpList_alloc S ?_; (clear S; intro nb wb hnb S)) | (refine wpList_mk8 S ?_; (clear S; intro nb wb hnb S)) | (refine wpList_mk S ?_; (clear S; intro nb wb hnb S)) | (refine wpList_bs S ?_; (clear S; intro nb wb hnb S)) | (refine wpList_stA S ?_; (clear S; intro ws S; simp only [splice, List.take_zero, List.take_succ_cons, List.drop_succ_cons, List.drop_zero, List.drop_nil, List.length_cons, List.length_nil, Nat.reduceAdd, Nat.zero_add, List.nil_append, List.cons_append, List.append_nil] at S)) | (refine wpList_b2sB S ?_) | (refine wpList_b2sR S ?_) | (refine wpList_ldc S ?_))
  have S := S.nilRow 28 3
  go_loopg [3, 5, 8] ops.length (fun g out x i wr => ∃ (k : Nat) (css : List (List Value)) (n : Nat), Hid (k + g = ops.length) ∧ i = .int .i64 k ∧ k ≤ ops.length ∧ n ≤ 2 * k ∧ Hid (n = (asked (ops.take k)).length) ∧ Hid (Each (fun x cs => OpV w x cs ∧ cs.length = 3) (asked (ops.take k)) css) ∧ St w [] wr [.row 28 3 out n css.flatten])
  case atStart => exact ⟨0, [], 0, hidden (by omega), rfl, Nat.zero_le _, by omega, hidden (by simp [asked]), hidden (by simp [asked, Each]), S⟩
  case round =>
    obtain ⟨k, css, n, hg, rfl, hkn, hn2, hnl, hE, S⟩ := hrel
    by_cases hlt : k < ops.length
    · obtain ⟨ad, rfl⟩ := hh.out.some (by decide) (by omega)
      have hop : ops[k]? = some ops[k] := List.getElem?_eq_getElem hlt
      obtain ⟨cs, hV, hl3, hcell⟩ := hh.out.get k _ hop
      have htk := hidden (asked_take hop)
      generalize ops[k] = op at *
      have hV2 := hidden hV
      obtain ⟨oa', n', c', rfl, hs', hc'⟩ := hV
      obtain ⟨kd, dt, ix⟩ := op
      simp only at *
      replace hcell := hidden hcell
      clear hop hs' hl3
      by_cases h0 : kd = 0
      · subst h0
        go_wp2_with (first | (refine wpList_ldAc S ?_ (by rfl) hcell.out) | (refine wpList_appB S ?_; (clear S; intro va wa hva S)) | go_big_skip | (refine wpList_ld S ?_) | (refine wpList_ld8 S ?_) | (refine wpList_ld0 ?_) | (refine wpList_ldA S ?_) | (refine wpList_st8 S ?_; (clear S; intro ws S)) | (refine wpList_st S ?_; (clear S; intro ws S)) | (refine wpList_box S ?_; (clear S; intro nb wb hnb S)) | (refine wpList_alloc S ?_; (clear S; intro nb wb hnb S)) | (refine wpList_mk8 S ?_; (clear S; intro nb wb hnb S)) | (refine wpList_mk S ?_; (clear S; intro nb wb hnb S)) | (refine wpList_bs S ?_; (clear S; intro nb wb hnb S)) | (refine wpList_stA S ?_; (clear S; intro ws S; simp only [splice, List.take_zero, List.take_succ_cons, List.drop_succ_cons, List.drop_zero, List.drop_nil, List.length_cons, List.length_nil, Nat.reduceAdd, Nat.zero_add, List.nil_append, List.cons_append, List.append_nil] at S)) | (refine wpList_b2sB S ?_) | (refine wpList_b2sR S ?_) | (refine wpList_ldc S ?_))
        go_roundg (gk - 1)
        case measure => have := hg.out; omega
        case rel =>
          refine ⟨k + 1, css ++ [[.int .i64 0, .slice oa' n' c', .int .i64 ix], [.int .i64 6, .slice none 0 0, .int .i64 0]], n + 2, hidden (by have := hg.out; omega), by go_num, by omega, by omega, hidden ?_, hidden ?_, ?_⟩
          · rw [htk.out, List.length_append, hnl.out]; rfl
          · rw [htk.out]
            exact hE.out.append ⟨⟨hV2.out, rfl⟩, ⟨⟨none, 0, 0, rfl, Src.nil w 1 0, Nat.le_refl _⟩, rfl⟩, trivial⟩
          · rw [List.flatten_append]; exact S.sel (by repeat (first | exact Sel.nil | (apply Sel.cons; (repeat (first | exact Pull.head | apply Pull.tail)))))
      · by_cases h1 : kd = 1 ∨ kd = 2 ∨ kd = 5 ∨ kd = 6 ∨ kd = 7
        · have hone : asked [(⟨kd, dt, ix⟩ : QOp)] = [⟨kd, dt, ix⟩] := by unfold asked; simp [h0, h1]
          replace hone := hidden hone
          rcases h1 with rfl | rfl | rfl | rfl | rfl
          · go_wp2_with (first | (refine wpList_ldAc S ?_ (by rfl) hcell.out) | (refine wpList_appB S ?_; (clear S; intro va wa hva S)) | go_big_skip | (refine wpList_ld S ?_) | (refine wpList_ld8 S ?_) | (refine wpList_ld0 ?_) | (refine wpList_ldA S ?_) | (refine wpList_st8 S ?_; (clear S; intro ws S)) | (refine wpList_st S ?_; (clear S; intro ws S)) | (refine wpList_box S ?_; (clear S; intro nb wb hnb S)) | (refine wpList_alloc S ?_; (clear S; intro nb wb hnb S)) | (refine wpList_mk8 S ?_; (clear S; intro nb wb hnb S)) | (refine wpList_mk S ?_; (clear S; intro nb wb hnb S)) | (refine wpList_bs S ?_; (clear S; intro nb wb hnb S)) | (refine wpList_stA S ?_; (clear S; intro ws S; simp only [splice, List.take_zero, List.take_succ_cons, List.drop_succ_cons, List.drop_zero, List.drop_nil, List.length_cons, List.length_nil, Nat.reduceAdd, Nat.zero_add, List.nil_append, List.cons_append, List.append_nil] at S)) | (refine wpList_b2sB S ?_) | (refine wpList_b2sR S ?_) | (refine wpList_ldc S ?_))
            go_roundg (gk - 1)
            case measure => have := hg.out; omega
            case rel =>
              refine ⟨k + 1, css ++ [[.int .i64 1, .slice oa' n' c', .int .i64 ix]], n + 1, hidden (by have := hg.out; omega), by go_num, by omega, by omega, hidden ?_, hidden ?_, ?_⟩
              · rw [htk.out, hone.out, List.length_append, hnl.out]; rfl
              · rw [htk.out, hone.out]
                exact hE.out.append ⟨⟨hV2.out, rfl⟩, trivial⟩
              · rw [List.flatten_append]; exact S.sel (by repeat (first | exact Sel.nil | (apply Sel.cons; (repeat (first | exact Pull.head | apply Pull.tail)))))
          · go_wp2_with (first | (refine wpList_ldAc S ?_ (by rfl) hcell.out) | (refine wpList_appB S ?_; (clear S; intro va wa hva S)) | go_big_skip | (refine wpList_ld S ?_) | (refine wpList_ld8 S ?_) | (refine wpList_ld0 ?_) | (refine wpList_ldA S ?_) | (refine wpList_st8 S ?_; (clear S; intro ws S)) | (refine wpList_st S ?_; (clear S; intro ws S)) | (refine wpList_box S ?_; (clear S; intro nb wb hnb S)) | (refine wpList_alloc S ?_; (clear S; intro nb wb hnb S)) | (refine wpList_mk8 S ?_; (clear S; intro nb wb hnb S)) | (refine wpList_mk S ?_; (clear S; intro nb wb hnb S)) | (refine wpList_bs S ?_; (clear S; intro nb wb hnb S)) | (refine wpList_stA S ?_; (clear S; intro ws S; simp only [splice, List.take_zero, List.take_succ_cons, List.drop_succ_cons, List.drop_zero, List.drop_nil, List.length_cons, List.length_nil, Nat.reduceAdd, Nat.zero_add, List.nil_append, List.cons_append, List.append_nil] at S)) | (refine wpList_b2sB S ?_) | (refine wpList_b2sR S ?_) | (refine wpList_ldc S ?_))
            go_roundg (gk - 1)
            case measure => have := hg.out; omega
            case rel =>
              refine ⟨k + 1, css ++ [[.int .i64 2, .slice oa' n' c', .int .i64 ix]], n + 1, hidden (by have := hg.out; omega), by go_num, by omega, by omega, hidden ?_, hidden ?_, ?_⟩
              · rw [htk.out, hone.out, List.length_append, hnl.out]; rfl
              · rw [htk.out, hone.out]
                exact hE.out.append ⟨⟨hV2.out, rfl⟩, trivial⟩
              · rw [List.flatten_append]; exact S.sel (by repeat (first | exact Sel.nil | (apply Sel.cons; (repeat (first | exact Pull.head | apply Pull.tail)))))
          · go_wp2_with (first | (refine wpList_ldAc S ?_ (by rfl) hcell.out) | (refine wpList_appB S ?_; (clear S; intro va wa hva S)) | go_big_skip | (refine wpList_ld S ?_) | (refine wpList_ld8 S ?_) | (refine wpList_ld0 ?_) | (refine wpList_ldA S ?_) | (refine wpList_st8 S ?_; (clear S; intro ws S)) | (refine wpList_st S ?_; (clear S; intro ws S)) | (refine wpList_box S ?_; (clear S; intro nb wb hnb S)) | (refine wpList_alloc S ?_; (clear S; intro nb wb hnb S)) | (refine wpList_mk8 S ?_; (clear S; intro nb wb hnb S)) | (refine wpList_mk S ?_; (clear S; intro nb wb hnb S)) | (refine wpList_bs S ?_; (clear S; intro nb wb hnb S)) | (refine wpList_stA S ?_; (clear S; intro ws S; simp only [splice, List.take_zero, List.take_succ_cons, List.drop_succ_cons, List.drop_zero, List.drop_nil, List.length_cons, List.length_nil, Nat.reduceAdd, Nat.zero_add, List.nil_append, List.cons_append, List.append_nil] at S)) | (refine wpList_b2sB S ?_) | (refine wpList_b2sR S ?_) | (refine wpList_ldc S ?_))
            go_roundg (gk - 1)
            case measure => have := hg.out; omega
            case rel =>
              refine ⟨k + 1, css ++ [[.int .i64 5, .slice oa' n' c', .int .i64 ix]], n + 1, hidden (by have := hg.out; omega), by go_num, by omega, by omega, hidden ?_, hidden ?_, ?_⟩
              · rw [htk.out, hone.out, List.length_append, hnl.out]; rfl
              · rw [htk.out, hone.out]
                exact hE.out.append ⟨⟨hV2.out, rfl⟩, trivial⟩
              · rw [List.flatten_append]; exact S.sel (by repeat (first | exact Sel.nil | (apply Sel.cons; (repeat (first | exact Pull.head | apply Pull.tail)))))
          · go_wp2_with (first | (refine wpList_ldAc S ?_ (by rfl) hcell.out) | (refine wpList_appB S ?_; (clear S; intro va wa hva S)) | go_big_skip | (refine wpList_ld S ?_) | (refine wpList_ld8 S ?_) | (refine wpList_ld0 ?_) | (refine wpList_ldA S ?_) | (refine wpList_st8 S ?_; (clear S; intro ws S)) | (refine wpList_st S ?_; (clear S; intro ws S)) | (refine wpList_box S ?_; (clear S; intro nb wb hnb S)) | (refine wpList_alloc S ?_; (clear S; intro nb wb hnb S)) | (refine wpList_mk8 S ?_; (clear S; intro nb wb hnb S)) | (refine wpList_mk S ?_; (clear S; intro nb wb hnb S)) | (refine wpList_bs S ?_; (clear S; intro nb wb hnb S)) | (refine wpList_stA S ?_; (clear S; intro ws S; simp only [splice, List.take_zero, List.take_succ_cons, List.drop_succ_cons, List.drop_zero, List.drop_nil, List.length_cons, List.length_nil, Nat.reduceAdd, Nat.zero_add, List.nil_append, List.cons_append, List.append_nil] at S)) | (refine wpList_b2sB S ?_) | (refine wpList_b2sR S ?_) | (refine wpList_ldc S ?_))
            go_roundg (gk - 1)
            case measure => have := hg.out; omega
            case rel =>
              refine ⟨k + 1, css ++ [[.int .i64 6, .slice oa' n' c', .int .i64 ix]], n + 1, hidden (by have := hg.out; omega), by go_num, by omega, by omega, hidden ?_, hidden ?_, ?_⟩
              · rw [htk.out, hone.out, List.length_append, hnl.out]; rfl
              · rw [htk.out, hone.out]
                exact hE.out.append ⟨⟨hV2.out, rfl⟩, trivial⟩
              · rw [List.flatten_append]; exact S.sel (by repeat (first | exact Sel.nil | (apply Sel.cons; (repeat (first | exact Pull.head | apply Pull.tail)))))
          · go_wp2_with (first | (refine wpList_ldAc S ?_ (by rfl) hcell.out) | (refine wpList_appB S ?_; (clear S; intro va wa hva S)) | go_big_skip | (refine wpList_ld S ?_) | (refine wpList_ld8 S ?_) | (refine wpList_ld0 ?_) | (refine wpList_ldA S ?_) | (refine wpList_st8 S ?_; (clear S; intro ws S)) | (refine wpList_st S ?_; (clear S; intro ws S)) | (refine wpList_box S ?_; (clear S; intro nb wb hnb S)) | (refine wpList_alloc S ?_; (clear S; intro nb wb hnb S)) | (refine wpList_mk8 S ?_; (clear S; intro nb wb hnb S)) | (refine wpList_mk S ?_; (clear S; intro nb wb hnb S)) | (refine wpList_bs S ?_; (clear S; intro nb wb hnb S)) | (refine wpList_stA S ?_; (clear S; intro ws S; simp only [splice, List.take_zero, List.take_succ_cons, List.drop_succ_cons, List.drop_zero, List.drop_nil, List.length_cons, List.length_nil, Nat.reduceAdd, Nat.zero_add, List.nil_append, List.cons_append, List.append_nil] at S)) | (refine wpList_b2sB S ?_) | (refine wpList_b2sR S ?_) | (refine wpList_ldc S ?_))
            go_roundg (gk - 1)
            case measure => have := hg.out; omega
            case rel =>
              refine ⟨k + 1, css ++ [[.int .i64 7, .slice oa' n' c', .int .i64 ix]], n + 1, hidden (by have := hg.out; omega), by go_num, by omega, by omega, hidden ?_, hidden ?_, ?_⟩
              · rw [htk.out, hone.out, List.length_append, hnl.out]; rfl
              · rw [htk.out, hone.out]
                exact hE.out.append ⟨⟨hV2.out, rfl⟩, trivial⟩
              · rw [List.flatten_append]; exact S.sel (by repeat (first | exact Sel.nil | (apply Sel.cons; (repeat (first | exact Pull.head | apply Pull.tail)))))
        · have hnone : asked [(⟨kd, dt, ix⟩ : QOp)] = [] := by unfold asked; simp [h0, h1]
          replace hnone := hidden hnone
          have b0 : (kd == 0) = false := by simp [h0]
          have b1 : (kd == 1) = false := by simp; omega
          have b2 : (kd == 2) = false := by simp; omega
          have b5 : (kd == 5) = false := by simp; omega
          have b6 : (kd == 6) = false := by simp; omega
          have b7 : (kd == 7) = false := by simp; omega
          clear h0 h1
          go_wp2_with (first | (refine wpList_ldAc S ?_ (by rfl) hcell.out) | (refine wpList_appB S ?_; (clear S; intro va wa hva S)) | go_big_skip | (refine wpList_ld S ?_) | (refine wpList_ld8 S ?_) | (refine wpList_ld0 ?_) | (refine wpList_ldA S ?_) | (refine wpList_st8 S ?_; (clear S; intro ws S)) | (refine wpList_st S ?_; (clear S; intro ws S)) | (refine wpList_box S ?_; (clear S; intro nb wb hnb S)) | (refine wpList_alloc S ?_; (clear S; intro nb wb hnb S)) | (refine wpList_mk8 S ?_; (clear S; intro nb wb hnb S)) | (refine wpList_mk S ?_; (clear S; intro nb wb hnb S)) | (refine wpList_bs S ?_; (clear S; intro nb wb hnb S)) | (refine wpList_stA S ?_; (clear S; intro ws S; simp only [splice, List.take_zero, List.take_succ_cons, List.drop_succ_cons, List.drop_zero, List.drop_nil, List.length_cons, List.length_nil, Nat.reduceAdd, Nat.zero_add, List.nil_append, List.cons_append, List.append_nil] at S)) | (refine wpList_b2sB S ?_) | (refine wpList_b2sR S ?_) | (refine wpList_ldc S ?_))
          go_roundg (gk - 1)
          case measure => have := hg.out; omega
          case rel =>
            exact ⟨k + 1, css, n, hidden (by have := hg.out; omega), by go_num, by omega, by omega, hidden (by rw [htk.out, hnone.out, List.append_nil]; exact hnl.out), hidden (by rw [htk.out, hnone.out, List.append_nil]; exact hE.out), S.sel (by repeat (first | exact Sel.nil | (apply Sel.cons; (repeat (first | exact Pull.head | apply Pull.tail)))))⟩
    · have hkl : k = ops.length := by omega
      replace hkl := hidden hkl
      go_wp2_with (first | go_big_skip | ((with_reducible show Code.wp _ (Code.region _ _ true) _ _ _); refine St.regionLast S ?_; (repeat (first | (go_big_quiet_step (fail)) | (go_big_quiet_want; (first | refine quiet_ld S ?_ | refine quiet_ld8 S ?_ | refine quiet_ld0 ?_ | refine quiet_ldA S ?_ | refine quiet_b2sB S ?_ | refine quiet_b2sR S ?_ | refine quiet_ldc S ?_); go_big_quiet_on))); refine wpQuiet_nil ?_; clear S; intro wq S) | go_big_skip | (refine wpList_ld S ?_) | (refine wpList_ld8 S ?_) | (refine wpList_ld0 ?_) | (refine wpList_ldA S ?_) | (refine wpList_st8 S ?_; (clear S; intro ws S)) | (refine wpList_st S ?_; (clear S; intro ws S)) | (refine wpList_box S ?_; (clear S; intro nb wb hnb S)) | (refine wpList_alloc S ?_; (clear S; intro nb wb hnb S)) | (refine wpList_mk8 S ?_; (clear S; intro nb wb hnb S)) | (refine wpList_mk S ?_; (clear S; intro nb wb hnb S)) | (refine wpList_bs S ?_; (clear S; intro nb wb hnb S)) | (refine wpList_stA S ?_; (clear S; intro ws S; simp only [splice, List.take_zero, List.take_succ_cons, List.drop_succ_cons, List.drop_zero, List.drop_nil, List.length_cons, List.length_nil, Nat.reduceAdd, Nat.zero_add, List.nil_append, List.cons_append, List.append_nil] at S)) | (refine wpList_b2sB S ?_) | (refine wpList_b2sR S ?_) | (refine wpList_ldc S ?_))
      ((first | go_ret | go_ret2 | go_ret3 | go_end0 | skip); refine hR.out _ _ ?_)
      have hE2 := hE.out
      rw [hkl.out, List.take_length] at hE2
      have hn3 := hnl.out
      rw [hkl.out, List.take_length] at hn3
      subst hn3
      exact ⟨_, _, rfl, hE2, S.sel (by repeat (first | exact Sel.nil | (apply Sel.cons; (repeat (first | exact Pull.head | apply Pull.tail)))))⟩
/-- A row of operations as a slice that is read. -/
theorem ops_arr {w w' : World} {v : Value} {ops : List QOp} {css : List (List Value)} {L F : List Res} (hE : Each (fun x cs => OpV w x cs ∧ cs.length = 3) ops css) (S : St w [] w' L) (hp : Pull (.row 28 3 v ops.length css.flatten) L F) : Arr OpV 3 w' v ops := by
  refine row_arr (by decide) (S.mem.2 _ hp.mem) (hE.mono fun x cs hx => ⟨hx.1.on S.chg, hx.2⟩) ?_
  intro cs hcs
  obtain ⟨i, hi⟩ := List.getElem?_of_mem hcs
  have hlt2 := (List.getElem?_eq_some_iff.1 hi).1
  have hl := hE.length
  obtain ⟨b, hb, hb2, _⟩ := hE.get i _ (List.getElem?_eq_getElem (show i < ops.length by omega))
  rw [hi] at hb
  cases hb
  exact hb2.one
theorem asked6 (v : Value) (ops : List QOp) (w : World) (h : Arr OpV 3 w v ops) (hlen : ops.length ≤ 60) :
    Calls Try.prog 15 #[v] w fun e w' => ∃ ov, e = .returned ov ∧ Arr OpV 3 w' ov (asked ops) ∧ St w [] w' [] := by
  refine Calls.mono (asked6R v ops w h hlen) ?_
  rintro e w' ⟨ov, css, rfl, hE, S⟩
  exact ⟨ov, rfl, ops_arr hE S .head, S.sel .nil⟩
end Go.Proofs.Ytkfkcinkkgdebaa
