/- A script of a queue. -/
import Derived.Test.YtkfkcinkkgdebaaQl
import Derived.Test.YtkfkcinkkgdebaaArr
namespace Go.Proofs.Ytkfkcinkkgdebaa
open Go Go.RowKit Go.Vil
set_option linter.unusedSimpArgs false
set_option linter.unusedVariables false
set_option maxRecDepth 100000

/-- An operation as it lies in memory. -/
def OpV (w : World) (op : QOp) (cs : List Value) : Prop := ∃ oa n c, cs = [.int .i64 op.kind, .slice oa n c, .int .i64 op.index] ∧ Src w 1 (.slice oa n c) n (u8s op.data) ∧ n ≤ c
theorem OpV.on {w w' : World} {op : QOp} {cs : List Value} (h : OpV w op cs) (C : Chg [] w w') : OpV w' op cs := by
  obtain ⟨oa, n, c, h1, h2, h3⟩ := h
  exact ⟨oa, n, c, h1, h2.on C, h3⟩
def total (l : List QOp) : Nat := (l.map fun op => op.data.length).sum
theorem total_take (l : List QOp) (k : Nat) (op : QOp) (h : l[k]? = some op) : total (l.take (k + 1)) = total (l.take k) + op.data.length := by
  unfold total
  rw [List.take_add_one, h]; simp
theorem total_take_le (l : List QOp) (k : Nat) : total (l.take k) ≤ total l := by
  have := List.take_append_drop k l
  have h2 : total l = total (l.take k) + total (l.drop k) := by
    unfold total
    rw [← List.sum_append, ← List.map_append, this]
  omega

set_option maxHeartbeats 800000 in
theorem queueFine (v : Value) (ops : List QOp) (w : World) (h : Arr OpV 3 w v ops) (hk : ∀ op ∈ ops, op.kind ≤ 7) (hl : ops.length ≤ 400) (hb : total ops ≤ 262144) :
    Calls Try.prog 34 #[v] w fun e w' => e = .returned (.bool true) ∧ St w [] w' [] := by
  have S := St.begin w
  obtain ⟨oa, c, rfl, hc⟩ := h.shape
  have hh := hidden h
  replace hk := hidden hk
  clear h
  refine Calls.cps ?_; intro R hR
  go_enter Try.func34, Try.ntmps34
  go_wp2_with (first | go_big_skip | ((with_reducible show Code.wp _ (Code.region _ _ true) _ _ _); refine St.regionLast S ?_; (repeat (first | (go_big_quiet_step (fail)) | (go_big_quiet_want; (first | refine quiet_ld S ?_ | refine quiet_ld8 S ?_ | refine quiet_ld0 ?_ | refine quiet_ldA S ?_ | refine quiet_b2sB S ?_ | refine quiet_b2sR S ?_ | refine quiet_ldc S ?_); go_big_quiet_on))); refine wpQuiet_nil ?_; clear S; intro wq S) | go_big_skip | (refine wpList_ld S ?_) | (refine wpList_ld8 S ?_) | (refine wpList_ld0 ?_) | (refine wpList_ldA S ?_) | (refine wpList_st8 S ?_; (clear S; intro ws S)) | (refine wpList_st S ?_; (clear S; intro ws S)) | (refine wpList_box S ?_; (clear S; intro nb wb hnb S)) | (refine wpList_alloc S ?_; (clear S; intro nb wb hnb S)) | (refine wpList_mk8 S ?_; (clear S; intro nb wb hnb S)) | (refine wpList_mk S ?_; (clear S; intro nb wb hnb S)) | (refine wpList_bs S ?_; (clear S; intro nb wb hnb S)) | (refine wpList_stA S ?_; (clear S; intro ws S; simp only [splice, List.take_zero, List.take_succ_cons, List.drop_succ_cons, List.drop_zero, List.drop_nil, List.length_cons, List.length_nil, Nat.reduceAdd, Nat.zero_add, List.nil_append, List.cons_append, List.append_nil] at S)) | (refine wpList_b2sB S ?_) | (refine wpList_b2sR S ?_) | (refine wpList_ldc S ?_))
  go_loopg [3, 5, 8] ops.length (fun g by' x i wr => ∃ k : Nat, Hid (k + g = ops.length) ∧ i = .int .i64 k ∧ by' = .int .i64 (total (ops.take k)) ∧ k ≤ ops.length ∧ total (ops.take k) ≤ 262144 ∧ St w [] wr [])
  case atStart => exact ⟨0, hidden (by omega), rfl, rfl, Nat.zero_le _, by simp [total], S⟩
  case round =>
    obtain ⟨k, hg, rfl, rfl, hkn, htk, S⟩ := hrel
    by_cases hlt : k < ops.length
    · obtain ⟨ad, rfl⟩ := hh.out.some (by decide) (by omega)
      have hop : ops[k]? = some ops[k] := List.getElem?_eq_getElem hlt
      have hkk := hk.out ops[k] (List.getElem_mem hlt)
      have ht1 := total_take ops k _ hop
      have ht2 := total_take_le ops (k + 1)
      obtain ⟨cs, ⟨oa', n', c', rfl, hs', hc'⟩, hl3, hcell⟩ := hh.out.get k _ hop
      have hln := hs'.len8
      generalize ops[k] = op at *
      replace hcell := hidden hcell
      replace hop := hidden hop
      replace hln := hidden hln
      replace ht1 := hidden ht1
      have hn262 : n' ≤ 262144 := by have := ht1.out; have := hln.out; omega
      have hn263 : total (ops.take k) + n' ≤ 262144 := by have := ht1.out; have := hln.out; omega
      clear hs' hl3
      go_wp2_with (first | (refine wpList_ldAc S ?_ (by rfl) hcell.out) | go_big_skip | (refine wpList_ld S ?_) | (refine wpList_ld8 S ?_) | (refine wpList_ld0 ?_) | (refine wpList_ldA S ?_) | (refine wpList_st8 S ?_; (clear S; intro ws S)) | (refine wpList_st S ?_; (clear S; intro ws S)) | (refine wpList_box S ?_; (clear S; intro nb wb hnb S)) | (refine wpList_alloc S ?_; (clear S; intro nb wb hnb S)) | (refine wpList_mk8 S ?_; (clear S; intro nb wb hnb S)) | (refine wpList_mk S ?_; (clear S; intro nb wb hnb S)) | (refine wpList_bs S ?_; (clear S; intro nb wb hnb S)) | (refine wpList_stA S ?_; (clear S; intro ws S; simp only [splice, List.take_zero, List.take_succ_cons, List.drop_succ_cons, List.drop_zero, List.drop_nil, List.length_cons, List.length_nil, Nat.reduceAdd, Nat.zero_add, List.nil_append, List.cons_append, List.append_nil] at S)) | (refine wpList_b2sB S ?_) | (refine wpList_b2sR S ?_) | (refine wpList_ldc S ?_))
      go_roundg (gk - 1)
      case measure => have := hg.out; omega
      case rel =>
        have h5 := ht1.out
        have h6 := hln.out
        exact ⟨k + 1, hidden (by have := hg.out; omega), by go_num, by rw [h5, h6]; go_num, by omega, by omega, S.sel (by repeat (first | exact Sel.nil | (apply Sel.cons; (repeat (first | exact Pull.head | apply Pull.tail)))))⟩
    · have hkl : k = ops.length := by omega
      replace hkl := hidden hkl
      go_wp2_with (first | go_big_skip | ((with_reducible show Code.wp _ (Code.region _ _ true) _ _ _); refine St.regionLast S ?_; (repeat (first | (go_big_quiet_step (fail)) | (go_big_quiet_want; (first | refine quiet_ld S ?_ | refine quiet_ld8 S ?_ | refine quiet_ld0 ?_ | refine quiet_ldA S ?_ | refine quiet_b2sB S ?_ | refine quiet_b2sR S ?_ | refine quiet_ldc S ?_); go_big_quiet_on))); refine wpQuiet_nil ?_; clear S; intro wq S) | go_big_skip | (refine wpList_ld S ?_) | (refine wpList_ld8 S ?_) | (refine wpList_ld0 ?_) | (refine wpList_ldA S ?_) | (refine wpList_st8 S ?_; (clear S; intro ws S)) | (refine wpList_st S ?_; (clear S; intro ws S)) | (refine wpList_box S ?_; (clear S; intro nb wb hnb S)) | (refine wpList_alloc S ?_; (clear S; intro nb wb hnb S)) | (refine wpList_mk8 S ?_; (clear S; intro nb wb hnb S)) | (refine wpList_mk S ?_; (clear S; intro nb wb hnb S)) | (refine wpList_bs S ?_; (clear S; intro nb wb hnb S)) | (refine wpList_stA S ?_; (clear S; intro ws S; simp only [splice, List.take_zero, List.take_succ_cons, List.drop_succ_cons, List.drop_zero, List.drop_nil, List.length_cons, List.length_nil, Nat.reduceAdd, Nat.zero_add, List.nil_append, List.cons_append, List.append_nil] at S)) | (refine wpList_b2sB S ?_) | (refine wpList_b2sR S ?_) | (refine wpList_ldc S ?_))
      ((first | go_ret | go_ret2 | go_ret3 | go_end0 | skip); refine hR.out _ _ ?_)
      exact ⟨retB (by simp; omega), S.sel (by repeat (first | exact Sel.nil | (apply Sel.cons; (repeat (first | exact Pull.head | apply Pull.tail)))))⟩

/-- A script of operations, and its answers. -/
def qRun : Qu → List QOp → List QAns
  | _, [] => []
  | x, op :: l => (qStep x op).2 :: qRun (qStep x op).1 l
def qEnd : Qu → List QOp → Qu
  | x, [] => x
  | x, op :: l => qEnd (qStep x op).1 l
def qFine : Qu → List QOp → Prop
  | _, [] => True
  | x, op :: l => qLegal x op ∧ x.cap ≤ 1073741824 ∧ x.max ≤ 1073741824 ∧ qFine (qStep x op).1 l
theorem qStep_fault (x : Qu) (op : QOp) : (qStep x op).2.fault = 0 ∨ (qStep x op).2.fault = 1 := by
  unfold qStep
  repeat' split
  all_goals first | exact .inl rfl | exact .inr rfl
/-- An answer as it lies in memory. -/
def ansCells (l : List (Value × QAns)) : List Value := (l.map fun p => [.int .i64 p.2.fault, .int .i64 p.2.number, p.1]).flatten
def ansRows (l : List (Value × QAns)) : List Res := l.map fun p => .row 5 1 p.1 p.2.data.length (u8s p.2.data)
def AnsV (w : World) (an : QAns) (cs : List Value) : Prop := ∃ oa c, cs = [.int .i64 an.fault, .int .i64 an.number, .slice oa an.data.length c] ∧ Src w 1 (.slice oa an.data.length c) an.data.length (u8s an.data) ∧ an.data.length ≤ c
theorem AnsV.on {w w' : World} {an : QAns} {cs : List Value} (h : AnsV w an cs) (C : Chg [] w w') : AnsV w' an cs := by
  obtain ⟨oa, c, h1, h2, h3⟩ := h
  exact ⟨oa, c, h1, h2.on C, h3⟩

theorem ans_arr {w : World} {v : Value} {done : List (Value × QAns)} (hrow : (Res.row 38 3 v done.length (ansCells done)).holds w) (hall : ∀ r ∈ ansRows done, r.holds w) : Arr AnsV 3 w v (done.map (·.2)) := by
  have hsh : ∀ p ∈ done, ∃ oa c, p.1 = .slice oa p.2.data.length c ∧ p.2.data.length ≤ c ∧ Src w 1 p.1 p.2.data.length (u8s p.2.data) := by
    intro p hp
    have hr := hall _ (List.mem_map_of_mem hp)
    obtain ⟨oa, c, h1, h2, _⟩ := row_shape (by decide) hr
    exact ⟨oa, c, h1, h2, Src.row hr (u8s_one _)⟩
  refine row_arr (css := done.map fun p => [.int .i64 p.2.fault, .int .i64 p.2.number, p.1]) (by decide) (by rw [List.length_map]; exact hrow) ?_ ?_
  · refine Each.of_get (by simp) fun i an cs h1 h2 => ?_
    rw [List.getElem?_map] at h1 h2
    cases hd : done[i]? with
    | none => rw [hd] at h1; cases h1
    | some p =>
      rw [hd] at h1 h2
      simp only [Option.map_some, Option.some.injEq] at h1 h2
      subst h1 h2
      obtain ⟨oa, c, h3, h4, h5⟩ := hsh p (List.mem_of_getElem? hd)
      rw [h3] at h5 ⊢
      exact ⟨⟨oa, c, rfl, h5, h4⟩, rfl⟩
  · intro cs hcs u hu
    obtain ⟨p, hp, rfl⟩ := List.mem_map.1 hcs
    obtain ⟨oa, c, h3, _, _⟩ := hsh p hp
    rw [h3] at hu
    simp at hu
    rcases hu with rfl | rfl | rfl <;> rfl

set_option maxHeartbeats 3200000 in
theorem queueRun (v : Value) (ops : List QOp) (cap max : Nat) (w : World) (h : Arr OpV 3 w v ops) (hk : ∀ op ∈ ops, op.kind ≤ 7) (hl : ops.length ≤ 400) (hb : total ops ≤ 262144) (hcap : cap ≤ 65536) (hmax : max ≤ 262144) (hf : qFine (Qu.fresh cap max) ops) :
    Calls Try.prog 16 #[.int .i64 cap, .int .i64 max, v] w fun e w' => ∃ ov, e = .returned (.tuple #[ov, .int .i64 0]) ∧ Arr AnsV 3 w' ov (qRun (Qu.fresh cap max) ops) ∧ Chg [] w w' := by
  have S := St.begin w
  obtain ⟨oa, c, rfl, hc⟩ := h.shape
  have hh := hidden h
  have hfine := hidden (fun (w' : World) (h' : Arr OpV 3 w' (.slice oa ops.length c) ops) => queueFine _ ops w' h' hk hl hb)
  replace hf := hidden hf
  clear h hk hb
  refine Calls.cps ?_; intro R hR
  go_enter Try.func16, Try.ntmps16
  go_wp2_with (first | go_big_skip | ((with_reducible show Code.wp _ (Code.region _ _ true) _ _ _); refine St.regionLast S ?_; (repeat (first | (go_big_quiet_step (fail)) | (go_big_quiet_want; (first | refine quiet_ld S ?_ | refine quiet_ld8 S ?_ | refine quiet_ld0 ?_ | refine quiet_ldA S ?_ | refine quiet_b2sB S ?_ | refine quiet_b2sR S ?_ | refine quiet_ldc S ?_); go_big_quiet_on))); refine wpQuiet_nil ?_; clear S; intro wq S) | go_big_skip | (refine wpList_ld S ?_) | (refine wpList_ld8 S ?_) | (refine wpList_ld0 ?_) | (refine wpList_ldA S ?_) | (refine wpList_st8 S ?_; (clear S; intro ws S)) | (refine wpList_st S ?_; (clear S; intro ws S)) | (refine wpList_box S ?_; (clear S; intro nb wb hnb S)) | (refine wpList_alloc S ?_; (clear S; intro nb wb hnb S)) | (refine wpList_mk8 S ?_; (clear S; intro nb wb hnb S)) | (refine wpList_mk S ?_; (clear S; intro nb wb hnb S)) | (refine wpList_bs S ?_; (clear S; intro nb wb hnb S)) | (refine wpList_stA S ?_; (clear S; intro ws S; simp only [splice, List.take_zero, List.take_succ_cons, List.drop_succ_cons, List.drop_zero, List.drop_nil, List.length_cons, List.length_nil, Nat.reduceAdd, Nat.zero_add, List.nil_append, List.cons_append, List.append_nil] at S)) | (refine wpList_b2sB S ?_) | (refine wpList_b2sR S ?_) | (refine wpList_ldc S ?_))
  refine Calls.mono (hfine.out _ (hh.out.on S.chg fun _ _ h => h.on S.chg)) ?_
  rintro e w2 ⟨rfl, C⟩
  have S2 := S.call C; clear S C; simp only [List.cons_append, List.nil_append] at S2; have S := S2; clear S2
  go_wp2_with (first | go_big_skip | ((with_reducible show Code.wp _ (Code.region _ _ true) _ _ _); refine St.regionLast S ?_; (repeat (first | (go_big_quiet_step (fail)) | (go_big_quiet_want; (first | refine quiet_ld S ?_ | refine quiet_ld8 S ?_ | refine quiet_ld0 ?_ | refine quiet_ldA S ?_ | refine quiet_b2sB S ?_ | refine quiet_b2sR S ?_ | refine quiet_ldc S ?_); go_big_quiet_on))); refine wpQuiet_nil ?_; clear S; intro wq S) | go_big_skip | (refine wpList_ld S ?_) | (refine wpList_ld8 S ?_) | (refine wpList_ld0 ?_) | (refine wpList_ldA S ?_) | (refine wpList_st8 S ?_; (clear S; intro ws S)) | (refine wpList_st S ?_; (clear S; intro ws S)) | (refine wpList_box S ?_; (clear S; intro nb wb hnb S)) | (refine wpList_alloc S ?_; (clear S; intro nb wb hnb S)) | (refine wpList_mk8 S ?_; (clear S; intro nb wb hnb S)) | (refine wpList_mk S ?_; (clear S; intro nb wb hnb S)) | (refine wpList_bs S ?_; (clear S; intro nb wb hnb S)) | (refine wpList_stA S ?_; (clear S; intro ws S; simp only [splice, List.take_zero, List.take_succ_cons, List.drop_succ_cons, List.drop_zero, List.drop_nil, List.length_cons, List.length_nil, Nat.reduceAdd, Nat.zero_add, List.nil_append, List.cons_append, List.append_nil] at S)) | (refine wpList_b2sB S ?_) | (refine wpList_b2sR S ?_) | (refine wpList_ldc S ?_))
  refine Calls.mono (newQueue cap max _ (by omega) (by omega)) ?_
  rintro e w3 ⟨q, m, hb, rfl, C⟩
  have S2 := S.call C; clear S C; simp only [List.cons_append, List.nil_append] at S2; have S := S2; clear S2
  have S := S.nilRow 38 3
  go_wp2_with (first | go_big_skip | ((with_reducible show Code.wp _ (Code.region _ _ true) _ _ _); refine St.regionLast S ?_; (repeat (first | (go_big_quiet_step (fail)) | (go_big_quiet_want; (first | refine quiet_ld S ?_ | refine quiet_ld8 S ?_ | refine quiet_ld0 ?_ | refine quiet_ldA S ?_ | refine quiet_b2sB S ?_ | refine quiet_b2sR S ?_ | refine quiet_ldc S ?_); go_big_quiet_on))); refine wpQuiet_nil ?_; clear S; intro wq S) | go_big_skip | (refine wpList_ld S ?_) | (refine wpList_ld8 S ?_) | (refine wpList_ld0 ?_) | (refine wpList_ldA S ?_) | (refine wpList_st8 S ?_; (clear S; intro ws S)) | (refine wpList_st S ?_; (clear S; intro ws S)) | (refine wpList_box S ?_; (clear S; intro nb wb hnb S)) | (refine wpList_alloc S ?_; (clear S; intro nb wb hnb S)) | (refine wpList_mk8 S ?_; (clear S; intro nb wb hnb S)) | (refine wpList_mk S ?_; (clear S; intro nb wb hnb S)) | (refine wpList_bs S ?_; (clear S; intro nb wb hnb S)) | (refine wpList_stA S ?_; (clear S; intro ws S; simp only [splice, List.take_zero, List.take_succ_cons, List.drop_succ_cons, List.drop_zero, List.drop_nil, List.length_cons, List.length_nil, Nat.reduceAdd, Nat.zero_add, List.nil_append, List.cons_append, List.append_nil] at S)) | (refine wpList_b2sB S ?_) | (refine wpList_b2sR S ?_) | (refine wpList_ldc S ?_))
  go_loopg [6, 10, 11, 36] ops.length (fun g out xp ap i wr => ∃ (k : Nat) (done : List (Value × QAns)) (x : Qu) (m' : Nat) (arr sl hd : List UInt8), Hid (k + g = ops.length) ∧ i = .int .i64 k ∧ k ≤ ops.length ∧ done.length = k ∧
    Hid (qRun (Qu.fresh cap max) ops = done.map (·.2) ++ qRun x (ops.drop k)) ∧ Hid (qFine x (ops.drop k)) ∧ Hid (hd.length = 5 ∧ x.Rep arr) ∧ St w [] wr (.row 38 3 out k (ansCells done) :: qHead q m' hb x.full arr sl x.cap x.max x.head x.tail x.count x.right :: qBlk m' arr sl :: .blk hb (.cells (u8s hd).toArray 5 (0, 0)) :: ansRows done))
  case atStart => exact ⟨0, [], Qu.fresh cap max, m, _, [], List.replicate 5 0, hidden (by omega), rfl, Nat.zero_le _, rfl, hidden (by rw [List.drop_zero]; rfl), by rw [List.drop_zero]; exact hf, hidden ⟨by simp, fresh_rep cap max⟩, S.sel (by repeat (first | exact Sel.nil | (apply Sel.cons; (repeat (first | exact Pull.head | apply Pull.tail)))))⟩
  case round =>
    obtain ⟨k, done, x, m', arr, sl, hd, hg, rfl, hkn, hdl, hrun, hfx, hrep, S⟩ := hrel
    by_cases hlt : k < ops.length
    · obtain ⟨ad, rfl⟩ := hh.out.some (by decide) (by omega)
      have hop : ops[k]? = some ops[k] := List.getElem?_eq_getElem hlt
      have hdrop : ops.drop k = ops[k] :: ops.drop (k + 1) := List.drop_eq_getElem_cons hlt
      obtain ⟨cs, ⟨oa', n', c', rfl, hs', hc'⟩, hl3, hcell⟩ := hh.out.get k _ hop
      have hfx1 := hfx.out
      have hrun1 := hrun.out
      rw [hdrop] at hfx1 hrun1
      generalize ops[k] = op at *
      replace hcell := hidden hcell
      replace hop := hidden hop
      replace hdrop := hidden hdrop
      obtain ⟨f1, f2, f3, f4⟩ := hfx1
      replace hs' := hidden hs'
      replace hrun1 := hidden hrun1
      replace f4 := hidden f4
      clear hfx hrun hl3
      go_wp2_with (first | (refine wpList_ldAc S ?_ (by rfl) hcell.out) | go_big_skip | (refine wpList_ld S ?_) | (refine wpList_ld8 S ?_) | (refine wpList_ld0 ?_) | (refine wpList_ldA S ?_) | (refine wpList_st8 S ?_; (clear S; intro ws S)) | (refine wpList_st S ?_; (clear S; intro ws S)) | (refine wpList_box S ?_; (clear S; intro nb wb hnb S)) | (refine wpList_alloc S ?_; (clear S; intro nb wb hnb S)) | (refine wpList_mk8 S ?_; (clear S; intro nb wb hnb S)) | (refine wpList_mk S ?_; (clear S; intro nb wb hnb S)) | (refine wpList_bs S ?_; (clear S; intro nb wb hnb S)) | (refine wpList_stA S ?_; (clear S; intro ws S; simp only [splice, List.take_zero, List.take_succ_cons, List.drop_succ_cons, List.drop_zero, List.drop_nil, List.length_cons, List.length_nil, Nat.reduceAdd, Nat.zero_add, List.nil_append, List.cons_append, List.append_nil] at S)) | (refine wpList_b2sB S ?_) | (refine wpList_b2sR S ?_) | (refine wpList_ldc S ?_))
      refine Calls.mono (queueDo q m' hb x arr sl hd n' c' oa' op _ S.sel3 hrep.out.1 hrep.out.2 (hs'.out.on S.chg) (S.off hs'.out) hc' f2 f3 f1) ?_
      rintro e w4 ⟨dv, m2, arr2, sl2, h2, rfl, hh2, hr2, C⟩
      have S2 := S.call C; clear S C; simp only [List.cons_append, List.nil_append] at S2; have S := S2; clear S2
      generalize hst : qStep x op = st at *
      obtain ⟨x2, an⟩ := st
      simp only at *
      have hfz : (an.fault == 2) = false := by
        have := qStep_fault x op
        rw [hst] at this
        simp only at this
        rcases this with h | h <;> rw [h] <;> rfl
      replace hst := hidden hst
      obtain ⟨a3, c3, rfl, hc3, hc4⟩ := S.rowSlice (hp := Pull.head)
      go_wp2_with (first | (refine wpList_appB S ?_; (clear S; intro va wa hva S)) | ((with_reducible show Code.wp _ (Code.region _ _ true) _ _ _); refine St.regionLast S ?_; (repeat (first | (go_big_quiet_step (fail)) | (go_big_quiet_want; (first | refine quiet_ld S ?_ | refine quiet_ld8 S ?_ | refine quiet_ld0 ?_ | refine quiet_ldA S ?_ | refine quiet_b2sB S ?_ | refine quiet_b2sR S ?_ | refine quiet_ldc S ?_); go_big_quiet_on))); refine wpQuiet_nil ?_; clear S; intro wq S) | go_big_skip | (refine wpList_ld S ?_) | (refine wpList_ld8 S ?_) | (refine wpList_ld0 ?_) | (refine wpList_ldA S ?_) | (refine wpList_st8 S ?_; (clear S; intro ws S)) | (refine wpList_st S ?_; (clear S; intro ws S)) | (refine wpList_box S ?_; (clear S; intro nb wb hnb S)) | (refine wpList_alloc S ?_; (clear S; intro nb wb hnb S)) | (refine wpList_mk8 S ?_; (clear S; intro nb wb hnb S)) | (refine wpList_mk S ?_; (clear S; intro nb wb hnb S)) | (refine wpList_bs S ?_; (clear S; intro nb wb hnb S)) | (refine wpList_stA S ?_; (clear S; intro ws S; simp only [splice, List.take_zero, List.take_succ_cons, List.drop_succ_cons, List.drop_zero, List.drop_nil, List.length_cons, List.length_nil, Nat.reduceAdd, Nat.zero_add, List.nil_append, List.cons_append, List.append_nil] at S)) | (refine wpList_b2sB S ?_) | (refine wpList_b2sR S ?_) | (refine wpList_ldc S ?_))
      go_roundg (gk - 1)
      case measure => have := hg.out; omega
      case rel =>
        refine ⟨k + 1, done ++ [(.slice a3 an.data.length c3, an)], x2, m2, arr2, sl2, h2, hidden (by have := hg.out; omega), by go_num, by omega, by simp [hdl], hidden ?_, f4, hidden ⟨hh2, hr2⟩, ?_⟩
        · rw [hrun1.out]
          show _ ++ ((qStep x op).2 :: qRun (qStep x op).1 _) = _
          rw [hst.out]; simp
        · have e1 : ansCells (done ++ [(.slice a3 an.data.length c3, an)]) = ansCells done ++ [.int .i64 an.fault, .int .i64 an.number, .slice a3 an.data.length c3] := by simp [ansCells]
          have e2 : ansRows (done ++ [(.slice a3 an.data.length c3, an)]) = ansRows done ++ [.row 5 1 (.slice a3 an.data.length c3) an.data.length (u8s an.data)] := by simp [ansRows]
          rw [e1, e2]
          have S2 : St w [] wa (.row 38 3 va (k + 1) (ansCells done ++ [.int .i64 an.fault, .int .i64 an.number, .slice a3 an.data.length c3]) :: qHead q m2 hb x2.full arr2 sl2 x2.cap x2.max x2.head x2.tail x2.count x2.right :: qBlk m2 arr2 sl2 :: .blk hb (.cells (u8s h2).toArray 5 (0, 0)) :: .row 5 1 (.slice a3 an.data.length c3) an.data.length (u8s an.data) :: ansRows done) := (S.selT (by repeat (first | (apply SelT.nil; (repeat (first | exact Suf.refl | apply Suf.cons)); done) | (apply SelT.cons; (repeat (first | exact Pull.head | apply Pull.tail))))))
          exact S2.perm (.cons _ (.cons _ (.cons _ (.cons _ (List.perm_append_singleton _ _).symm))))
    · have hkl : k = ops.length := by omega
      replace hkl := hidden hkl
      go_wp2_with (first | go_big_skip | ((with_reducible show Code.wp _ (Code.region _ _ true) _ _ _); refine St.regionLast S ?_; (repeat (first | (go_big_quiet_step (fail)) | (go_big_quiet_want; (first | refine quiet_ld S ?_ | refine quiet_ld8 S ?_ | refine quiet_ld0 ?_ | refine quiet_ldA S ?_ | refine quiet_b2sB S ?_ | refine quiet_b2sR S ?_ | refine quiet_ldc S ?_); go_big_quiet_on))); refine wpQuiet_nil ?_; clear S; intro wq S) | go_big_skip | (refine wpList_ld S ?_) | (refine wpList_ld8 S ?_) | (refine wpList_ld0 ?_) | (refine wpList_ldA S ?_) | (refine wpList_st8 S ?_; (clear S; intro ws S)) | (refine wpList_st S ?_; (clear S; intro ws S)) | (refine wpList_box S ?_; (clear S; intro nb wb hnb S)) | (refine wpList_alloc S ?_; (clear S; intro nb wb hnb S)) | (refine wpList_mk8 S ?_; (clear S; intro nb wb hnb S)) | (refine wpList_mk S ?_; (clear S; intro nb wb hnb S)) | (refine wpList_bs S ?_; (clear S; intro nb wb hnb S)) | (refine wpList_stA S ?_; (clear S; intro ws S; simp only [splice, List.take_zero, List.take_succ_cons, List.drop_succ_cons, List.drop_zero, List.drop_nil, List.length_cons, List.length_nil, Nat.reduceAdd, Nat.zero_add, List.nil_append, List.cons_append, List.append_nil] at S)) | (refine wpList_b2sB S ?_) | (refine wpList_b2sR S ?_) | (refine wpList_ldc S ?_))
      ((first | go_ret | go_ret2 | go_ret3 | go_end0 | skip); refine hR.out _ _ ?_)
      refine ⟨_, rfl, ?_, S.chg⟩
      have e : qRun (Qu.fresh cap max) ops = done.map (·.2) := by
        rw [hrun.out, hkl.out, List.drop_length]; simp [qRun]
      rw [e]
      refine ans_arr (by rw [hdl]; exact S.mem.2 _ List.mem_cons_self) fun r hr => S.mem.2 r ?_
      exact List.mem_cons_of_mem _ (List.mem_cons_of_mem _ (List.mem_cons_of_mem _ (List.mem_cons_of_mem _ hr)))
end Go.Proofs.Ytkfkcinkkgdebaa
