/- A script of a ring buffer. -/
import Derived.Test.YtbklhnpnkinadaaDoorRk
namespace Go.Proofs.YtbklhnpnkinadaaDoor
open Go Go.RowKit Go.Vil
set_option linter.unusedSimpArgs false
set_option linter.unusedVariables false
set_option maxRecDepth 100000

/-- An operation of a ring buffer. -/
theorem ringDo (q m : Nat) (r : Ri) (sl : List UInt8) (n c : Nat) (oa : Option Addr) (op : Ri.ROp) (ev0 ev1 : Value) (w : World)
    (hM : Mem w (rMem q m 85 r sl [])) (hs : Src w 1 (.slice oa n c) n (u8s op.data)) (hd : Off oa [q, m] (u8s op.data)) (hc : n ≤ c) (hE : Errs w [q, m] ev0 ev1) (hl : r.Legal op) :
    Calls Tryd.prog 35 #[.pointer (some ⟨q, 0, none⟩), .agg #[.int .i64 op.kind, .slice oa n c, .int .i64 op.off, .int .i64 op.len]] w (RDoEnd q m w (r.step op)) := by
  obtain ⟨k, xs, off, len⟩ := op
  simp only at *
  obtain rfl := hs.len8
  have hk := hl.kind
  simp only at hk
  obtain ⟨hk0, hk9⟩ := hk
  obtain ⟨i, rfl⟩ : ∃ i : Nat, k = i := ⟨k.toNat, by omega⟩
  match i, hk9 with
  | 0, _ => exact rDo0 q m r sl xs c oa off len ev0 ev1 w hM hs hd hc hE hl
  | 1, _ => exact rDo1 q m r sl xs c oa off len ev0 ev1 w hM hs hd hc hE hl
  | 2, _ => exact rDo2 q m r sl xs c oa off len ev0 ev1 w hM hs hd hc hE hl
  | 3, _ => exact rDo3 q m r sl xs c oa off len ev0 ev1 w hM hs hd hc hE hl
  | 4, _ => exact rDo4 q m r sl xs c oa off len ev0 ev1 w hM hs hd hc hE hl
  | 5, _ => exact rDo5 q m r sl xs c oa off len ev0 ev1 w hM hs hd hc hE hl
  | 6, _ => exact rDo6 q m r sl xs c oa off len ev0 ev1 w hM hs hd hc hE hl
  | 7, _ => exact rDo7 q m r sl xs c oa off len ev0 ev1 w hM hs hd hc hE hl
  | 8, _ => exact rDo8 q m r sl xs c oa off len ev0 ev1 w hM hs hd hc hE hl
  | 9, _ => exact rDo9 q m r sl xs c oa off len ev0 ev1 w hM hs hd hc hE hl
  | 10, _ => exact rDo10 q m r sl xs c oa off len ev0 ev1 w hM hs hd hc hE hl
  | n + 11, h => omega

/-- An operation as it lies in memory. -/
def ROpV (w : World) (op : Ri.ROp) (cs : List Value) : Prop := ∃ oa n c, cs = [.int .i64 op.kind, .slice oa n c, .int .i64 op.off, .int .i64 op.len] ∧ Src w 1 (.slice oa n c) n (u8s op.data) ∧ n ≤ c
theorem ROpV.on {w w' : World} {op : Ri.ROp} {cs : List Value} (h : ROpV w op cs) (C : Chg [] w w') : ROpV w' op cs := by
  obtain ⟨oa, n, c, h1, h2, h3⟩ := h
  exact ⟨oa, n, c, h1, h2.on C, h3⟩
def rtotal (l : List Ri.ROp) : Nat := (l.map fun op => op.data.length).sum
theorem rtotal_take (l : List Ri.ROp) (k : Nat) (op : Ri.ROp) (h : l[k]? = some op) : rtotal (l.take (k + 1)) = rtotal (l.take k) + op.data.length := by
  unfold rtotal
  rw [List.take_add_one, h]; simp
theorem rtotal_take_le (l : List Ri.ROp) (k : Nat) : rtotal (l.take k) ≤ rtotal l := by
  have := List.take_append_drop k l
  have h2 : rtotal l = rtotal (l.take k) + rtotal (l.drop k) := by
    unfold rtotal
    rw [← List.sum_append, ← List.map_append, this]
  omega
/-- An operation within the bounds of the thin package. -/
def ROk (op : Ri.ROp) : Prop := 0 ≤ op.len ∧ op.len ≤ 65536 ∧ (op.kind = 6 → 1 ≤ op.len) ∧ -1099511627776 ≤ op.off ∧ op.off ≤ 2199023255552

set_option maxHeartbeats 800000 in
theorem ringFine (v : Value) (ops : List Ri.ROp) (w : World) (h : Arr ROpV 4 w v ops) (hk : ∀ op ∈ ops, ROk op) (hl : ops.length ≤ 400) (hb : rtotal ops ≤ 262144) :
    Calls Tryd.prog 33 #[v] w fun e w' => e = .returned (.bool true) ∧ St w [] w' [] := by
  have S := St.begin w
  obtain ⟨oa, c, rfl, hc⟩ := h.shape
  have hh := hidden h
  replace hk := hidden hk
  clear h
  refine Calls.cps ?_; intro R hR
  go_enter Tryd.func33, Tryd.ntmps33
  go_wp2_with (first | go_big_skip | ((with_reducible show Code.wp _ (Code.region _ _ true) _ _ _); refine St.regionLast S ?_; (repeat (first | (go_big_quiet_step (fail)) | (go_big_quiet_want; (first | refine quiet_ld S ?_ | refine quiet_ld8 S ?_ | refine quiet_ld0 ?_ | refine quiet_ldA S ?_ | refine quiet_b2sB S ?_ | refine quiet_b2sR S ?_ | refine quiet_ldc S ?_); go_big_quiet_on))); refine wpQuiet_nil ?_; clear S; intro wq S) | go_big_skip | (refine wpList_ld S ?_) | (refine wpList_ld8 S ?_) | (refine wpList_ld0 ?_) | (refine wpList_ldA S ?_) | (refine wpList_st8 S ?_; (clear S; intro ws S)) | (refine wpList_st S ?_; (clear S; intro ws S)) | (refine wpList_box S ?_; (clear S; intro nb wb hnb S)) | (refine wpList_alloc S ?_; (clear S; intro nb wb hnb S)) | (refine wpList_mk8 S ?_; (clear S; intro nb wb hnb S)) | (refine wpList_mk S ?_; (clear S; intro nb wb hnb S)) | (refine wpList_bs S ?_; (clear S; intro nb wb hnb S)) | (refine wpList_stA S ?_; (clear S; intro ws S; simp only [splice, List.take_zero, List.take_succ_cons, List.drop_succ_cons, List.drop_zero, List.drop_nil, List.length_cons, List.length_nil, Nat.reduceAdd, Nat.zero_add, List.nil_append, List.cons_append, List.append_nil] at S)) | (refine wpList_b2sB S ?_) | (refine wpList_b2sR S ?_) | (refine wpList_ldc S ?_))
  go_loopg [3, 5, 8] ops.length (fun g by' x i wr => ∃ k : Nat, Hid (k + g = ops.length) ∧ i = .int .i64 k ∧ by' = .int .i64 (rtotal (ops.take k)) ∧ k ≤ ops.length ∧ rtotal (ops.take k) ≤ 262144 ∧ St w [] wr [])
  case atStart => exact ⟨0, hidden (by omega), rfl, rfl, Nat.zero_le _, by simp [rtotal], S⟩
  case round =>
    obtain ⟨k, hg, rfl, rfl, hkn, htk, S⟩ := hrel
    by_cases hlt : k < ops.length
    · obtain ⟨ad, rfl⟩ := hh.out.some (by decide) (by omega)
      have hop : ops[k]? = some ops[k] := List.getElem?_eq_getElem hlt
      obtain ⟨k1, k2, k3, k4, k5⟩ := hk.out ops[k] (List.getElem_mem hlt)
      have ht1 := rtotal_take ops k _ hop
      have ht2 := rtotal_take_le ops (k + 1)
      obtain ⟨cs, ⟨oa', n', c', rfl, hs', hc'⟩, hl3, hcell⟩ := hh.out.get k _ hop
      have hln := hs'.len8
      generalize ops[k] = op at *
      replace hcell := hidden hcell
      replace hop := hidden hop
      replace hln := hidden hln
      replace ht1 := hidden ht1
      have hn262 : n' ≤ 262144 := by have := ht1.out; have := hln.out; omega
      have hn263 : rtotal (ops.take k) + n' ≤ 262144 := by have := ht1.out; have := hln.out; omega
      have hb1 : decide (op.len < 0) = false := decide_eq_false (by omega)
      have hb2 : decide (65536 < op.len) = false := decide_eq_false (by omega)
      have hb3 : decide (op.off < -1099511627776) = false := decide_eq_false (by omega)
      have hb4 : decide (2199023255552 < op.off) = false := decide_eq_false (by omega)
      clear hs' hl3
      by_cases h6 : op.kind = 6
      · have hb6 : (op.kind == 6) = true := by simp [h6]
        have hb7 : decide (op.len < 1) = false := decide_eq_false (by have := k3 h6; omega)
        replace h6 := hidden h6
        replace k3 := hidden k3
        go_wp2_with (first | go_big_skip | (refine wpList_ldAc S ?_ (by rfl) hcell.out) | go_big_skip | (refine wpList_ld S ?_) | (refine wpList_ld8 S ?_) | (refine wpList_ld0 ?_) | (refine wpList_ldA S ?_) | (refine wpList_st8 S ?_; (clear S; intro ws S)) | (refine wpList_st S ?_; (clear S; intro ws S)) | (refine wpList_box S ?_; (clear S; intro nb wb hnb S)) | (refine wpList_alloc S ?_; (clear S; intro nb wb hnb S)) | (refine wpList_mk8 S ?_; (clear S; intro nb wb hnb S)) | (refine wpList_mk S ?_; (clear S; intro nb wb hnb S)) | (refine wpList_bs S ?_; (clear S; intro nb wb hnb S)) | (refine wpList_stA S ?_; (clear S; intro ws S; simp only [splice, List.take_zero, List.take_succ_cons, List.drop_succ_cons, List.drop_zero, List.drop_nil, List.length_cons, List.length_nil, Nat.reduceAdd, Nat.zero_add, List.nil_append, List.cons_append, List.append_nil] at S)) | (refine wpList_b2sB S ?_) | (refine wpList_b2sR S ?_) | (refine wpList_ldc S ?_))
        go_roundg (gk - 1)
        case measure => have := hg.out; omega
        case rel =>
          have h5 := ht1.out
          have h6 := hln.out
          exact ⟨k + 1, hidden (by have := hg.out; omega), by go_num, by rw [h5, h6]; go_num, by omega, by omega, S.sel (by repeat (first | exact Sel.nil | (apply Sel.cons; (repeat (first | exact Pull.head | apply Pull.tail)))))⟩
      · have hb6 : (op.kind == 6) = false := by simp [h6]
        replace h6 := hidden h6
        replace k3 := hidden k3
        go_wp2_with (first | go_big_skip | (refine wpList_ldAc S ?_ (by rfl) hcell.out) | go_big_skip | (refine wpList_ld S ?_) | (refine wpList_ld8 S ?_) | (refine wpList_ld0 ?_) | (refine wpList_ldA S ?_) | (refine wpList_st8 S ?_; (clear S; intro ws S)) | (refine wpList_st S ?_; (clear S; intro ws S)) | (refine wpList_box S ?_; (clear S; intro nb wb hnb S)) | (refine wpList_alloc S ?_; (clear S; intro nb wb hnb S)) | (refine wpList_mk8 S ?_; (clear S; intro nb wb hnb S)) | (refine wpList_mk S ?_; (clear S; intro nb wb hnb S)) | (refine wpList_bs S ?_; (clear S; intro nb wb hnb S)) | (refine wpList_stA S ?_; (clear S; intro ws S; simp only [splice, List.take_zero, List.take_succ_cons, List.drop_succ_cons, List.drop_zero, List.drop_nil, List.length_cons, List.length_nil, Nat.reduceAdd, Nat.zero_add, List.nil_append, List.cons_append, List.append_nil] at S)) | (refine wpList_b2sB S ?_) | (refine wpList_b2sR S ?_) | (refine wpList_ldc S ?_))
        go_roundg (gk - 1)
        case measure => have := hg.out; omega
        case rel =>
          have h5 := ht1.out
          have h6 := hln.out
          exact ⟨k + 1, hidden (by have := hg.out; omega), by go_num, by rw [h5, h6]; go_num, by omega, by omega, S.sel (by repeat (first | exact Sel.nil | (apply Sel.cons; (repeat (first | exact Pull.head | apply Pull.tail)))))⟩
    · have hkl : k = ops.length := by omega
      have hb1 : decide ((ops.length : Int) ≤ 400) = true := decide_eq_true (by omega)
      have hb2 : decide ((rtotal (ops.take k) : Int) ≤ 262144) = true := decide_eq_true (by omega)
      replace hkl := hidden hkl
      go_wp2_with (first | go_big_skip | ((with_reducible show Code.wp _ (Code.region _ _ true) _ _ _); refine St.regionLast S ?_; (repeat (first | (go_big_quiet_step (fail)) | (go_big_quiet_want; (first | refine quiet_ld S ?_ | refine quiet_ld8 S ?_ | refine quiet_ld0 ?_ | refine quiet_ldA S ?_ | refine quiet_b2sB S ?_ | refine quiet_b2sR S ?_ | refine quiet_ldc S ?_); go_big_quiet_on))); refine wpQuiet_nil ?_; clear S; intro wq S) | go_big_skip | (refine wpList_ld S ?_) | (refine wpList_ld8 S ?_) | (refine wpList_ld0 ?_) | (refine wpList_ldA S ?_) | (refine wpList_st8 S ?_; (clear S; intro ws S)) | (refine wpList_st S ?_; (clear S; intro ws S)) | (refine wpList_box S ?_; (clear S; intro nb wb hnb S)) | (refine wpList_alloc S ?_; (clear S; intro nb wb hnb S)) | (refine wpList_mk8 S ?_; (clear S; intro nb wb hnb S)) | (refine wpList_mk S ?_; (clear S; intro nb wb hnb S)) | (refine wpList_bs S ?_; (clear S; intro nb wb hnb S)) | (refine wpList_stA S ?_; (clear S; intro ws S; simp only [splice, List.take_zero, List.take_succ_cons, List.drop_succ_cons, List.drop_zero, List.drop_nil, List.length_cons, List.length_nil, Nat.reduceAdd, Nat.zero_add, List.nil_append, List.cons_append, List.append_nil] at S)) | (refine wpList_b2sB S ?_) | (refine wpList_b2sR S ?_) | (refine wpList_ldc S ?_))
      ((first | go_ret | go_ret2 | go_ret3 | go_end0 | skip); refine hR.out _ _ ?_)
      exact ⟨rfl, S.sel (by repeat (first | exact Sel.nil | (apply Sel.cons; (repeat (first | exact Pull.head | apply Pull.tail)))))⟩

/-- An answer as it lies in memory. -/
def ransCells (l : List (Value × Ri.RAns)) : List Value := (l.map fun p => [.int .i64 p.2.fault, .int .i64 p.2.n, .int .i64 p.2.m, .int .i64 p.2.len, p.1, .bool p.2.is]).flatten
def ransRows (l : List (Value × Ri.RAns)) : List Res := l.map fun p => .row 5 1 p.1 p.2.data.length (u8s p.2.data)
def RAnsV (w : World) (an : Ri.RAns) (cs : List Value) : Prop := ∃ oa c, cs = [.int .i64 an.fault, .int .i64 an.n, .int .i64 an.m, .int .i64 an.len, .slice oa an.data.length c, .bool an.is] ∧ Src w 1 (.slice oa an.data.length c) an.data.length (u8s an.data) ∧ an.data.length ≤ c
theorem RAnsV.on {w w' : World} {an : Ri.RAns} {cs : List Value} (h : RAnsV w an cs) (C : Chg [] w w') : RAnsV w' an cs := by
  obtain ⟨oa, c, h1, h2, h3⟩ := h
  exact ⟨oa, c, h1, h2.on C, h3⟩
theorem rans_arr {w : World} {v : Value} {done : List (Value × Ri.RAns)} (hrow : (Res.row 34 6 v done.length (ransCells done)).holds w) (hall : ∀ r ∈ ransRows done, r.holds w) : Arr RAnsV 6 w v (done.map (·.2)) := by
  have hsh : ∀ p ∈ done, ∃ oa c, p.1 = .slice oa p.2.data.length c ∧ p.2.data.length ≤ c ∧ Src w 1 p.1 p.2.data.length (u8s p.2.data) := by
    intro p hp
    have hr := hall _ (List.mem_map_of_mem hp)
    obtain ⟨oa, c, h1, h2, _⟩ := row_shape (by decide) hr
    exact ⟨oa, c, h1, h2, Src.row hr (u8s_one _)⟩
  refine row_arr (css := done.map fun p => [.int .i64 p.2.fault, .int .i64 p.2.n, .int .i64 p.2.m, .int .i64 p.2.len, p.1, .bool p.2.is]) (by decide) (by rw [List.length_map]; exact hrow) ?_ ?_
  · refine Each.of_get (by simp) fun i an cs h1 h2 => ?_
    rw [List.getElem?_map] at h1 h2
    cases hd : done[i]? with
    | none => rw [hd] at h1; cases h1
    | some p =>
      rw [hd] at h1 h2
      simp only [Option.map_some, Option.some.injEq] at h1 h2
      subst h1 h2
      obtain ⟨oa, c, h3, h4, h5⟩ := hsh p (List.mem_of_getElem? hd)
      rw [h3] at h5 ⊢
      exact ⟨⟨oa, c, rfl, h5, h4⟩, rfl⟩
  · intro cs hcs u hu
    obtain ⟨p, hp, rfl⟩ := List.mem_map.1 hcs
    obtain ⟨oa, c, h3, _, _⟩ := hsh p hp
    rw [h3] at hu
    simp at hu
    rcases hu with rfl | rfl | rfl | rfl | rfl | rfl <;> rfl

set_option maxHeartbeats 3200000 in
theorem ringRunR (v : Value) (ops : List Ri.ROp) (size b : Nat) (ev0 ev1 : Value) (w : World) (h : Arr ROpV 4 w v ops) (hk : ∀ op ∈ ops, ROk op) (hl : ops.length ≤ 400) (hb : rtotal ops ≤ 262144) (hs1 : 1 ≤ size) (hs : size ≤ 65536) (hb' : b ≤ 1099511627776) (hE : Errs w [] ev0 ev1) (hf : (Ri.fresh size b).Fine ops) :
    Calls Tryd.prog 20 #[.int .i64 size, .int .i64 b, v] w fun e w' => ∃ ov done, e = .returned (.tuple #[ov, .int .i64 0]) ∧ (Ri.fresh size b).run ops = done.map (·.2) ∧ St w [] w' (.row 34 6 ov done.length (ransCells done) :: ransRows done) := by
  have S := St.begin w
  obtain ⟨oa, c, rfl, hc⟩ := h.shape
  have hh := hidden h
  have hfine := hidden (fun (w' : World) (h' : Arr ROpV 4 w' (.slice oa ops.length c) ops) => ringFine _ ops w' h' hk hl hb)
  replace hf := hidden hf
  replace hE := hidden hE
  clear h hk hb
  have hb1 : decide ((size : Int) < 1) = false := decide_eq_false (by omega)
  have hb2 : decide ((65536 : Int) < (size : Int)) = false := decide_eq_false (by omega)
  have hb4 : decide ((1099511627776 : Int) < (b : Int)) = false := decide_eq_false (by omega)
  refine Calls.cps ?_; intro R hR
  go_enter Tryd.func20, Tryd.ntmps20
  go_wp2_with (first | go_big_skip | ((with_reducible show Code.wp _ (Code.region _ _ true) _ _ _); refine St.regionLast S ?_; (repeat (first | (go_big_quiet_step (fail)) | (go_big_quiet_want; (first | refine quiet_ld S ?_ | refine quiet_ld8 S ?_ | refine quiet_ld0 ?_ | refine quiet_ldA S ?_ | refine quiet_b2sB S ?_ | refine quiet_b2sR S ?_ | refine quiet_ldc S ?_); go_big_quiet_on))); refine wpQuiet_nil ?_; clear S; intro wq S) | go_big_skip | (refine wpList_ld S ?_) | (refine wpList_ld8 S ?_) | (refine wpList_ld0 ?_) | (refine wpList_ldA S ?_) | (refine wpList_st8 S ?_; (clear S; intro ws S)) | (refine wpList_st S ?_; (clear S; intro ws S)) | (refine wpList_box S ?_; (clear S; intro nb wb hnb S)) | (refine wpList_alloc S ?_; (clear S; intro nb wb hnb S)) | (refine wpList_mk8 S ?_; (clear S; intro nb wb hnb S)) | (refine wpList_mk S ?_; (clear S; intro nb wb hnb S)) | (refine wpList_bs S ?_; (clear S; intro nb wb hnb S)) | (refine wpList_stA S ?_; (clear S; intro ws S; simp only [splice, List.take_zero, List.take_succ_cons, List.drop_succ_cons, List.drop_zero, List.drop_nil, List.length_cons, List.length_nil, Nat.reduceAdd, Nat.zero_add, List.nil_append, List.cons_append, List.append_nil] at S)) | (refine wpList_b2sB S ?_) | (refine wpList_b2sR S ?_) | (refine wpList_ldc S ?_))
  refine Calls.mono (hfine.out _ (hh.out.on S.chg fun _ _ h => h.on S.chg)) ?_
  rintro e w2 ⟨rfl, C⟩
  have S2 := S.call C; clear S C; simp only [List.cons_append, List.nil_append] at S2; have S := S2; clear S2
  go_wp2_with (first | go_big_skip | ((with_reducible show Code.wp _ (Code.region _ _ true) _ _ _); refine St.regionLast S ?_; (repeat (first | (go_big_quiet_step (fail)) | (go_big_quiet_want; (first | refine quiet_ld S ?_ | refine quiet_ld8 S ?_ | refine quiet_ld0 ?_ | refine quiet_ldA S ?_ | refine quiet_b2sB S ?_ | refine quiet_b2sR S ?_ | refine quiet_ldc S ?_); go_big_quiet_on))); refine wpQuiet_nil ?_; clear S; intro wq S) | go_big_skip | (refine wpList_ld S ?_) | (refine wpList_ld8 S ?_) | (refine wpList_ld0 ?_) | (refine wpList_ldA S ?_) | (refine wpList_st8 S ?_; (clear S; intro ws S)) | (refine wpList_st S ?_; (clear S; intro ws S)) | (refine wpList_box S ?_; (clear S; intro nb wb hnb S)) | (refine wpList_alloc S ?_; (clear S; intro nb wb hnb S)) | (refine wpList_mk8 S ?_; (clear S; intro nb wb hnb S)) | (refine wpList_mk S ?_; (clear S; intro nb wb hnb S)) | (refine wpList_bs S ?_; (clear S; intro nb wb hnb S)) | (refine wpList_stA S ?_; (clear S; intro ws S; simp only [splice, List.take_zero, List.take_succ_cons, List.drop_succ_cons, List.drop_zero, List.drop_nil, List.length_cons, List.length_nil, Nat.reduceAdd, Nat.zero_add, List.nil_append, List.cons_append, List.append_nil] at S)) | (refine wpList_b2sB S ?_) | (refine wpList_b2sR S ?_) | (refine wpList_ldc S ?_))
  refine Calls.mono (newRing size b _ (by omega)) ?_
  rintro e w3 ⟨m, rfl, C⟩
  have S2 := S.call C; clear S C; simp only [List.cons_append, List.nil_append] at S2; have S := S2; clear S2
  have S := S.nilRow 34 6
  go_wp2_with (first | go_big_skip | ((with_reducible show Code.wp _ (Code.region _ _ true) _ _ _); refine St.regionLast S ?_; (repeat (first | (go_big_quiet_step (fail)) | (go_big_quiet_want; (first | refine quiet_ld S ?_ | refine quiet_ld8 S ?_ | refine quiet_ld0 ?_ | refine quiet_ldA S ?_ | refine quiet_b2sB S ?_ | refine quiet_b2sR S ?_ | refine quiet_ldc S ?_); go_big_quiet_on))); refine wpQuiet_nil ?_; clear S; intro wq S) | go_big_skip | (refine wpList_ld S ?_) | (refine wpList_ld8 S ?_) | (refine wpList_ld0 ?_) | (refine wpList_ldA S ?_) | (refine wpList_st8 S ?_; (clear S; intro ws S)) | (refine wpList_st S ?_; (clear S; intro ws S)) | (refine wpList_box S ?_; (clear S; intro nb wb hnb S)) | (refine wpList_alloc S ?_; (clear S; intro nb wb hnb S)) | (refine wpList_mk8 S ?_; (clear S; intro nb wb hnb S)) | (refine wpList_mk S ?_; (clear S; intro nb wb hnb S)) | (refine wpList_bs S ?_; (clear S; intro nb wb hnb S)) | (refine wpList_stA S ?_; (clear S; intro ws S; simp only [splice, List.take_zero, List.take_succ_cons, List.drop_succ_cons, List.drop_zero, List.drop_nil, List.length_cons, List.length_nil, Nat.reduceAdd, Nat.zero_add, List.nil_append, List.cons_append, List.append_nil] at S)) | (refine wpList_b2sB S ?_) | (refine wpList_b2sR S ?_) | (refine wpList_ldc S ?_))
  obtain ⟨rq, hrq⟩ : ∃ x, x = nb := ⟨_, rfl⟩
  subst hrq
  go_loopg [6, 10, 11, 36] ops.length (fun g out xp ap i wr => ∃ (k : Nat) (done : List (Value × Ri.RAns)) (r : Ri) (m' : Nat) (sl : List UInt8), Hid (k + g = ops.length) ∧ i = .int .i64 k ∧ k ≤ ops.length ∧ done.length = k ∧
    Hid ((Ri.fresh size b).run ops = done.map (·.2) ++ r.run (ops.drop k)) ∧ Hid (r.Fine (ops.drop k)) ∧ St w [] wr (.row 34 6 out k (ransCells done) :: rHead rq m' 85 r.b r.e r.data.length (r.data ++ sl).length r.ix [] :: rBlk m' r.data sl :: ransRows done))
  case atStart =>
    refine ⟨0, [], Ri.fresh size b, m, [], hidden (by omega), rfl, Nat.zero_le _, rfl, hidden (by rw [List.drop_zero]; rfl), by rw [List.drop_zero]; exact hf, ?_⟩
    have e1 : ((Ri.fresh size b).data ++ []) = List.replicate size 0 := List.append_nil _
    have e2 : (Ri.fresh size b).data.length = size := List.length_replicate
    unfold rBlk rHead
    rw [e1, e2, List.length_replicate]
    exact S.sel (by repeat (first | exact Sel.nil | (apply Sel.cons; (repeat (first | exact Pull.head | apply Pull.tail)))))
  case round =>
    obtain ⟨k, done, r, m', sl, hg, rfl, hkn, hdl, hrun, hfx, S⟩ := hrel
    by_cases hlt : k < ops.length
    · obtain ⟨ad, rfl⟩ := hh.out.some (by decide) (by omega)
      have hop : ops[k]? = some ops[k] := List.getElem?_eq_getElem hlt
      have hdrop : ops.drop k = ops[k] :: ops.drop (k + 1) := List.drop_eq_getElem_cons hlt
      obtain ⟨cs, ⟨oa', n', c', rfl, hs', hc'⟩, hl3, hcell⟩ := hh.out.get k _ hop
      have hfx1 := hfx.out
      have hrun1 := hrun.out
      rw [hdrop] at hfx1 hrun1
      generalize ops[k] = op at *
      replace hcell := hidden hcell
      replace hop := hidden hop
      replace hdrop := hidden hdrop
      obtain ⟨f1, f4⟩ := hfx1
      replace hs' := hidden hs'
      replace hrun1 := hidden hrun1
      replace f1 := hidden f1
      replace f4 := hidden f4
      clear hfx hrun hl3
      go_wp2_with (first | go_big_skip | (refine wpList_ldAc S ?_ (by rfl) hcell.out) | go_big_skip | (refine wpList_ld S ?_) | (refine wpList_ld8 S ?_) | (refine wpList_ld0 ?_) | (refine wpList_ldA S ?_) | (refine wpList_st8 S ?_; (clear S; intro ws S)) | (refine wpList_st S ?_; (clear S; intro ws S)) | (refine wpList_box S ?_; (clear S; intro nb wb hnb S)) | (refine wpList_alloc S ?_; (clear S; intro nb wb hnb S)) | (refine wpList_mk8 S ?_; (clear S; intro nb wb hnb S)) | (refine wpList_mk S ?_; (clear S; intro nb wb hnb S)) | (refine wpList_bs S ?_; (clear S; intro nb wb hnb S)) | (refine wpList_stA S ?_; (clear S; intro ws S; simp only [splice, List.take_zero, List.take_succ_cons, List.drop_succ_cons, List.drop_zero, List.drop_nil, List.length_cons, List.length_nil, Nat.reduceAdd, Nat.zero_add, List.nil_append, List.cons_append, List.append_nil] at S)) | (refine wpList_b2sB S ?_) | (refine wpList_b2sR S ?_) | (refine wpList_ldc S ?_))
      have A1 : Mem _ (rMem rq m' 85 r sl []) := S.mem.sel (rs := [rHead rq m' 85 r.b r.e r.data.length (r.data ++ sl).length r.ix [], rBlk m' r.data sl]) (by repeat (first | exact Sel.nil | (apply Sel.cons; (repeat (first | exact Pull.head | apply Pull.tail)))))
      have A3 : Off oa' [rq, m'] (u8s op.data) := S.off hs'.out (bs := [rq, m'])
      have A4 : Errs _ [rq, m'] ev0 ev1 := hE.out.call S (bs' := [rq, m'])
      refine Calls.mono (ringDo rq m' r sl n' c' oa' op ev0 ev1 _ A1 (hs'.out.on S.chg) A3 hc' A4 f1.out) ?_
      clear A1 A3 A4
      rintro e w4 ⟨dv, m2, sl2, rfl, C⟩
      have S2 := S.call C; clear S C; simp only [rMem, List.cons_append, List.nil_append] at S2; have S := S2; clear S2
      generalize hst : r.step op = st at *
      obtain ⟨r2, an⟩ := st
      simp only at *
      have hfz : (an.fault == 2) = false := by
        have := Ri.step_fault r op
        rw [hst] at this
        simp only at this
        rcases this with h | h <;> rw [h] <;> rfl
      replace hst := hidden hst
      obtain ⟨a3, c3, rfl, hc3, hc4⟩ := S.rowSlice (hp := Pull.head)
      go_wp2_with (first | go_big_skip | (refine wpList_appB S ?_; (clear S; intro va wa hva S)) | ((with_reducible show Code.wp _ (Code.region _ _ true) _ _ _); refine St.regionLast S ?_; (repeat (first | (go_big_quiet_step (fail)) | (go_big_quiet_want; (first | refine quiet_ld S ?_ | refine quiet_ld8 S ?_ | refine quiet_ld0 ?_ | refine quiet_ldA S ?_ | refine quiet_b2sB S ?_ | refine quiet_b2sR S ?_ | refine quiet_ldc S ?_); go_big_quiet_on))); refine wpQuiet_nil ?_; clear S; intro wq S) | go_big_skip | (refine wpList_ld S ?_) | (refine wpList_ld8 S ?_) | (refine wpList_ld0 ?_) | (refine wpList_ldA S ?_) | (refine wpList_st8 S ?_; (clear S; intro ws S)) | (refine wpList_st S ?_; (clear S; intro ws S)) | (refine wpList_box S ?_; (clear S; intro nb wb hnb S)) | (refine wpList_alloc S ?_; (clear S; intro nb wb hnb S)) | (refine wpList_mk8 S ?_; (clear S; intro nb wb hnb S)) | (refine wpList_mk S ?_; (clear S; intro nb wb hnb S)) | (refine wpList_bs S ?_; (clear S; intro nb wb hnb S)) | (refine wpList_stA S ?_; (clear S; intro ws S; simp only [splice, List.take_zero, List.take_succ_cons, List.drop_succ_cons, List.drop_zero, List.drop_nil, List.length_cons, List.length_nil, Nat.reduceAdd, Nat.zero_add, List.nil_append, List.cons_append, List.append_nil] at S)) | (refine wpList_b2sB S ?_) | (refine wpList_b2sR S ?_) | (refine wpList_ldc S ?_))
      go_roundg (gk - 1)
      case measure => have := hg.out; omega
      case rel =>
        refine ⟨k + 1, done ++ [(.slice a3 an.data.length c3, an)], r2, m2, sl2, hidden (by have := hg.out; omega), by go_num, by omega, by simp [hdl], hidden ?_, f4, ?_⟩
        · rw [hrun1.out]
          show _ ++ ((r.step op).2 :: Ri.run (r.step op).1 _) = _
          rw [hst.out]; simp
        · have e1 : ransCells (done ++ [(.slice a3 an.data.length c3, an)]) = ransCells done ++ [.int .i64 an.fault, .int .i64 an.n, .int .i64 an.m, .int .i64 an.len, .slice a3 an.data.length c3, .bool an.is] := by simp [ransCells]
          have e2 : ransRows (done ++ [(.slice a3 an.data.length c3, an)]) = ransRows done ++ [.row 5 1 (.slice a3 an.data.length c3) an.data.length (u8s an.data)] := by simp [ransRows]
          rw [e1, e2]
          have S2 : St w [] wa (.row 34 6 va (k + 1) (ransCells done ++ [.int .i64 an.fault, .int .i64 an.n, .int .i64 an.m, .int .i64 an.len, .slice a3 an.data.length c3, .bool an.is]) :: rHead rq m2 85 r2.b r2.e r2.data.length (r2.data ++ sl2).length r2.ix [] :: rBlk m2 r2.data sl2 :: .row 5 1 (.slice a3 an.data.length c3) an.data.length (u8s an.data) :: ransRows done) := (S.selT (by repeat (first | (apply SelT.nil; (repeat (first | exact Suf.refl | apply Suf.cons)); done) | (apply SelT.cons; (repeat (first | exact Pull.head | apply Pull.tail))))))
          exact S2.perm (.cons _ (.cons _ (.cons _ (List.perm_append_singleton _ _).symm)))
    · have hkl : k = ops.length := by omega
      replace hkl := hidden hkl
      go_wp2_with (first | go_big_skip | ((with_reducible show Code.wp _ (Code.region _ _ true) _ _ _); refine St.regionLast S ?_; (repeat (first | (go_big_quiet_step (fail)) | (go_big_quiet_want; (first | refine quiet_ld S ?_ | refine quiet_ld8 S ?_ | refine quiet_ld0 ?_ | refine quiet_ldA S ?_ | refine quiet_b2sB S ?_ | refine quiet_b2sR S ?_ | refine quiet_ldc S ?_); go_big_quiet_on))); refine wpQuiet_nil ?_; clear S; intro wq S) | go_big_skip | (refine wpList_ld S ?_) | (refine wpList_ld8 S ?_) | (refine wpList_ld0 ?_) | (refine wpList_ldA S ?_) | (refine wpList_st8 S ?_; (clear S; intro ws S)) | (refine wpList_st S ?_; (clear S; intro ws S)) | (refine wpList_box S ?_; (clear S; intro nb wb hnb S)) | (refine wpList_alloc S ?_; (clear S; intro nb wb hnb S)) | (refine wpList_mk8 S ?_; (clear S; intro nb wb hnb S)) | (refine wpList_mk S ?_; (clear S; intro nb wb hnb S)) | (refine wpList_bs S ?_; (clear S; intro nb wb hnb S)) | (refine wpList_stA S ?_; (clear S; intro ws S; simp only [splice, List.take_zero, List.take_succ_cons, List.drop_succ_cons, List.drop_zero, List.drop_nil, List.length_cons, List.length_nil, Nat.reduceAdd, Nat.zero_add, List.nil_append, List.cons_append, List.append_nil] at S)) | (refine wpList_b2sB S ?_) | (refine wpList_b2sR S ?_) | (refine wpList_ldc S ?_))
      ((first | go_ret | go_ret2 | go_ret3 | go_end0 | skip); refine hR.out _ _ ?_)
      have e : (Ri.fresh size b).run ops = done.map (·.2) := by
        rw [hrun.out, hkl.out, List.drop_length]; simp [Ri.run]
      refine ⟨_, done, rfl, e, ?_⟩
      rw [hdl]
      exact (S.selT (by repeat (first | (apply SelT.nil; (repeat (first | exact Suf.refl | apply Suf.cons)); done) | (apply SelT.cons; (repeat (first | exact Pull.head | apply Pull.tail))))))
theorem ringRun (v : Value) (ops : List Ri.ROp) (size b : Nat) (ev0 ev1 : Value) (w : World) (h : Arr ROpV 4 w v ops) (hk : ∀ op ∈ ops, ROk op) (hl : ops.length ≤ 400) (hb : rtotal ops ≤ 262144) (hs1 : 1 ≤ size) (hs : size ≤ 65536) (hb' : b ≤ 1099511627776) (hE : Errs w [] ev0 ev1) (hf : (Ri.fresh size b).Fine ops) :
    Calls Tryd.prog 20 #[.int .i64 size, .int .i64 b, v] w fun e w' => ∃ ov, e = .returned (.tuple #[ov, .int .i64 0]) ∧ Arr RAnsV 6 w' ov ((Ri.fresh size b).run ops) ∧ Chg [] w w' := by
  refine Calls.mono (ringRunR v ops size b ev0 ev1 w h hk hl hb hs1 hs hb' hE hf) ?_
  rintro e w' ⟨ov, done, rfl, hr, S⟩
  refine ⟨ov, rfl, ?_, S.chg⟩
  rw [hr]
  exact rans_arr (S.mem.2 _ List.mem_cons_self) fun r hr => S.mem.2 r (List.mem_cons_of_mem _ hr)
end Go.Proofs.YtbklhnpnkinadaaDoor
