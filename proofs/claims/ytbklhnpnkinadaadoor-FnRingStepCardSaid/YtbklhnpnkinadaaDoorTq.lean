/- Scripts of a ring that are looked at: small ones; answers of a tape as they lie in memory. -/
import Derived.Test.YtbklhnpnkinadaaDoorTp
import Derived.Test.YtbklhnpnkinadaaDoorRl
import Derived.Test.YtbklhnpnkinadaaDoorTi
import Derived.Test.YtbklhnpnkinadaaDoorTj
namespace Go.Vil
open Go Go.RowKit
section
variable {P : Program} {ops : Array Oper} {Q : Exit → Act → World → Prop} {rest : List Oper} {o : Oper} {a : Act} {w w' : World}
/-- A load of a struct out of a row, in a region that draws. -/
theorem quiet_ldRc {w0 : World} {bs : List Nat} {L F : List Res} (S : St w0 bs w L) {K : Act → Prop} {a' : Act} {ty e : TypeId} {x : Operand} {b n c i size : Nat} {xs cs : List Value} (h1 : ∀ u ∈ xs, u.oneCell' = true) (hl : cs.length = size)
    (hi : ∀ j u, cs[j]? = some u → xs[i + j]? = some u) (k : K a')
    (ho : o.op = .load ty x := by rfl) (hT0 : TAgg P ty size := by infer_instance) (ha : slot a x = some (.pointer (some ⟨b, i, none⟩)) := by rfl)
    (hp : Pull (.row e size (.slice (some ⟨b, 0, none⟩) n c) n xs) L F := by repeat (first | exact Pull.head | apply Pull.tail)) (hput : Put a o.dst (.agg cs.toArray) a' := by exact put_of (by conv => lhs; simp only [List.set_cons_succ, List.set_cons_zero])) : o.quiet P a (fun w' => ∃ p : StW w w0 bs L, w' = p.w) K :=
  quiet_run (fun _ hS => have S := S.of hS; run_ldA ty x ho (eval_slot ha) hl fun j v hv => by
    have h := (Src.row (S.mem.2 _ hp.mem) h1).2.2.2 _ _ (hi j v hv)
    rw [← Go.Vil.add_add] at h
    rw [Addr.add_lit] at h ⊢
    rw [Addr.add_lit] at h
    simpa using h) (hput.is ▸ k)
/-- A load of a struct that was there ahead of all, in a region that draws. -/
theorem quiet_ldAd {w0 : World} {L : List Res} (S : St w0 [] w L) {K : Act → Prop} {a' : Act} {ty : TypeId} {x : Operand} {ad : Addr} {n : Nat} {cs : List Value}
    (k : K a') (hl : cs.length = n) (hc : ∀ j v, cs[j]? = some v → w0.cell? (ad.add j) = some v)
    (ho : o.op = .load ty x := by rfl) (hT0 : TAgg P ty n := by infer_instance) (ha : slot a x = some (.pointer (some ad)) := by rfl)
    (hput : Put a o.dst (.agg cs.toArray) a' := by exact put_of (by conv => lhs; simp only [List.set_cons_succ, List.set_cons_zero])) : o.quiet P a (fun w' => ∃ p : StW w w0 [] L, w' = p.w) K :=
  quiet_run (fun _ hS => have S := S.of hS; run_ldA ty x ho (eval_slot ha) hl fun j v hv => S.chg.cell (hc j v hv) (by simp)) (hput.is ▸ k)
/-- A load of one cell out of a row of whatever elements. -/
theorem wpList_ldRn {w0 : World} {bs : List Nat} {L F : List Res} (S : St w0 bs w L) {a' : Act} {ty e : TypeId} {x : Operand} {b n c i size : Nat} {xs : List Value} {u : Value} (h1 : ∀ u ∈ xs, u.oneCell' = true) (hi : xs[i]? = some u)
    (k : wpList P ops Q rest a' w)
    (hw : Region.wanted o (yielded ops a.tmps) = true := by rfl) (ho : o.op = .load ty x := by rfl) (hT0 : TOne P ty := by infer_instance) (ha : slot a x = some (.pointer (some ⟨b, i, none⟩)) := by rfl)
    (hp : Pull (.row e size (.slice (some ⟨b, 0, none⟩) n c) n xs) L F := by repeat (first | exact Pull.head | apply Pull.tail)) (hput : Put a o.dst u a' := by exact put_of (by conv => lhs; simp only [List.set_cons_succ, List.set_cons_zero])) : wpList P ops Q (o :: rest) a w :=
  wpList_run hw (run_ld ty x ho (eval_slot ha) (by
    have h := (Src.row (S.mem.2 _ hp.mem) h1).2.2.2 _ _ hi
    rw [Addr.add_lit] at h
    simpa using h)) (hput.is ▸ k)
theorem get_app {α : Type} {a cs more xs : List α} {i : Nat} (ha : a.length = i) (hx : xs = a ++ (cs ++ more)) : ∀ (j : Nat) (u : α), cs[j]? = some u → xs[i + j]? = some u := by
  intro j u h
  rw [hx, List.getElem?_append_right (by omega), ha, Nat.add_sub_cancel_left, List.getElem?_append_left (List.getElem?_eq_some_iff.1 h).1, h]
end
theorem St.rowSliceN {w : World} {w0 : World} {bs : List Nat} {L F : List Res} (S : St w0 bs w L) {e : TypeId} {size : Nat} {v : Value} {n : Nat} {xs : List Value} (hp : Pull (.row e size v n xs) L F) (hsz : 0 < size := by decide) : ∃ a c, v = .slice a n c ∧ n ≤ c ∧ n ≤ maxLen :=
  row_shape hsz (S.mem.2 _ hp.mem)
theorem St.rowSome {w : World} {w0 : World} {bs : List Nat} {L F : List Res} (S : St w0 bs w L) {e : TypeId} {size : Nat} {v : Value} {n : Nat} {xs : List Value} (hn : 0 < n) (hp : Pull (.row e size v n xs) L F) : ∃ b c, v = .slice (some ⟨b, 0, none⟩) n c ∧ n ≤ c := by
  rcases S.ofRow hp with ⟨_, h, _⟩ | ⟨b, cap, more, h1, h2, _⟩
  · omega
  · exact ⟨b, cap, h1, h2⟩
end Go.Vil
namespace Go.Proofs.YtbklhnpnkinadaaDoor
open Go Go.RowKit Go.Vil
set_option linter.unusedSimpArgs false
set_option linter.unusedVariables false
set_option maxRecDepth 100000

theorem fits9 (op : Ri.ROp) (cs : List Value) (w : World) (h : ROpV w op cs) : Calls Tryd.prog 10 #[.agg cs.toArray] w fun e w' => ∃ b, e = .returned (.bool b) ∧ (b = true → op.data.length ≤ 2147483647) ∧ St w [] w' [] := by
  have S := St.begin w
  obtain ⟨oa, n, c, rfl, hs, hc⟩ := h
  have hl := hidden hs.len8
  clear hs
  refine Calls.cps ?_; intro R hR
  by_cases hn : (n : Int) > 2147483647
  · have hbb : decide ((n : Int) > 2147483647) = true := decide_eq_true hn
    replace hn := hidden hn
    go_enter Tryd.func10, Tryd.ntmps10
    go_wp2_with (first | go_big_skip | ((with_reducible show Code.wp _ (Code.region _ _ true) _ _ _); refine St.regionLast S ?_; (repeat (first | (go_big_quiet_step (fail)) | (go_big_quiet_want; (first | refine quiet_ld S ?_ | refine quiet_ld8 S ?_ | refine quiet_ld0 ?_ | refine quiet_ldA S ?_ | refine quiet_b2sB S ?_ | refine quiet_b2sR S ?_ | refine quiet_ldc S ?_); go_big_quiet_on))); refine wpQuiet_nil ?_; clear S; intro wq S) | go_big_skip | (refine wpList_ld S ?_) | (refine wpList_ld8 S ?_) | (refine wpList_ld0 ?_) | (refine wpList_ldA S ?_) | (refine wpList_st8 S ?_; (clear S; intro ws S)) | (refine wpList_st S ?_; (clear S; intro ws S)) | (refine wpList_box S ?_; (clear S; intro nb wb hnb S)) | (refine wpList_alloc S ?_; (clear S; intro nb wb hnb S)) | (refine wpList_mk8 S ?_; (clear S; intro nb wb hnb S)) | (refine wpList_mk S ?_; (clear S; intro nb wb hnb S)) | (refine wpList_bs S ?_; (clear S; intro nb wb hnb S)) | (refine wpList_stA S ?_; (clear S; intro ws S; simp only [splice, List.take_zero, List.take_succ_cons, List.drop_succ_cons, List.drop_zero, List.drop_nil, List.length_cons, List.length_nil, Nat.reduceAdd, Nat.zero_add, List.nil_append, List.cons_append, List.append_nil] at S)) | (refine wpList_b2sB S ?_) | (refine wpList_b2sR S ?_) | (refine wpList_ldc S ?_))
    ((first | go_ret | go_ret2 | go_ret3 | go_end0 | skip); refine hR.out _ _ ?_)
    exact ⟨_, rfl, by simp, S.sel (by repeat (first | exact Sel.nil | (apply Sel.cons; (repeat (first | exact Pull.head | apply Pull.tail)))))⟩
  · have hbb : decide ((n : Int) > 2147483647) = false := decide_eq_false hn
    replace hn := hidden hn
    go_enter Tryd.func10, Tryd.ntmps10
    go_wp2_with (first | go_big_skip | ((with_reducible show Code.wp _ (Code.region _ _ true) _ _ _); refine St.regionLast S ?_; (repeat (first | (go_big_quiet_step (fail)) | (go_big_quiet_want; (first | refine quiet_ld S ?_ | refine quiet_ld8 S ?_ | refine quiet_ld0 ?_ | refine quiet_ldA S ?_ | refine quiet_b2sB S ?_ | refine quiet_b2sR S ?_ | refine quiet_ldc S ?_); go_big_quiet_on))); refine wpQuiet_nil ?_; clear S; intro wq S) | go_big_skip | (refine wpList_ld S ?_) | (refine wpList_ld8 S ?_) | (refine wpList_ld0 ?_) | (refine wpList_ldA S ?_) | (refine wpList_st8 S ?_; (clear S; intro ws S)) | (refine wpList_st S ?_; (clear S; intro ws S)) | (refine wpList_box S ?_; (clear S; intro nb wb hnb S)) | (refine wpList_alloc S ?_; (clear S; intro nb wb hnb S)) | (refine wpList_mk8 S ?_; (clear S; intro nb wb hnb S)) | (refine wpList_mk S ?_; (clear S; intro nb wb hnb S)) | (refine wpList_bs S ?_; (clear S; intro nb wb hnb S)) | (refine wpList_stA S ?_; (clear S; intro ws S; simp only [splice, List.take_zero, List.take_succ_cons, List.drop_succ_cons, List.drop_zero, List.drop_nil, List.length_cons, List.length_nil, Nat.reduceAdd, Nat.zero_add, List.nil_append, List.cons_append, List.append_nil] at S)) | (refine wpList_b2sB S ?_) | (refine wpList_b2sR S ?_) | (refine wpList_ldc S ?_))
    ((first | go_ret | go_ret2 | go_ret3 | go_end0 | skip); refine hR.out _ _ ?_)
    exact ⟨_, rfl, fun _ => by have := hl.out; have := hn.out; omega, S.sel (by repeat (first | exact Sel.nil | (apply Sel.cons; (repeat (first | exact Pull.head | apply Pull.tail)))))⟩

set_option maxHeartbeats 800000 in
theorem fits8 (v : Value) (ops : List Ri.ROp) (w : World) (h : Arr ROpV 4 w v ops) :
    Calls Tryd.prog 22 #[v] w fun e w' => ∃ b, e = .returned (.bool b) ∧ (b = true → ops.length ≤ 2147483647 ∧ ∀ op ∈ ops, op.data.length ≤ 2147483647) ∧ St w [] w' [] := by
  have S := St.begin w
  obtain ⟨oa, c, rfl, hc⟩ := h.shape
  have hh := hidden h
  clear h
  refine Calls.cps ?_; intro R hR
  by_cases hn : (ops.length : Int) > 2147483647
  · have hbb : decide ((ops.length : Int) > 2147483647) = true := decide_eq_true hn
    replace hn := hidden hn
    go_enter Tryd.func22, Tryd.ntmps22
    go_wp2_with (first | go_big_skip | ((with_reducible show Code.wp _ (Code.region _ _ true) _ _ _); refine St.regionLast S ?_; (repeat (first | (go_big_quiet_step (fail)) | (go_big_quiet_want; (first | refine quiet_ld S ?_ | refine quiet_ld8 S ?_ | refine quiet_ld0 ?_ | refine quiet_ldA S ?_ | refine quiet_b2sB S ?_ | refine quiet_b2sR S ?_ | refine quiet_ldc S ?_); go_big_quiet_on))); refine wpQuiet_nil ?_; clear S; intro wq S) | go_big_skip | (refine wpList_ld S ?_) | (refine wpList_ld8 S ?_) | (refine wpList_ld0 ?_) | (refine wpList_ldA S ?_) | (refine wpList_st8 S ?_; (clear S; intro ws S)) | (refine wpList_st S ?_; (clear S; intro ws S)) | (refine wpList_box S ?_; (clear S; intro nb wb hnb S)) | (refine wpList_alloc S ?_; (clear S; intro nb wb hnb S)) | (refine wpList_mk8 S ?_; (clear S; intro nb wb hnb S)) | (refine wpList_mk S ?_; (clear S; intro nb wb hnb S)) | (refine wpList_bs S ?_; (clear S; intro nb wb hnb S)) | (refine wpList_stA S ?_; (clear S; intro ws S; simp only [splice, List.take_zero, List.take_succ_cons, List.drop_succ_cons, List.drop_zero, List.drop_nil, List.length_cons, List.length_nil, Nat.reduceAdd, Nat.zero_add, List.nil_append, List.cons_append, List.append_nil] at S)) | (refine wpList_b2sB S ?_) | (refine wpList_b2sR S ?_) | (refine wpList_ldc S ?_))
    ((first | go_ret | go_ret2 | go_ret3 | go_end0 | skip); refine hR.out _ _ ?_)
    exact ⟨_, rfl, by simp, S.sel (by repeat (first | exact Sel.nil | (apply Sel.cons; (repeat (first | exact Pull.head | apply Pull.tail)))))⟩
  have hbb : decide ((ops.length : Int) > 2147483647) = false := decide_eq_false hn
  have hle : ops.length ≤ 2147483647 := by omega
  replace hn := hidden hn
  go_enter Tryd.func22, Tryd.ntmps22
  go_wp2_with (first | go_big_skip | ((with_reducible show Code.wp _ (Code.region _ _ true) _ _ _); refine St.regionLast S ?_; (repeat (first | (go_big_quiet_step (fail)) | (go_big_quiet_want; (first | refine quiet_ld S ?_ | refine quiet_ld8 S ?_ | refine quiet_ld0 ?_ | refine quiet_ldA S ?_ | refine quiet_b2sB S ?_ | refine quiet_b2sR S ?_ | refine quiet_ldc S ?_); go_big_quiet_on))); refine wpQuiet_nil ?_; clear S; intro wq S) | go_big_skip | (refine wpList_ld S ?_) | (refine wpList_ld8 S ?_) | (refine wpList_ld0 ?_) | (refine wpList_ldA S ?_) | (refine wpList_st8 S ?_; (clear S; intro ws S)) | (refine wpList_st S ?_; (clear S; intro ws S)) | (refine wpList_box S ?_; (clear S; intro nb wb hnb S)) | (refine wpList_alloc S ?_; (clear S; intro nb wb hnb S)) | (refine wpList_mk8 S ?_; (clear S; intro nb wb hnb S)) | (refine wpList_mk S ?_; (clear S; intro nb wb hnb S)) | (refine wpList_bs S ?_; (clear S; intro nb wb hnb S)) | (refine wpList_stA S ?_; (clear S; intro ws S; simp only [splice, List.take_zero, List.take_succ_cons, List.drop_succ_cons, List.drop_zero, List.drop_nil, List.length_cons, List.length_nil, Nat.reduceAdd, Nat.zero_add, List.nil_append, List.cons_append, List.append_nil] at S)) | (refine wpList_b2sB S ?_) | (refine wpList_b2sR S ?_) | (refine wpList_ldc S ?_))
  go_loopg [4, 10] ops.length (fun g x i wr => ∃ k : Nat, Hid (k + g = ops.length) ∧ i = .int .i64 k ∧ k ≤ ops.length ∧ Hid (∀ op ∈ ops.take k, op.data.length ≤ 2147483647) ∧ St w [] wr [])
  case atStart => exact ⟨0, hidden (by omega), rfl, Nat.zero_le _, hidden (by simp), S⟩
  case round =>
    obtain ⟨k, hg, rfl, hkn, hpre, S⟩ := hrel
    by_cases hlt : k < ops.length
    · obtain ⟨ad, rfl⟩ := hh.out.some (by decide) (by omega)
      have hop : ops[k]? = some ops[k] := List.getElem?_eq_getElem hlt
      obtain ⟨cs, hV, hl3, hcell⟩ := hh.out.get k _ hop
      have htake := hidden (show ops.take (k + 1) = ops.take k ++ [ops[k]] by rw [List.take_add_one, hop]; rfl)
      obtain ⟨oa', n', c', hcs, hs', hc'⟩ := hV
      have hV2 : ∀ w', Chg [] w w' → ROpV w' ops[k] cs := fun w' C => ⟨oa', n', c', hcs, hs'.on C, hc'⟩
      subst hcs
      generalize ops[k] = op at *
      replace hcell := hidden hcell
      replace hV2 := hidden hV2
      clear hop hs' hl3
      go_wp2_with (first | (refine wpList_ldAc S ?_ (by rfl) hcell.out) | go_big_skip | (refine wpList_ld S ?_) | (refine wpList_ld8 S ?_) | (refine wpList_ld0 ?_) | (refine wpList_ldA S ?_) | (refine wpList_st8 S ?_; (clear S; intro ws S)) | (refine wpList_st S ?_; (clear S; intro ws S)) | (refine wpList_box S ?_; (clear S; intro nb wb hnb S)) | (refine wpList_alloc S ?_; (clear S; intro nb wb hnb S)) | (refine wpList_mk8 S ?_; (clear S; intro nb wb hnb S)) | (refine wpList_mk S ?_; (clear S; intro nb wb hnb S)) | (refine wpList_bs S ?_; (clear S; intro nb wb hnb S)) | (refine wpList_stA S ?_; (clear S; intro ws S; simp only [splice, List.take_zero, List.take_succ_cons, List.drop_succ_cons, List.drop_zero, List.drop_nil, List.length_cons, List.length_nil, Nat.reduceAdd, Nat.zero_add, List.nil_append, List.cons_append, List.append_nil] at S)) | (refine wpList_b2sB S ?_) | (refine wpList_b2sR S ?_) | (refine wpList_ldc S ?_))
      refine Calls.mono (fits9 op _ _ (hV2.out _ S.chg)) ?_
      rintro e w2 ⟨b, rfl, hb, C⟩
      have S2 := S.call C; clear S C; simp only [List.cons_append, List.nil_append] at S2; have S := S2; clear S2
      cases b with
      | false =>
        go_wp2_with (first | go_big_skip | ((with_reducible show Code.wp _ (Code.region _ _ true) _ _ _); refine St.regionLast S ?_; (repeat (first | (go_big_quiet_step (fail)) | (go_big_quiet_want; (first | refine quiet_ld S ?_ | refine quiet_ld8 S ?_ | refine quiet_ld0 ?_ | refine quiet_ldA S ?_ | refine quiet_b2sB S ?_ | refine quiet_b2sR S ?_ | refine quiet_ldc S ?_); go_big_quiet_on))); refine wpQuiet_nil ?_; clear S; intro wq S) | go_big_skip | (refine wpList_ld S ?_) | (refine wpList_ld8 S ?_) | (refine wpList_ld0 ?_) | (refine wpList_ldA S ?_) | (refine wpList_st8 S ?_; (clear S; intro ws S)) | (refine wpList_st S ?_; (clear S; intro ws S)) | (refine wpList_box S ?_; (clear S; intro nb wb hnb S)) | (refine wpList_alloc S ?_; (clear S; intro nb wb hnb S)) | (refine wpList_mk8 S ?_; (clear S; intro nb wb hnb S)) | (refine wpList_mk S ?_; (clear S; intro nb wb hnb S)) | (refine wpList_bs S ?_; (clear S; intro nb wb hnb S)) | (refine wpList_stA S ?_; (clear S; intro ws S; simp only [splice, List.take_zero, List.take_succ_cons, List.drop_succ_cons, List.drop_zero, List.drop_nil, List.length_cons, List.length_nil, Nat.reduceAdd, Nat.zero_add, List.nil_append, List.cons_append, List.append_nil] at S)) | (refine wpList_b2sB S ?_) | (refine wpList_b2sR S ?_) | (refine wpList_ldc S ?_))
        ((first | go_ret | go_ret2 | go_ret3 | go_end0 | skip); refine hR.out _ _ ?_)
        exact ⟨_, rfl, by simp, S.sel (by repeat (first | exact Sel.nil | (apply Sel.cons; (repeat (first | exact Pull.head | apply Pull.tail)))))⟩
      | true =>
        replace hb := hidden (hb rfl)
        go_wp2_with (first | go_big_skip | ((with_reducible show Code.wp _ (Code.region _ _ true) _ _ _); refine St.regionLast S ?_; (repeat (first | (go_big_quiet_step (fail)) | (go_big_quiet_want; (first | refine quiet_ld S ?_ | refine quiet_ld8 S ?_ | refine quiet_ld0 ?_ | refine quiet_ldA S ?_ | refine quiet_b2sB S ?_ | refine quiet_b2sR S ?_ | refine quiet_ldc S ?_); go_big_quiet_on))); refine wpQuiet_nil ?_; clear S; intro wq S) | go_big_skip | (refine wpList_ld S ?_) | (refine wpList_ld8 S ?_) | (refine wpList_ld0 ?_) | (refine wpList_ldA S ?_) | (refine wpList_st8 S ?_; (clear S; intro ws S)) | (refine wpList_st S ?_; (clear S; intro ws S)) | (refine wpList_box S ?_; (clear S; intro nb wb hnb S)) | (refine wpList_alloc S ?_; (clear S; intro nb wb hnb S)) | (refine wpList_mk8 S ?_; (clear S; intro nb wb hnb S)) | (refine wpList_mk S ?_; (clear S; intro nb wb hnb S)) | (refine wpList_bs S ?_; (clear S; intro nb wb hnb S)) | (refine wpList_stA S ?_; (clear S; intro ws S; simp only [splice, List.take_zero, List.take_succ_cons, List.drop_succ_cons, List.drop_zero, List.drop_nil, List.length_cons, List.length_nil, Nat.reduceAdd, Nat.zero_add, List.nil_append, List.cons_append, List.append_nil] at S)) | (refine wpList_b2sB S ?_) | (refine wpList_b2sR S ?_) | (refine wpList_ldc S ?_))
        go_roundg (gk - 1)
        case measure => have := hg.out; omega
        case rel =>
          refine ⟨k + 1, hidden (by have := hg.out; omega), by go_num, by omega, hidden ?_, S.sel (by repeat (first | exact Sel.nil | (apply Sel.cons; (repeat (first | exact Pull.head | apply Pull.tail)))))⟩
          rw [htake.out]
          intro o ho
          rcases List.mem_append.1 ho with ho | ho
          · exact hpre.out o ho
          · rw [List.mem_singleton.1 ho]; exact hb.out
    · have hkl : k = ops.length := by omega
      replace hkl := hidden hkl
      go_wp2_with (first | go_big_skip | ((with_reducible show Code.wp _ (Code.region _ _ true) _ _ _); refine St.regionLast S ?_; (repeat (first | (go_big_quiet_step (fail)) | (go_big_quiet_want; (first | refine quiet_ld S ?_ | refine quiet_ld8 S ?_ | refine quiet_ld0 ?_ | refine quiet_ldA S ?_ | refine quiet_b2sB S ?_ | refine quiet_b2sR S ?_ | refine quiet_ldc S ?_); go_big_quiet_on))); refine wpQuiet_nil ?_; clear S; intro wq S) | go_big_skip | (refine wpList_ld S ?_) | (refine wpList_ld8 S ?_) | (refine wpList_ld0 ?_) | (refine wpList_ldA S ?_) | (refine wpList_st8 S ?_; (clear S; intro ws S)) | (refine wpList_st S ?_; (clear S; intro ws S)) | (refine wpList_box S ?_; (clear S; intro nb wb hnb S)) | (refine wpList_alloc S ?_; (clear S; intro nb wb hnb S)) | (refine wpList_mk8 S ?_; (clear S; intro nb wb hnb S)) | (refine wpList_mk S ?_; (clear S; intro nb wb hnb S)) | (refine wpList_bs S ?_; (clear S; intro nb wb hnb S)) | (refine wpList_stA S ?_; (clear S; intro ws S; simp only [splice, List.take_zero, List.take_succ_cons, List.drop_succ_cons, List.drop_zero, List.drop_nil, List.length_cons, List.length_nil, Nat.reduceAdd, Nat.zero_add, List.nil_append, List.cons_append, List.append_nil] at S)) | (refine wpList_b2sB S ?_) | (refine wpList_b2sR S ?_) | (refine wpList_ldc S ?_))
      ((first | go_ret | go_ret2 | go_ret3 | go_end0 | skip); refine hR.out _ _ ?_)
      exact ⟨_, rfl, fun _ => ⟨hle, by have := hpre.out; rwa [hkl.out, List.take_length] at this⟩, S.sel (by repeat (first | exact Sel.nil | (apply Sel.cons; (repeat (first | exact Pull.head | apply Pull.tail)))))⟩

/-- An answer of a tape as it lies in memory. -/
def tansCells (l : List ((Value × Value) × TAns)) : List Value := (l.map fun p => [.int .i64 p.2.want.fault, .int .i64 p.2.want.n, .int .i64 p.2.want.m, .int .i64 p.2.want.len, p.1.1, .bool p.2.want.is, p.1.2, .bool p.2.open']).flatten
def tansRows (l : List ((Value × Value) × TAns)) : List Res := (l.map fun p => [.row 5 1 p.1.1 p.2.want.data.length (u8s p.2.want.data), .row 4 1 p.1.2 p.2.known.length (bls p.2.known)]).flatten
def TAnsV (w : World) (an : TAns) (cs : List Value) : Prop := ∃ ob d oc e, cs = [.int .i64 an.want.fault, .int .i64 an.want.n, .int .i64 an.want.m, .int .i64 an.want.len, .slice ob an.want.data.length d, .bool an.want.is, .slice oc an.known.length e, .bool an.open'] ∧
  Src w 1 (.slice ob an.want.data.length d) an.want.data.length (u8s an.want.data) ∧ Src w 1 (.slice oc an.known.length e) an.known.length (bls an.known)
theorem TAnsV.on {w w' : World} {an : TAns} {cs : List Value} (h : TAnsV w an cs) (C : Chg [] w w') : TAnsV w' an cs := by
  obtain ⟨ob, d, oc, e, h1, h2, h3⟩ := h
  exact ⟨ob, d, oc, e, h1, h2.on C, h3.on C⟩
theorem tans_arr {w : World} {v : Value} {done : List ((Value × Value) × TAns)} (hrow : (Res.row 37 8 v done.length (tansCells done)).holds w) (hall : ∀ r ∈ tansRows done, r.holds w) : Arr TAnsV 8 w v (done.map (·.2)) := by
  have hsh : ∀ p ∈ done, ∃ oa c ob d, p.1.1 = .slice oa p.2.want.data.length c ∧ Src w 1 p.1.1 p.2.want.data.length (u8s p.2.want.data) ∧ p.1.2 = .slice ob p.2.known.length d ∧ Src w 1 p.1.2 p.2.known.length (bls p.2.known) := by
    intro p hp
    have hr1 := hall (.row 5 1 p.1.1 p.2.want.data.length (u8s p.2.want.data)) (List.mem_flatten.2 ⟨_, List.mem_map_of_mem hp, List.mem_cons_self⟩)
    have hr2 := hall (.row 4 1 p.1.2 p.2.known.length (bls p.2.known)) (List.mem_flatten.2 ⟨_, List.mem_map_of_mem hp, List.mem_cons_of_mem _ List.mem_cons_self⟩)
    obtain ⟨oa, c, h1, h2, _⟩ := row_shape (by decide) hr1
    obtain ⟨ob, d, h3, h4, _⟩ := row_shape (by decide) hr2
    exact ⟨oa, c, ob, d, h1, Src.row hr1 (u8s_one _), h3, Src.row hr2 (bls_one _)⟩
  refine row_arr (css := done.map fun p => [.int .i64 p.2.want.fault, .int .i64 p.2.want.n, .int .i64 p.2.want.m, .int .i64 p.2.want.len, p.1.1, .bool p.2.want.is, p.1.2, .bool p.2.open']) (by decide) (by rw [List.length_map]; exact hrow) ?_ ?_
  · refine Each.of_get (by simp) fun i an cs h1 h2 => ?_
    rw [List.getElem?_map] at h1 h2
    cases hd : done[i]? with
    | none => rw [hd] at h1; cases h1
    | some p =>
      rw [hd] at h1 h2
      simp only [Option.map_some, Option.some.injEq] at h1 h2
      subst h1 h2
      obtain ⟨oa, c, ob, d, h3, h4, h5, h6⟩ := hsh p (List.mem_of_getElem? hd)
      rw [h3] at h4
      rw [h5] at h6
      rw [h3, h5]
      exact ⟨⟨oa, c, ob, d, rfl, h4, h6⟩, rfl⟩
  · intro cs hcs u hu
    obtain ⟨p, hp, rfl⟩ := List.mem_map.1 hcs
    obtain ⟨oa, c, ob, d, h3, _, h5, _⟩ := hsh p hp
    rw [h3, h5] at hu
    simp at hu
    rcases hu with rfl | rfl | rfl | rfl | rfl | rfl | rfl | rfl <;> rfl
theorem tansCells_snoc (l : List ((Value × Value) × TAns)) (dv kv : Value) (a : TAns) : tansCells (l ++ [((dv, kv), a)]) = tansCells l ++ [.int .i64 a.want.fault, .int .i64 a.want.n, .int .i64 a.want.m, .int .i64 a.want.len, dv, .bool a.want.is, kv, .bool a.open'] := by simp [tansCells]
theorem tansRows_snoc (l : List ((Value × Value) × TAns)) (dv kv : Value) (a : TAns) : tansRows (l ++ [((dv, kv), a)]) = tansRows l ++ [.row 5 1 dv a.want.data.length (u8s a.want.data), .row 4 1 kv a.known.length (bls a.known)] := by simp [tansRows]
theorem ROpV.one {w : World} {op : Ri.ROp} {cs : List Value} (h : ROpV w op cs) : ∀ u ∈ cs, u.oneCell' = true := by
  obtain ⟨oa, n, c, rfl, _⟩ := h
  intro u hu
  simp at hu
  rcases hu with rfl | rfl | rfl | rfl <;> rfl
/-- A row of operations as a slice that is read. -/
theorem rops_arr {w w' : World} {v : Value} {ops : List Ri.ROp} {css : List (List Value)} {L F : List Res} (hE : Each (fun x cs => ROpV w x cs ∧ cs.length = 4) ops css) (S : St w [] w' L) (hp : Pull (.row 26 4 v ops.length css.flatten) L F) : Arr ROpV 4 w' v ops := by
  refine row_arr (by decide) (S.mem.2 _ hp.mem) (hE.mono fun x cs hx => ⟨hx.1.on S.chg, hx.2⟩) ?_
  intro cs hcs
  obtain ⟨i, hi⟩ := List.getElem?_of_mem hcs
  have hlt2 := (List.getElem?_eq_some_iff.1 hi).1
  have hl := hE.length
  obtain ⟨b, hb, hb2, _⟩ := hE.get i _ (List.getElem?_eq_getElem (show i < ops.length by omega))
  rw [hi] at hb
  cases hb
  exact hb2.one
/-- Operations near to what is there are within the bounds of the thin package. -/
theorem rok_near {t : Ta} {k : Nat} {op : Ri.ROp} (hl : t.Low k) (hk : k ≤ 1000) (h : t.Near op) : ROk op := by
  have h1 := h.off
  have h2 := hl.e
  have h3 := h.apt.len
  have h4 := h.len
  exact ⟨h3, by omega, h.apt.size, by omega, by omega⟩
theorem did_rok {t0 t : Ta} {l : List (Ri.ROp × TAns)} (h : Ta.Did t0 l t) {k : Nat} (hL : t0.Low k) (hk : k + l.length ≤ 1000) : (∀ op ∈ l.map (·.1), ROk op) ∧ rtotal (l.map (·.1)) ≤ 300 * l.length := by
  induction h with
  | nil => exact ⟨fun op h => by simp at h, Nat.zero_le _⟩
  | @snoc l t op h hn ih =>
    rw [List.length_append] at hk ⊢
    simp only [List.length_cons, List.length_nil] at hk ⊢
    obtain ⟨i1, i2⟩ := ih (by omega)
    refine ⟨fun o ho => ?_, ?_⟩
    · rw [List.map_append] at ho
      rcases List.mem_append.1 ho with ho | ho
      · exact i1 o ho
      · rw [List.mem_singleton.1 ho]
        exact rok_near (Ta.did_low h hL) (by omega) hn
    · unfold rtotal at *
      rw [List.map_append, List.map_append, List.sum_append]
      have := hn.data
      simp only [List.map_cons, List.map_nil, List.sum_cons, List.sum_nil]
      omega
end Go.Proofs.YtbklhnpnkinadaaDoor
