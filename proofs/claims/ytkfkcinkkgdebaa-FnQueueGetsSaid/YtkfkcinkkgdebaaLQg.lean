/- Each entry that is in a queue is read at the index at which it was pushed. -/
import Derived.Test.YtkfkcinkkgdebaaOpenQ
import Derived.Test.YtkfkcinkkgdebaaGts
namespace Go.Vil
open Go Go.RowKit
section
variable {P : Program} {ops : Array Oper} {Q : Exit → Act → World → Prop} {rest : List Oper} {o : Oper} {a : Act} {w w' : World}
/-- A load of an element of a slice of the call's own. -/
theorem wpList_ldOk {w0 : World} {bs : List Nat} {L F : List Res} (S : St w0 bs w L) {a' : Act} {ty e : TypeId} {x : Operand} {ad : Addr} {n c size : Nat} {xs cs : List Value} (kk : Nat)
    (k : wpList P ops Q rest a' w) (hcs : cs.length = size) (hx : ∀ j v, cs[j]? = some v → xs[kk * size + j]? = some v) (ha : slot a x = some (.pointer (some (ad.add (kk * size)))))
    (hw : Region.wanted o (yielded ops a.tmps) = true := by rfl) (ho : o.op = .load ty x := by rfl) (hT0 : TAgg P ty size := by infer_instance)
    (hp : Pull (.orow e size (.slice (some ad) n c) n xs) L F := by repeat (first | exact Pull.head | apply Pull.tail))
    (hput : Put a o.dst (.agg cs.toArray) a' := by exact put_of (by conv => lhs; simp only [List.set_cons_succ, List.set_cons_zero])) : wpList P ops Q (o :: rest) a w := by
  obtain ⟨g, of, hg⟩ : ∃ g of, ad = ⟨g, of, none⟩ := by
    rcases (S.mem.2 _ hp.mem : hasRow w e size (.slice (some ad) n c) n xs).2 with ⟨h5, _⟩ | ⟨g, of, cap, cur, h5, _⟩
    · cases h5
    · cases h5; exact ⟨g, of, rfl⟩
  subst hg
  have hcell := hasRow.cells (S.mem.2 _ hp.mem : hasRow w e size (.slice (some ⟨g, of, none⟩) n c) n xs)
  exact wpList_run hw (run_ldA ty x ho (eval_slot ha) hcs fun j v hv => by rw [Go.Vil.add_add]; exact hcell _ v (hx j v hv)) (hput.is ▸ k)
end
end Go.Vil
namespace Go.Proofs.Ytkfkcinkkgdebaa
open Go Go.RowKit Go.Vil
set_option linter.unusedSimpArgs false
set_option linter.unusedVariables false
set_option maxRecDepth 100000

theorem ents_at {w : World} {ents : List (Nat × List UInt8)} {css : List (List Value)} (h : Ents w ents css) (k : Nat) (e : Nat × List UInt8) (hk : ents[k]? = some e) :
    ∃ oa c, css[k]? = some [.int .i64 (e.1 : Nat), .slice oa e.2.length c] ∧ ∀ j v, [Value.int .i64 (e.1 : Nat), .slice oa e.2.length c][j]? = some v → css.flatten[k * 2 + j]? = some v := by
  obtain ⟨cs, h1, ⟨⟨oa, c, rfl, _⟩, _⟩⟩ := h.get k e hk
  refine ⟨oa, c, h1, fun j v hv => ?_⟩
  rw [flat_get (Each.sizes h) k _ j h1 (by have := (List.getElem?_eq_some_iff.1 hv).1; simpa using this)]
  exact hv

def lastCells : List (List Value) := [[.int .i64 3, .slice none 0 0, .int .i64 0], [.int .i64 4, .slice none 0 0, .int .i64 (-7)], [.int .i64 5, .slice none 0 0, .int .i64 0]]
set_option maxHeartbeats 12800000 in
theorem lawQueueGets (cap most : Int) (v : Value) (ops : List QOp) (w : World) (h : Arr OpV 3 w v ops) :
    Calls Try.prog 4 #[.int .i64 cap, .int .i64 most, v] w fun e w' => e = .returned (.bool true) ∧ Chg [] w w' := by
  have S := St.begin w
  replace h := hidden h
  refine Calls.cps ?_; intro R hR
  go_enter Try.func4, Try.ntmps4
  go_wp2_with (first | go_big_skip | ((with_reducible show Code.wp _ (Code.region _ _ true) _ _ _); refine St.regionLast S ?_; (repeat (first | (go_big_quiet_step (fail)) | (go_big_quiet_want; (first | refine quiet_ld S ?_ | refine quiet_ld8 S ?_ | refine quiet_ld0 ?_ | refine quiet_ldA S ?_ | refine quiet_b2sB S ?_ | refine quiet_b2sR S ?_ | refine quiet_ldc S ?_); go_big_quiet_on))); refine wpQuiet_nil ?_; clear S; intro wq S) | go_big_skip | (refine wpList_ld S ?_) | (refine wpList_ld8 S ?_) | (refine wpList_ld0 ?_) | (refine wpList_ldA S ?_) | (refine wpList_st8 S ?_; (clear S; intro ws S)) | (refine wpList_st S ?_; (clear S; intro ws S)) | (refine wpList_box S ?_; (clear S; intro nb wb hnb S)) | (refine wpList_alloc S ?_; (clear S; intro nb wb hnb S)) | (refine wpList_mk8 S ?_; (clear S; intro nb wb hnb S)) | (refine wpList_mk S ?_; (clear S; intro nb wb hnb S)) | (refine wpList_bs S ?_; (clear S; intro nb wb hnb S)) | (refine wpList_stA S ?_; (clear S; intro ws S; simp only [splice, List.take_zero, List.take_succ_cons, List.drop_succ_cons, List.drop_zero, List.drop_nil, List.length_cons, List.length_nil, Nat.reduceAdd, Nat.zero_add, List.nil_append, List.cons_append, List.append_nil] at S)) | (refine wpList_b2sB S ?_) | (refine wpList_b2sR S ?_) | (refine wpList_ldc S ?_))
  refine Calls.mono (fits6 v ops _ (h.out.on S.chg fun _ _ h => h.on S.chg)) ?_
  rintro e w2 ⟨b, rfl, hb, C⟩
  have S2 := S.call C; clear S C; simp only [List.cons_append, List.nil_append] at S2; have S := S2; clear S2
  cases b with
  | false =>
    go_wp2_with (first | go_big_skip | ((with_reducible show Code.wp _ (Code.region _ _ true) _ _ _); refine St.regionLast S ?_; (repeat (first | (go_big_quiet_step (fail)) | (go_big_quiet_want; (first | refine quiet_ld S ?_ | refine quiet_ld8 S ?_ | refine quiet_ld0 ?_ | refine quiet_ldA S ?_ | refine quiet_b2sB S ?_ | refine quiet_b2sR S ?_ | refine quiet_ldc S ?_); go_big_quiet_on))); refine wpQuiet_nil ?_; clear S; intro wq S) | go_big_skip | (refine wpList_ld S ?_) | (refine wpList_ld8 S ?_) | (refine wpList_ld0 ?_) | (refine wpList_ldA S ?_) | (refine wpList_st8 S ?_; (clear S; intro ws S)) | (refine wpList_st S ?_; (clear S; intro ws S)) | (refine wpList_box S ?_; (clear S; intro nb wb hnb S)) | (refine wpList_alloc S ?_; (clear S; intro nb wb hnb S)) | (refine wpList_mk8 S ?_; (clear S; intro nb wb hnb S)) | (refine wpList_mk S ?_; (clear S; intro nb wb hnb S)) | (refine wpList_bs S ?_; (clear S; intro nb wb hnb S)) | (refine wpList_stA S ?_; (clear S; intro ws S; simp only [splice, List.take_zero, List.take_succ_cons, List.drop_succ_cons, List.drop_zero, List.drop_nil, List.length_cons, List.length_nil, Nat.reduceAdd, Nat.zero_add, List.nil_append, List.cons_append, List.append_nil] at S)) | (refine wpList_b2sB S ?_) | (refine wpList_b2sR S ?_) | (refine wpList_ldc S ?_))
    ((first | go_ret | go_ret2 | go_ret3 | go_end0 | skip); refine hR.out _ _ ?_)
    exact ⟨rfl, S.chg⟩
  | true =>
    obtain ⟨hf1, hf2⟩ := hb rfl
    replace hf2 := hidden hf2
    clear hb
    go_wp2_with (first | go_big_skip | ((with_reducible show Code.wp _ (Code.region _ _ true) _ _ _); refine St.regionLast S ?_; (repeat (first | (go_big_quiet_step (fail)) | (go_big_quiet_want; (first | refine quiet_ld S ?_ | refine quiet_ld8 S ?_ | refine quiet_ld0 ?_ | refine quiet_ldA S ?_ | refine quiet_b2sB S ?_ | refine quiet_b2sR S ?_ | refine quiet_ldc S ?_); go_big_quiet_on))); refine wpQuiet_nil ?_; clear S; intro wq S) | go_big_skip | (refine wpList_ld S ?_) | (refine wpList_ld8 S ?_) | (refine wpList_ld0 ?_) | (refine wpList_ldA S ?_) | (refine wpList_st8 S ?_; (clear S; intro ws S)) | (refine wpList_st S ?_; (clear S; intro ws S)) | (refine wpList_box S ?_; (clear S; intro nb wb hnb S)) | (refine wpList_alloc S ?_; (clear S; intro nb wb hnb S)) | (refine wpList_mk8 S ?_; (clear S; intro nb wb hnb S)) | (refine wpList_mk S ?_; (clear S; intro nb wb hnb S)) | (refine wpList_bs S ?_; (clear S; intro nb wb hnb S)) | (refine wpList_stA S ?_; (clear S; intro ws S; simp only [splice, List.take_zero, List.take_succ_cons, List.drop_succ_cons, List.drop_zero, List.drop_nil, List.length_cons, List.length_nil, Nat.reduceAdd, Nat.zero_add, List.nil_append, List.cons_append, List.append_nil] at S)) | (refine wpList_b2sB S ?_) | (refine wpList_b2sR S ?_) | (refine wpList_ldc S ?_))
    refine Calls.mono (small6 v ops cap most _ (h.out.on S.chg fun _ _ h => h.on S.chg) hf2.out hf1) ?_
    rintro e w3 ⟨b, rfl, hb, C⟩
    have S2 := S.call C; clear S C; simp only [List.cons_append, List.nil_append] at S2; have S := S2; clear S2
    cases b with
    | false =>
      go_wp2_with (first | go_big_skip | ((with_reducible show Code.wp _ (Code.region _ _ true) _ _ _); refine St.regionLast S ?_; (repeat (first | (go_big_quiet_step (fail)) | (go_big_quiet_want; (first | refine quiet_ld S ?_ | refine quiet_ld8 S ?_ | refine quiet_ld0 ?_ | refine quiet_ldA S ?_ | refine quiet_b2sB S ?_ | refine quiet_b2sR S ?_ | refine quiet_ldc S ?_); go_big_quiet_on))); refine wpQuiet_nil ?_; clear S; intro wq S) | go_big_skip | (refine wpList_ld S ?_) | (refine wpList_ld8 S ?_) | (refine wpList_ld0 ?_) | (refine wpList_ldA S ?_) | (refine wpList_st8 S ?_; (clear S; intro ws S)) | (refine wpList_st S ?_; (clear S; intro ws S)) | (refine wpList_box S ?_; (clear S; intro nb wb hnb S)) | (refine wpList_alloc S ?_; (clear S; intro nb wb hnb S)) | (refine wpList_mk8 S ?_; (clear S; intro nb wb hnb S)) | (refine wpList_mk S ?_; (clear S; intro nb wb hnb S)) | (refine wpList_bs S ?_; (clear S; intro nb wb hnb S)) | (refine wpList_stA S ?_; (clear S; intro ws S; simp only [splice, List.take_zero, List.take_succ_cons, List.drop_succ_cons, List.drop_zero, List.drop_nil, List.length_cons, List.length_nil, Nat.reduceAdd, Nat.zero_add, List.nil_append, List.cons_append, List.append_nil] at S)) | (refine wpList_b2sB S ?_) | (refine wpList_b2sR S ?_) | (refine wpList_ldc S ?_))
      ((first | go_ret | go_ret2 | go_ret3 | go_end0 | skip); refine hR.out _ _ ?_)
      exact ⟨rfl, S.chg⟩
    | true =>
      have hsm := hb rfl
      clear hb
      obtain ⟨⟨hc0, hm0⟩, hA⟩ := asked_of hsm
      have hl60 := hsm.2.2.2.2.1
      clear hsm
      obtain ⟨cap, rfl⟩ := Int.eq_ofNat_of_zero_le hc0
      obtain ⟨most, rfl⟩ := Int.eq_ofNat_of_zero_le hm0
      simp only [Int.ofNat_eq_natCast, Int.toNat_natCast] at hA
      have hcap := hA.cap
      have hmost := hA.most
      have hlen := hA.len
      replace hA := hidden hA
      clear hc0 hm0
      go_wp2_with (first | go_big_skip | ((with_reducible show Code.wp _ (Code.region _ _ true) _ _ _); refine St.regionLast S ?_; (repeat (first | (go_big_quiet_step (fail)) | (go_big_quiet_want; (first | refine quiet_ld S ?_ | refine quiet_ld8 S ?_ | refine quiet_ld0 ?_ | refine quiet_ldA S ?_ | refine quiet_b2sB S ?_ | refine quiet_b2sR S ?_ | refine quiet_ldc S ?_); go_big_quiet_on))); refine wpQuiet_nil ?_; clear S; intro wq S) | go_big_skip | (refine wpList_ld S ?_) | (refine wpList_ld8 S ?_) | (refine wpList_ld0 ?_) | (refine wpList_ldA S ?_) | (refine wpList_st8 S ?_; (clear S; intro ws S)) | (refine wpList_st S ?_; (clear S; intro ws S)) | (refine wpList_box S ?_; (clear S; intro nb wb hnb S)) | (refine wpList_alloc S ?_; (clear S; intro nb wb hnb S)) | (refine wpList_mk8 S ?_; (clear S; intro nb wb hnb S)) | (refine wpList_mk S ?_; (clear S; intro nb wb hnb S)) | (refine wpList_bs S ?_; (clear S; intro nb wb hnb S)) | (refine wpList_stA S ?_; (clear S; intro ws S; simp only [splice, List.take_zero, List.take_succ_cons, List.drop_succ_cons, List.drop_zero, List.drop_nil, List.length_cons, List.length_nil, Nat.reduceAdd, Nat.zero_add, List.nil_append, List.cons_append, List.append_nil] at S)) | (refine wpList_b2sB S ?_) | (refine wpList_b2sR S ?_) | (refine wpList_ldc S ?_))
      refine Calls.mono (asked6R v ops _ (h.out.on S.chg fun _ _ h => h.on S.chg) hl60) ?_
      rintro e w4 ⟨qv, css, rfl, hq, C⟩
      have hchg := hidden S.chg
      clear S
      have hok := hidden (okScript_asked ops ⟨[], cap, most, false, false⟩ (Qu.fresh cap most))
      generalize asked ops = q at *
      obtain ⟨oq, cq, rfl, hcq⟩ : ∃ oq cq, qv = .slice oq q.length cq ∧ q.length ≤ cq := by
        obtain ⟨oq, cq, h1, h2, _⟩ := row_shape (by decide) (C.mem.2 _ List.mem_cons_self)
        exact ⟨oq, cq, h1, h2⟩
      have hq4 := ops_arr hq C .head
      replace hq := hidden hq
      replace hq4 := hidden hq4
      have S := C
      clear C h hf2
      obtain ⟨hfine, hg1, hb1, hm1⟩ := hA.out.fine
      go_wp2_with (first | go_big_skip | go_big_skip | (refine wpList_ld S ?_) | (refine wpList_ld8 S ?_) | (refine wpList_ld0 ?_) | (refine wpList_ldA S ?_) | (refine wpList_st8 S ?_; (clear S; intro ws S)) | (refine wpList_st S ?_; (clear S; intro ws S)) | (refine wpList_box S ?_; (clear S; intro nb wb hnb S)) | (refine wpList_alloc S ?_; (clear S; intro nb wb hnb S)) | (refine wpList_mk8 S ?_; (clear S; intro nb wb hnb S)) | (refine wpList_mk S ?_; (clear S; intro nb wb hnb S)) | (refine wpList_bs S ?_; (clear S; intro nb wb hnb S)) | (refine wpList_stA S ?_; (clear S; intro ws S; simp only [splice, List.take_zero, List.take_succ_cons, List.drop_succ_cons, List.drop_zero, List.drop_nil, List.length_cons, List.length_nil, Nat.reduceAdd, Nat.zero_add, List.nil_append, List.cons_append, List.append_nil] at S)) | (refine wpList_b2sB S ?_) | (refine wpList_b2sR S ?_) | (refine wpList_ldc S ?_))
      refine Calls.mono (queueRun _ q cap most _ hq4.out hA.out.kinds (by omega) (by have := hA.out.total; omega) (by omega) (by omega) hfine) ?_
      rintro e w5 ⟨ov, rfl, hans, C⟩
      have hq5 := hidden (hq4.out.on C fun _ _ h => h.on C)
      have S3 := hidden (S.same C)
      clear S C hq4
      have S := St.begin w5
      obtain ⟨oA, cA, rfl, hcA⟩ := hans.shape
      rw [qRun_length] at hans hcA
      rw [qRun_length]
      replace hans := hidden hans
      replace hfine := hidden hfine
      go_upto_region 8 with (first | go_big_skip | go_big_skip | (refine wpList_ld S ?_) | (refine wpList_ld8 S ?_) | (refine wpList_ld0 ?_) | (refine wpList_ldA S ?_) | (refine wpList_st8 S ?_; (clear S; intro ws S)) | (refine wpList_st S ?_; (clear S; intro ws S)) | (refine wpList_box S ?_; (clear S; intro nb wb hnb S)) | (refine wpList_alloc S ?_; (clear S; intro nb wb hnb S)) | (refine wpList_mk8 S ?_; (clear S; intro nb wb hnb S)) | (refine wpList_mk S ?_; (clear S; intro nb wb hnb S)) | (refine wpList_bs S ?_; (clear S; intro nb wb hnb S)) | (refine wpList_stA S ?_; (clear S; intro ws S; simp only [splice, List.take_zero, List.take_succ_cons, List.drop_succ_cons, List.drop_zero, List.drop_nil, List.length_cons, List.length_nil, Nat.reduceAdd, Nat.zero_add, List.nil_append, List.cons_append, List.append_nil] at S)) | (refine wpList_b2sB S ?_) | (refine wpList_b2sR S ?_) | (refine wpList_ldc S ?_))
      have S := S.nilORow 41 2
      have S2 : St w5 [] wb (.blk nb (.cells (listCells (.slice none 0 0) ⟨[], cap, most, false, false⟩).toArray 35 (0, 0)) :: .orow 41 2 (.slice none 0 0) ([] : List (Nat × List UInt8)).length ([] : List (List Value)).flatten :: []) := S.sel (.cons (.tail .head) (.cons .head .nil))
      have hplay := quPlayed nb 35 (.slice none 0 0) ⟨[], cap, most, false, false⟩ (Qu.fresh cap most) q [] oq oA cq cA [] w5 wb S2 trivial hq5.out hans.out (by omega) (rel_fresh cap most) (Qu.fresh_good cap most) hfine.out hok.out ⟨Nat.zero_le _, by show most ≤ _; omega, by show cap ≤ _; omega, fun e he => by cases he⟩
      replace hplay := hidden hplay
      clear S S2
      have hrel := hidden (played_rel q ⟨[], cap, most, false, false⟩ (Qu.fresh cap most) (rel_fresh cap most) (Qu.fresh_good cap most) hfine.out hok.out)
      have hlen1 := played_length q ⟨[], cap, most, false, false⟩ (Qu.fresh cap most)
      have happ := hidden (fun b h => okScript_append q b ⟨[], cap, most, false, false⟩ (Qu.fresh cap most) rfl hok.out h)
      generalize played ⟨[], cap, most, false, false⟩ (Qu.fresh cap most) q = s2 at *
      simp only [List.length_nil, Nat.zero_add] at hlen1
      go_upto_region 10 with (first | go_big_skip | go_big_skip | (refine wpList_ld S ?_) | (refine wpList_ld8 S ?_) | (refine wpList_ld0 ?_) | (refine wpList_ldA S ?_) | (refine wpList_st8 S ?_; (clear S; intro ws S)) | (refine wpList_st S ?_; (clear S; intro ws S)) | (refine wpList_box S ?_; (clear S; intro nb wb hnb S)) | (refine wpList_alloc S ?_; (clear S; intro nb wb hnb S)) | (refine wpList_mk8 S ?_; (clear S; intro nb wb hnb S)) | (refine wpList_mk S ?_; (clear S; intro nb wb hnb S)) | (refine wpList_bs S ?_; (clear S; intro nb wb hnb S)) | (refine wpList_stA S ?_; (clear S; intro ws S; simp only [splice, List.take_zero, List.take_succ_cons, List.drop_succ_cons, List.drop_zero, List.drop_nil, List.length_cons, List.length_nil, Nat.reduceAdd, Nat.zero_add, List.nil_append, List.cons_append, List.append_nil] at S)) | (refine wpList_b2sB S ?_) | (refine wpList_b2sR S ?_) | (refine wpList_ldc S ?_))
      refine Calls.mono hplay.out ?_
      rintro e w6 ⟨ev', css', rfl, hE', C⟩
      have S2 := S3.out.call C
      have hchg2 := hidden (hchg.out.trans (S3.out.chg.trans C.chg))
      clear S3 C
      simp only [List.cons_append, List.nil_append] at S2
      obtain ⟨oe, ce, rfl, hce⟩ := S2.orowShape (.tail .head)
      have hen := hidden hE'
      clear hE'
      rcases hrel.out with ⟨hend, _⟩ | ⟨hend, hrl, hg2⟩
      · have S := S2
        clear S2
        unfold listCells at S
        rw [hend] at S
        clear hend
        go_wp2_with (first | go_big_skip | go_big_skip | (refine wpList_ld S ?_) | (refine wpList_ld8 S ?_) | (refine wpList_ld0 ?_) | (refine wpList_ldA S ?_) | (refine wpList_st8 S ?_; (clear S; intro ws S)) | (refine wpList_st S ?_; (clear S; intro ws S)) | (refine wpList_box S ?_; (clear S; intro nb wb hnb S)) | (refine wpList_alloc S ?_; (clear S; intro nb wb hnb S)) | (refine wpList_mk8 S ?_; (clear S; intro nb wb hnb S)) | (refine wpList_mk S ?_; (clear S; intro nb wb hnb S)) | (refine wpList_bs S ?_; (clear S; intro nb wb hnb S)) | (refine wpList_stA S ?_; (clear S; intro ws S; simp only [splice, List.take_zero, List.take_succ_cons, List.drop_succ_cons, List.drop_zero, List.drop_nil, List.length_cons, List.length_nil, Nat.reduceAdd, Nat.zero_add, List.nil_append, List.cons_append, List.append_nil] at S)) | (refine wpList_b2sB S ?_) | (refine wpList_b2sR S ?_) | (refine wpList_ldc S ?_))
        refine Calls.mono (quLives _) ?_
        rintro e w7 ⟨rfl, C⟩
        go_wp2_with (first | go_big_skip | ((with_reducible show Code.wp _ (Code.region _ _ true) _ _ _); refine St.regionLast S ?_; (repeat (first | (go_big_quiet_step (fail)) | (go_big_quiet_want; (first | refine quiet_ld S ?_ | refine quiet_ld8 S ?_ | refine quiet_ld0 ?_ | refine quiet_ldA S ?_ | refine quiet_b2sB S ?_ | refine quiet_b2sR S ?_ | refine quiet_ldc S ?_); go_big_quiet_on))); refine wpQuiet_nil ?_; clear S; intro wq S) | go_big_skip | (refine wpList_ld S ?_) | (refine wpList_ld8 S ?_) | (refine wpList_ld0 ?_) | (refine wpList_ldA S ?_) | (refine wpList_st8 S ?_; (clear S; intro ws S)) | (refine wpList_st S ?_; (clear S; intro ws S)) | (refine wpList_box S ?_; (clear S; intro nb wb hnb S)) | (refine wpList_alloc S ?_; (clear S; intro nb wb hnb S)) | (refine wpList_mk8 S ?_; (clear S; intro nb wb hnb S)) | (refine wpList_mk S ?_; (clear S; intro nb wb hnb S)) | (refine wpList_bs S ?_; (clear S; intro nb wb hnb S)) | (refine wpList_stA S ?_; (clear S; intro ws S; simp only [splice, List.take_zero, List.take_succ_cons, List.drop_succ_cons, List.drop_zero, List.drop_nil, List.length_cons, List.length_nil, Nat.reduceAdd, Nat.zero_add, List.nil_append, List.cons_append, List.append_nil] at S)) | (refine wpList_b2sB S ?_) | (refine wpList_b2sR S ?_) | (refine wpList_ldc S ?_))
        ((first | go_ret | go_ret2 | go_ret3 | go_end0 | skip); refine hR.out _ _ ?_)
        exact ⟨rfl, hchg2.out.trans C.chg⟩
      · have hone := hidden hen.out.one
        have S := S2
        clear S2
        have hdone : (∃ ad, oe = some ad) ∨ s2.ents.length = 0 := by
          cases oe with
          | some ad => exact .inl ⟨ad, rfl⟩
          | none =>
            right
            have hs := S.orowSrc (.tail .head) hone.out
            have h1 := (hs.2.2 : _ ∧ _).2
            have h2 := hs.1
            rw [h1] at h2
            simp at h2; omega
        replace hdone := hidden hdone
        have hchg3 := hidden S.chg
        unfold listCells at S
        rw [hend] at S
        replace hend := hidden hend
        replace hg2 := hidden hg2
        replace hrl := hidden hrl
        go_wp2_with (first | go_big_skip | go_big_skip | (refine wpList_ld S ?_) | (refine wpList_ld8 S ?_) | (refine wpList_ld0 ?_) | (refine wpList_ldA S ?_) | (refine wpList_st8 S ?_; (clear S; intro ws S)) | (refine wpList_st S ?_; (clear S; intro ws S)) | (refine wpList_box S ?_; (clear S; intro nb wb hnb S)) | (refine wpList_alloc S ?_; (clear S; intro nb wb hnb S)) | (refine wpList_mk8 S ?_; (clear S; intro nb wb hnb S)) | (refine wpList_mk S ?_; (clear S; intro nb wb hnb S)) | (refine wpList_bs S ?_; (clear S; intro nb wb hnb S)) | (refine wpList_stA S ?_; (clear S; intro ws S; simp only [splice, List.take_zero, List.take_succ_cons, List.drop_succ_cons, List.drop_zero, List.drop_nil, List.length_cons, List.length_nil, Nat.reduceAdd, Nat.zero_add, List.nil_append, List.cons_append, List.append_nil] at S)) | (refine wpList_b2sB S ?_) | (refine wpList_b2sR S ?_) | (refine wpList_ldc S ?_))
        go_loopg [2, 11, 52] s2.ents.length (fun g v2 x11 i wr => ∃ (k m : Nat) (css2 : List (List Value)), Hid (k + g = s2.ents.length) ∧ i = .int .i64 k ∧ k ≤ s2.ents.length ∧ m = q.length + 2 * k ∧
          Hid (Each (fun x cs => OpV w3 x cs ∧ cs.length = 3) (q ++ gets (s2.ents.take k)) css2) ∧ St w3 [] wr [.row 28 3 v2 m css2.flatten, .blk nb (.cells [.slice oe s2.ents.length ce, .int .i64 s2.cap, .int .i64 s2.most, .bool s2.lost, .bool false].toArray 35 (0, 0)), .orow 41 2 (.slice oe s2.ents.length ce) s2.ents.length css'.flatten])
        case atStart => exact ⟨0, q.length, css, hidden (by omega), rfl, Nat.zero_le _, by omega, hidden (by rw [List.take_zero, show gets [] = [] from rfl, List.append_nil]; exact hq.out), S.sel (by repeat (first | exact Sel.nil | (apply Sel.cons; (repeat (first | exact Pull.head | apply Pull.tail)))))⟩
        case round =>
          clear S
          obtain ⟨k, m, css2, hg, rfl, hkn, rfl, hE, S⟩ := hrel
          by_cases hlt : k < s2.ents.length
          · obtain ⟨ad, rfl⟩ := hdone.out.resolve_right (by omega)
            obtain ⟨e, he⟩ : ∃ e, s2.ents[k]? = some e := ⟨_, List.getElem?_eq_getElem hlt⟩
            obtain ⟨ob, cb, hcs, hx⟩ := ents_at hen.out k e he
            replace hx := hidden hx
            have htk := hidden (show s2.ents.take (k + 1) = s2.ents.take k ++ [e] by rw [List.take_add_one, he]; rfl)
            clear he hcs
            go_wp2_with (first | go_big_skip | (refine wpList_ldOk S k ?_ (cs := [.int .i64 (e.1 : Nat), .slice ob e.2.length cb]) rfl hx.out rfl) | (refine wpList_appB S ?_; (clear S; intro va wa hva S)) | go_big_skip | (refine wpList_ld S ?_) | (refine wpList_ld8 S ?_) | (refine wpList_ld0 ?_) | (refine wpList_ldA S ?_) | (refine wpList_st8 S ?_; (clear S; intro ws S)) | (refine wpList_st S ?_; (clear S; intro ws S)) | (refine wpList_box S ?_; (clear S; intro nb wb hnb S)) | (refine wpList_alloc S ?_; (clear S; intro nb wb hnb S)) | (refine wpList_mk8 S ?_; (clear S; intro nb wb hnb S)) | (refine wpList_mk S ?_; (clear S; intro nb wb hnb S)) | (refine wpList_bs S ?_; (clear S; intro nb wb hnb S)) | (refine wpList_stA S ?_; (clear S; intro ws S; simp only [splice, List.take_zero, List.take_succ_cons, List.drop_succ_cons, List.drop_zero, List.drop_nil, List.length_cons, List.length_nil, Nat.reduceAdd, Nat.zero_add, List.nil_append, List.cons_append, List.append_nil] at S)) | (refine wpList_b2sB S ?_) | (refine wpList_b2sR S ?_) | (refine wpList_ldc S ?_))
            go_roundg (gk - 1)
            case measure => have := hg.out; omega
            case rel =>
              refine ⟨k + 1, q.length + 2 * (k + 1), css2 ++ [[.int .i64 3, .slice none 0 0, .int .i64 (e.1 : Nat)], [.int .i64 4, .slice none 0 0, .int .i64 (e.1 : Nat)]], hidden (by have := hg.out; omega), by go_num, by omega, by omega, hidden ?_, ?_⟩
              · rw [htk.out, gets_snoc, ← List.append_assoc]
                exact hE.out.append ⟨⟨⟨none, 0, 0, rfl, Src.nil w3 1 0, Nat.le_refl _⟩, rfl⟩, ⟨⟨none, 0, 0, rfl, Src.nil w3 1 0, Nat.le_refl _⟩, rfl⟩, trivial⟩
              · rw [List.flatten_append]; exact S.sel (by repeat (first | exact Sel.nil | (apply Sel.cons; (repeat (first | exact Pull.head | apply Pull.tail)))))
          · have hkl : k = s2.ents.length := by omega
            clear hlt
            subst hkl
            rw [List.take_length] at hE
            clear hkn hg hcq hq
            go_upto_region 18 with (first | go_big_skip | (refine wpList_appB S ?_; (clear S; intro va wa hva S)) | go_big_skip | (refine wpList_ld S ?_) | (refine wpList_ld8 S ?_) | (refine wpList_ld0 ?_) | (refine wpList_ldA S ?_) | (refine wpList_st8 S ?_; (clear S; intro ws S)) | (refine wpList_st S ?_; (clear S; intro ws S)) | (refine wpList_box S ?_; (clear S; intro nb wb hnb S)) | (refine wpList_alloc S ?_; (clear S; intro nb wb hnb S)) | (refine wpList_mk8 S ?_; (clear S; intro nb wb hnb S)) | (refine wpList_mk S ?_; (clear S; intro nb wb hnb S)) | (refine wpList_bs S ?_; (clear S; intro nb wb hnb S)) | (refine wpList_stA S ?_; (clear S; intro ws S; simp only [splice, List.take_zero, List.take_succ_cons, List.drop_succ_cons, List.drop_zero, List.drop_nil, List.length_cons, List.length_nil, Nat.reduceAdd, Nat.zero_add, List.nil_append, List.cons_append, List.append_nil] at S)) | (refine wpList_b2sB S ?_) | (refine wpList_b2sR S ?_) | (refine wpList_ldc S ?_))
            obtain ⟨Q, hQ⟩ : ∃ Q, q ++ (gets s2.ents ++ lastGets) = Q := ⟨_, rfl⟩
            have hQl : q.length + 2 * s2.ents.length + 3 = Q.length := by rw [← hQ, List.length_append, List.length_append, gets_length]; rfl
            have hqt := gets_quiet s2 s2.ents (fun e he => he)
            have hok2 : okScript ⟨[], cap, most, false, false⟩ (Qu.fresh cap most) Q := by
              rw [← hQ]
              exact happ.out _ fun _ => quiet_ok _ s2 _ hqt
            have hfin2 : qFine (Qu.fresh cap most) Q := by
              rw [← hQ, qFine_append]
              refine ⟨hfine.out, quiet_fine _ s2 _ hqt hrl.out ?_ (by rw [hm1]; omega)⟩
              have := hb1.cap
              rw [hm1] at this
              have := hA.out.asks
              omega
            have hk7 : ∀ op ∈ Q, op.kind ≤ 7 := fun op hop => by
              rw [← hQ] at hop
              rcases List.mem_append.1 hop with hop | hop
              · exact hA.out.kinds op hop
              · obtain ⟨_, h1⟩ := hqt op hop
                rcases h1 with h | ⟨h | h, _⟩ <;> rw [h] <;> decide
            have htot : total Q ≤ 262144 := by
              rw [← hQ]
              have e : total (q ++ (gets s2.ents ++ lastGets)) = total q + total (gets s2.ents ++ lastGets) := by unfold total; rw [List.map_append, List.sum_append]
              rw [e, quiet_total hqt]; have := hA.out.total; omega
            have hE3 : Each (fun x cs => OpV w3 x cs ∧ cs.length = 3) Q (css2 ++ lastCells) := by
              rw [← hQ, ← List.append_assoc]
              exact hE.out.append ⟨⟨⟨none, 0, 0, rfl, Src.nil w3 1 0, Nat.le_refl _⟩, rfl⟩, ⟨⟨none, 0, 0, rfl, Src.nil w3 1 0, Nat.le_refl _⟩, rfl⟩, ⟨⟨none, 0, 0, rfl, Src.nil w3 1 0, Nat.le_refl _⟩, rfl⟩, trivial⟩
            have S2 : St w3 [] wa [.row 28 3 va Q.length (css2 ++ lastCells).flatten] := by
              rw [List.flatten_append, ← hQl]; exact S.sel (by repeat (first | exact Sel.nil | (apply Sel.cons; (repeat (first | exact Pull.head | apply Pull.tail)))))
            have hQ4 : Q.length ≤ 400 := by omega
            have hchg4 := hidden (hchg.out.trans S.chg)
            clear S hQl hQ hva
            obtain ⟨oq2, cq2, rfl, hcq⟩ : ∃ oq cq, va = .slice oq Q.length cq ∧ Q.length ≤ cq := by
              obtain ⟨oq, cq, h1, h2, _⟩ := row_shape (by decide) (S2.mem.2 _ List.mem_cons_self)
              exact ⟨oq, cq, h1, h2⟩
            have hq := hidden (ops_arr hE3 S2 .head)
            clear S2 hE3 hE hqt hplay hans hq5 hb1 hm1
            replace hfin2 := hidden hfin2
            replace hok2 := hidden hok2
            replace hk7 := hidden hk7
            replace htot := hidden htot
            have S := St.begin wa
            go_wp2_with (first | go_big_skip | go_big_skip | (refine wpList_ld S ?_) | (refine wpList_ld8 S ?_) | (refine wpList_ld0 ?_) | (refine wpList_ldA S ?_) | (refine wpList_st8 S ?_; (clear S; intro ws S)) | (refine wpList_st S ?_; (clear S; intro ws S)) | (refine wpList_box S ?_; (clear S; intro nb wb hnb S)) | (refine wpList_alloc S ?_; (clear S; intro nb wb hnb S)) | (refine wpList_mk8 S ?_; (clear S; intro nb wb hnb S)) | (refine wpList_mk S ?_; (clear S; intro nb wb hnb S)) | (refine wpList_bs S ?_; (clear S; intro nb wb hnb S)) | (refine wpList_stA S ?_; (clear S; intro ws S; simp only [splice, List.take_zero, List.take_succ_cons, List.drop_succ_cons, List.drop_zero, List.drop_nil, List.length_cons, List.length_nil, Nat.reduceAdd, Nat.zero_add, List.nil_append, List.cons_append, List.append_nil] at S)) | (refine wpList_b2sB S ?_) | (refine wpList_b2sR S ?_) | (refine wpList_ldc S ?_))
            refine Calls.mono (queueRun _ Q cap most _ hq.out hk7.out hQ4 htot.out (by omega) (by omega) hfin2.out) ?_
            rintro e w7 ⟨ov, rfl, hans, C⟩
            have hq5 := hidden (hq.out.on C fun _ _ h => h.on C)
            have hchg5 := hidden (hchg4.out.trans C)
            clear S C hq
            have S := St.begin w7
            obtain ⟨oA2, cA2, rfl, hcA2⟩ := hans.shape
            rw [qRun_length] at hans hcA2
            rw [qRun_length]
            replace hans := hidden hans
            go_wp2_with (first | go_big_skip | go_big_skip | (refine wpList_ld S ?_) | (refine wpList_ld8 S ?_) | (refine wpList_ld0 ?_) | (refine wpList_ldA S ?_) | (refine wpList_st8 S ?_; (clear S; intro ws S)) | (refine wpList_st S ?_; (clear S; intro ws S)) | (refine wpList_box S ?_; (clear S; intro nb wb hnb S)) | (refine wpList_alloc S ?_; (clear S; intro nb wb hnb S)) | (refine wpList_mk8 S ?_; (clear S; intro nb wb hnb S)) | (refine wpList_mk S ?_; (clear S; intro nb wb hnb S)) | (refine wpList_bs S ?_; (clear S; intro nb wb hnb S)) | (refine wpList_stA S ?_; (clear S; intro ws S; simp only [splice, List.take_zero, List.take_succ_cons, List.drop_succ_cons, List.drop_zero, List.drop_nil, List.length_cons, List.length_nil, Nat.reduceAdd, Nat.zero_add, List.nil_append, List.cons_append, List.append_nil] at S)) | (refine wpList_b2sB S ?_) | (refine wpList_b2sR S ?_) | (refine wpList_ldc S ?_))
            have S := S.nilORow 41 2
            have S2 := S.sel (rs := .blk nb (.cells (listCells (.slice none 0 0) ⟨[], cap, most, false, false⟩).toArray 35 (0, 0)) :: .orow 41 2 (.slice none 0 0) ([] : List (Nat × List UInt8)).length ([] : List (List Value)).flatten :: []) (.cons (.tail .head) (.cons .head .nil))
            refine Calls.mono (quPlayed nb 35 (.slice none 0 0) ⟨[], cap, most, false, false⟩ (Qu.fresh cap most) Q [] oq2 oA2 cq2 cA2 [] w7 _ S2 trivial hq5.out hans.out (by omega) (rel_fresh cap most) (Qu.fresh_good cap most) hfin2.out hok2.out ⟨Nat.zero_le _, by show most ≤ _; omega, by show cap ≤ _; omega, fun e he => by cases he⟩) ?_
            rintro e w8 ⟨ev8, css8, rfl, _, C⟩
            have hchg6 := hidden (hchg5.out.trans C.chg)
            clear S S2 C
            go_wp2_with (first | go_big_skip | go_big_skip | (refine wpList_ld S ?_) | (refine wpList_ld8 S ?_) | (refine wpList_ld0 ?_) | (refine wpList_ldA S ?_) | (refine wpList_st8 S ?_; (clear S; intro ws S)) | (refine wpList_st S ?_; (clear S; intro ws S)) | (refine wpList_box S ?_; (clear S; intro nb wb hnb S)) | (refine wpList_alloc S ?_; (clear S; intro nb wb hnb S)) | (refine wpList_mk8 S ?_; (clear S; intro nb wb hnb S)) | (refine wpList_mk S ?_; (clear S; intro nb wb hnb S)) | (refine wpList_bs S ?_; (clear S; intro nb wb hnb S)) | (refine wpList_stA S ?_; (clear S; intro ws S; simp only [splice, List.take_zero, List.take_succ_cons, List.drop_succ_cons, List.drop_zero, List.drop_nil, List.length_cons, List.length_nil, Nat.reduceAdd, Nat.zero_add, List.nil_append, List.cons_append, List.append_nil] at S)) | (refine wpList_b2sB S ?_) | (refine wpList_b2sR S ?_) | (refine wpList_ldc S ?_))
            refine Calls.mono (quLives _) ?_
            rintro e w9 ⟨rfl, C⟩
            go_wp2_with (first | go_big_skip | ((with_reducible show Code.wp _ (Code.region _ _ true) _ _ _); refine St.regionLast S ?_; (repeat (first | (go_big_quiet_step (fail)) | (go_big_quiet_want; (first | refine quiet_ld S ?_ | refine quiet_ld8 S ?_ | refine quiet_ld0 ?_ | refine quiet_ldA S ?_ | refine quiet_b2sB S ?_ | refine quiet_b2sR S ?_ | refine quiet_ldc S ?_); go_big_quiet_on))); refine wpQuiet_nil ?_; clear S; intro wq S) | go_big_skip | (refine wpList_ld S ?_) | (refine wpList_ld8 S ?_) | (refine wpList_ld0 ?_) | (refine wpList_ldA S ?_) | (refine wpList_st8 S ?_; (clear S; intro ws S)) | (refine wpList_st S ?_; (clear S; intro ws S)) | (refine wpList_box S ?_; (clear S; intro nb wb hnb S)) | (refine wpList_alloc S ?_; (clear S; intro nb wb hnb S)) | (refine wpList_mk8 S ?_; (clear S; intro nb wb hnb S)) | (refine wpList_mk S ?_; (clear S; intro nb wb hnb S)) | (refine wpList_bs S ?_; (clear S; intro nb wb hnb S)) | (refine wpList_stA S ?_; (clear S; intro ws S; simp only [splice, List.take_zero, List.take_succ_cons, List.drop_succ_cons, List.drop_zero, List.drop_nil, List.length_cons, List.length_nil, Nat.reduceAdd, Nat.zero_add, List.nil_append, List.cons_append, List.append_nil] at S)) | (refine wpList_b2sB S ?_) | (refine wpList_b2sR S ?_) | (refine wpList_ldc S ?_))
            ((first | go_ret | go_ret2 | go_ret3 | go_end0 | skip); refine hR.out _ _ ?_)
            exact ⟨rfl, hchg6.out.trans C.chg⟩
theorem rowQueueGets {H : Type} {enc : TypeId × Value → H} {base base' : Nat} {spare : Nat → Bool} {held : Bool} {r : Reach} {d : DataW H} {ps : List MemPlace} {X0 X1 X2 : Prop} (a0 a1 : Int) (v : Value) (W : World) (_ : X0) (_ : X1)
    (hval : Value.okWide Try.prog W r base' 22 v) (hd : DataW.Trod enc Try.prog W base spare held 22 v d ps) (_ : X2) :
    Calls Try.prog 4 #[.int .i64 a0, .int .i64 a1, v] W fun e w' => e = .returned (.bool true) ∧ Below W.heap.size W w' := by
  obtain ⟨ops, h⟩ := open_qops hval hd
  exact Calls.mono (lawQueueGets a0 a1 v ops W h) fun e w' ⟨h1, h2⟩ => ⟨h1, h2.below⟩
end Go.Proofs.Ytkfkcinkkgdebaa
