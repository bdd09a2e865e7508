/- Where there is room for an entry. -/
import Derived.Test.YtkfkcinkkgdebaaQp
namespace Go.Vil
open Go Go.RowKit
section
variable {P : Program} {ops : Array Oper} {Q : Exit → Act → World → Prop} {rest : List Oper} {o : Oper} {a : Act} {w w' : World}
/-- A load of an element of a slice of the call's own. -/
theorem wpList_ldOk {w0 : World} {bs : List Nat} {L F : List Res} (S : St w0 bs w L) {a' : Act} {ty e : TypeId} {x : Operand} {ad : Addr} {n c size : Nat} {xs cs : List Value} (kk : Nat)
    (k : wpList P ops Q rest a' w) (hcs : cs.length = size) (hx : ∀ j v, cs[j]? = some v → xs[kk * size + j]? = some v) (ha : slot a x = some (.pointer (some (ad.add (kk * size)))))
    (hw : Region.wanted o (yielded ops a.tmps) = true := by rfl) (ho : o.op = .load ty x := by rfl) (hT0 : TAgg P ty size := by infer_instance)
    (hp : Pull (.orow e size (.slice (some ad) n c) n xs) L F := by repeat (first | exact Pull.head | apply Pull.tail))
    (hput : Put a o.dst (.agg cs.toArray) a' := by exact put_of (by conv => lhs; simp only [List.set_cons_succ, List.set_cons_zero])) : wpList P ops Q (o :: rest) a w := by
  obtain ⟨g, of, hg⟩ : ∃ g of, ad = ⟨g, of, none⟩ := by
    rcases (S.mem.2 _ hp.mem : hasRow w e size (.slice (some ad) n c) n xs).2 with ⟨h5, _⟩ | ⟨g, of, cap, cur, h5, _⟩
    · cases h5
    · cases h5; exact ⟨g, of, rfl⟩
  subst hg
  have hcell := hasRow.cells (S.mem.2 _ hp.mem : hasRow w e size (.slice (some ⟨g, of, none⟩) n c) n xs)
  exact wpList_run hw (run_ldA ty x ho (eval_slot ha) hcs fun j v hv => by rw [Go.Vil.add_add]; exact hcell _ v (hx j v hv)) (hput.is ▸ k)
end
end Go.Vil
namespace Go.Vil
theorem St.toORow {w0 : World} {bs : List Nat} {w : World} {L F : List Res} (S : St w0 bs w L) {e : TypeId} {size n : Nat} {v : Value} {xs : List Value} (hp : Pull (.row e size v n xs) L F) : St w0 bs w (.orow e size v n xs :: F) := by
  have S' := S.perm hp.perm
  refine ⟨⟨?_, fun r hr => ?_⟩, S'.chg, fun r hr b hb => ?_⟩
  · have := S'.mem.1
    rw [List.filterMap_cons] at this ⊢
    exact this
  · cases hr with
    | head => exact hasRow.of_own (S'.mem.2 _ List.mem_cons_self)
    | tail _ hr => exact S'.mem.2 r (List.mem_cons_of_mem _ hr)
  · cases hr with
    | head => exact S'.org (.row e size v n xs) List.mem_cons_self b hb
    | tail _ hr => exact S'.org r (List.mem_cons_of_mem _ hr) b hb
end Go.Vil
namespace Go.Proofs.Ytkfkcinkkgdebaa
open Go Go.RowKit Go.Vil
set_option linter.unusedSimpArgs false
set_option linter.unusedVariables false
set_option maxRecDepth 100000

theorem implNeeds (n : Nat) (w : World) (hn : n < 16382) : Calls Try.prog 27 #[.int .i64 n] w fun e w' => e = .returned (.int .i64 (needs n : Nat)) ∧ St w [] w' [] := by
  have hz : ∀ w, Calls Try.prog 44 #[.int .i64 n] w fun e w' => e = .returned (.int .i64 (needs n : Nat)) ∧ St w [] w' [] := by
    intro w
    have S := St.begin w
    refine Calls.cps ?_; intro R hR
    go_enter Try.func44, Try.ntmps44
    go_wp2_with (first | go_big_skip | ((with_reducible show Code.wp _ (Code.region _ _ true) _ _ _); refine St.regionLast S ?_; (repeat (first | (go_big_quiet_step (fail)) | (go_big_quiet_want; (first | refine quiet_ld S ?_ | refine quiet_ld8 S ?_ | refine quiet_ld0 ?_ | refine quiet_ldA S ?_ | refine quiet_b2sB S ?_ | refine quiet_b2sR S ?_ | refine quiet_ldc S ?_); go_big_quiet_on))); refine wpQuiet_nil ?_; clear S; intro wq S) | go_big_skip | (refine wpList_ld S ?_) | (refine wpList_ld8 S ?_) | (refine wpList_ld0 ?_) | (refine wpList_ldA S ?_) | (refine wpList_st8 S ?_; (clear S; intro ws S)) | (refine wpList_st S ?_; (clear S; intro ws S)) | (refine wpList_box S ?_; (clear S; intro nb wb hnb S)) | (refine wpList_alloc S ?_; (clear S; intro nb wb hnb S)) | (refine wpList_mk8 S ?_; (clear S; intro nb wb hnb S)) | (refine wpList_mk S ?_; (clear S; intro nb wb hnb S)) | (refine wpList_bs S ?_; (clear S; intro nb wb hnb S)) | (refine wpList_stA S ?_; (clear S; intro ws S; simp only [splice, List.take_zero, List.take_succ_cons, List.drop_succ_cons, List.drop_zero, List.drop_nil, List.length_cons, List.length_nil, Nat.reduceAdd, Nat.zero_add, List.nil_append, List.cons_append, List.append_nil] at S)) | (refine wpList_b2sB S ?_) | (refine wpList_b2sR S ?_) | (refine wpList_ldc S ?_))
    refine Calls.mono (neededSize _ n _ rfl hn) ?_
    rintro e w2 ⟨rfl, C⟩
    have S2 := S.call C; clear S C; simp only [List.cons_append, List.nil_append] at S2; have S := S2; clear S2
    go_wp2_with (first | go_big_skip | ((with_reducible show Code.wp _ (Code.region _ _ true) _ _ _); refine St.regionLast S ?_; (repeat (first | (go_big_quiet_step (fail)) | (go_big_quiet_want; (first | refine quiet_ld S ?_ | refine quiet_ld8 S ?_ | refine quiet_ld0 ?_ | refine quiet_ldA S ?_ | refine quiet_b2sB S ?_ | refine quiet_b2sR S ?_ | refine quiet_ldc S ?_); go_big_quiet_on))); refine wpQuiet_nil ?_; clear S; intro wq S) | go_big_skip | (refine wpList_ld S ?_) | (refine wpList_ld8 S ?_) | (refine wpList_ld0 ?_) | (refine wpList_ldA S ?_) | (refine wpList_st8 S ?_; (clear S; intro ws S)) | (refine wpList_st S ?_; (clear S; intro ws S)) | (refine wpList_box S ?_; (clear S; intro nb wb hnb S)) | (refine wpList_alloc S ?_; (clear S; intro nb wb hnb S)) | (refine wpList_mk8 S ?_; (clear S; intro nb wb hnb S)) | (refine wpList_mk S ?_; (clear S; intro nb wb hnb S)) | (refine wpList_bs S ?_; (clear S; intro nb wb hnb S)) | (refine wpList_stA S ?_; (clear S; intro ws S; simp only [splice, List.take_zero, List.take_succ_cons, List.drop_succ_cons, List.drop_zero, List.drop_nil, List.length_cons, List.length_nil, Nat.reduceAdd, Nat.zero_add, List.nil_append, List.cons_append, List.append_nil] at S)) | (refine wpList_b2sB S ?_) | (refine wpList_b2sR S ?_) | (refine wpList_ldc S ?_))
    ((first | go_ret | go_ret2 | go_ret3 | go_end0 | skip); refine hR.out _ _ ?_)
    exact ⟨rfl, S.sel (by repeat (first | exact Sel.nil | (apply Sel.cons; (repeat (first | exact Pull.head | apply Pull.tail)))))⟩
  replace hz := hidden hz
  have S := St.begin w
  refine Calls.cps ?_; intro R hR
  go_enter Try.func27, Try.ntmps27
  have h0 : ¬ (0 : Int) > (n : Int) := by omega
  go_wp2_with (first | go_big_skip | ((with_reducible show Code.wp _ (Code.region _ _ true) _ _ _); refine St.regionLast S ?_; (repeat (first | (go_big_quiet_step (fail)) | (go_big_quiet_want; (first | refine quiet_ld S ?_ | refine quiet_ld8 S ?_ | refine quiet_ld0 ?_ | refine quiet_ldA S ?_ | refine quiet_b2sB S ?_ | refine quiet_b2sR S ?_ | refine quiet_ldc S ?_); go_big_quiet_on))); refine wpQuiet_nil ?_; clear S; intro wq S) | go_big_skip | (refine wpList_ld S ?_) | (refine wpList_ld8 S ?_) | (refine wpList_ld0 ?_) | (refine wpList_ldA S ?_) | (refine wpList_st8 S ?_; (clear S; intro ws S)) | (refine wpList_st S ?_; (clear S; intro ws S)) | (refine wpList_box S ?_; (clear S; intro nb wb hnb S)) | (refine wpList_alloc S ?_; (clear S; intro nb wb hnb S)) | (refine wpList_mk8 S ?_; (clear S; intro nb wb hnb S)) | (refine wpList_mk S ?_; (clear S; intro nb wb hnb S)) | (refine wpList_bs S ?_; (clear S; intro nb wb hnb S)) | (refine wpList_stA S ?_; (clear S; intro ws S; simp only [splice, List.take_zero, List.take_succ_cons, List.drop_succ_cons, List.drop_zero, List.drop_nil, List.length_cons, List.length_nil, Nat.reduceAdd, Nat.zero_add, List.nil_append, List.cons_append, List.append_nil] at S)) | (refine wpList_b2sB S ?_) | (refine wpList_b2sR S ?_) | (refine wpList_ldc S ?_))
  refine Calls.mono (hz.out _) ?_
  rintro e w2 ⟨rfl, C⟩
  have S2 := S.call C; clear S C; simp only [List.cons_append, List.nil_append] at S2; have S := S2; clear S2
  go_wp2_with (first | go_big_skip | ((with_reducible show Code.wp _ (Code.region _ _ true) _ _ _); refine St.regionLast S ?_; (repeat (first | (go_big_quiet_step (fail)) | (go_big_quiet_want; (first | refine quiet_ld S ?_ | refine quiet_ld8 S ?_ | refine quiet_ld0 ?_ | refine quiet_ldA S ?_ | refine quiet_b2sB S ?_ | refine quiet_b2sR S ?_ | refine quiet_ldc S ?_); go_big_quiet_on))); refine wpQuiet_nil ?_; clear S; intro wq S) | go_big_skip | (refine wpList_ld S ?_) | (refine wpList_ld8 S ?_) | (refine wpList_ld0 ?_) | (refine wpList_ldA S ?_) | (refine wpList_st8 S ?_; (clear S; intro ws S)) | (refine wpList_st S ?_; (clear S; intro ws S)) | (refine wpList_box S ?_; (clear S; intro nb wb hnb S)) | (refine wpList_alloc S ?_; (clear S; intro nb wb hnb S)) | (refine wpList_mk8 S ?_; (clear S; intro nb wb hnb S)) | (refine wpList_mk S ?_; (clear S; intro nb wb hnb S)) | (refine wpList_bs S ?_; (clear S; intro nb wb hnb S)) | (refine wpList_stA S ?_; (clear S; intro ws S; simp only [splice, List.take_zero, List.take_succ_cons, List.drop_succ_cons, List.drop_zero, List.drop_nil, List.length_cons, List.length_nil, Nat.reduceAdd, Nat.zero_add, List.nil_append, List.cons_append, List.append_nil] at S)) | (refine wpList_b2sB S ?_) | (refine wpList_b2sR S ?_) | (refine wpList_ldc S ?_))
  ((first | go_ret | go_ret2 | go_ret3 | go_end0 | skip); refine hR.out _ _ ?_)
  exact ⟨rfl, S.sel (by repeat (first | exact Sel.nil | (apply Sel.cons; (repeat (first | exact Pull.head | apply Pull.tail)))))⟩

/-- What a push does, by where there is room. -/
theorem push_room {x : Qu} (hg : x.Good) (d : List UInt8) :
    (x.after (needs d.length) = true → (qStep x ⟨0, d, 0⟩).2.fault = 0 ∧ (qStep x ⟨0, d, 0⟩).2.number = x.tail ∧ (qStep x ⟨0, d, 0⟩).1.cap = x.cap) ∧
    (x.after (needs d.length) = false → x.before (needs d.length) = true → (qStep x ⟨0, d, 0⟩).2.fault = 0 ∧ (qStep x ⟨0, d, 0⟩).2.number = 1 ∧ (qStep x ⟨0, d, 0⟩).1.cap = x.cap) ∧
    (x.after (needs d.length) = false → x.before (needs d.length) = false → (qStep x ⟨0, d, 0⟩).2.fault = 1 ∨ ((qStep x ⟨0, d, 0⟩).2.fault = 0 ∧ x.cap < (qStep x ⟨0, d, 0⟩).1.cap)) := by
  rw [qStep_push]
  have hput : ∀ (y : Qu) (b : Blk), (y.put b).cap = y.cap := fun y b => by unfold Qu.put; split <;> rfl
  unfold Qu.push
  refine ⟨fun h => ?_, fun h h2 => ?_, fun h h2 => ?_⟩
  · rw [if_pos h]; exact ⟨rfl, rfl, hput _ _⟩
  · rw [if_neg (by rw [h]; simp), if_pos h2]; exact ⟨rfl, rfl, rfl⟩
  · rw [if_neg (by rw [h]; simp), if_neg (by rw [h2]; simp)]
    by_cases h3 : x.cap + needs d.length ≥ x.max ∧ x.max > 0
    · rw [if_pos h3]; exact .inl rfl
    · rw [if_neg h3]
      right
      refine ⟨rfl, ?_⟩
      show x.cap < ((x.grow (needs d.length)).put (entry d)).cap
      rw [hput]
      have hn := Go.Vil.Qu.needs_pos d.length
      have := (Qu.newCap_room hn h3).2.1
      show x.cap < x.newCap _
      omega
theorem step_eight (x : Qu) (n : Nat) : qStep x ⟨8, [], n⟩ = (x, ⟨0, if x.after n then 1 else 0, []⟩) := by unfold qStep; simp
theorem step_nine (x : Qu) (n : Nat) : qStep x ⟨9, [], n⟩ = (x, ⟨0, if x.before n then 1 else 0, []⟩) := by unfold qStep; simp

set_option maxHeartbeats 1600000 in
theorem asked6B (v : Value) (ops : List QOp) (w0 w : World) (F : List Res) (S : St w0 [] w F) (h : Arr OpV 3 w0 v ops) (hlen : ops.length ≤ 60) :
    Calls Try.prog 15 #[v] w fun e w' => ∃ ov css, e = .returned ov ∧ Each (fun x cs => OpV w0 x cs ∧ cs.length = 3) (asked ops) css ∧ St w0 [] w' (.row 28 3 ov (asked ops).length css.flatten :: F) := by
  obtain ⟨oa, c, rfl, hc⟩ := h.shape
  have hh := hidden h
  clear h
  refine Calls.cps ?_; intro R hR
  go_enter Try.func15, Try.ntmps15
  go_wp2_with (first | go_big_skip | ((with_reducible show Code.wp _ (Code.region _ _ true) _ _ _); refine St.regionLast S ?_; (repeat (first | (go_big_quiet_step (fail)) | (go_big_quiet_want; (first | refine quiet_ld S ?_ | refine quiet_ld8 S ?_ | refine quiet_ld0 ?_ | refine quiet_ldA S ?_ | refine quiet_b2sB S ?_ | refine quiet_b2sR S ?_ | refine quiet_ldc S ?_); go_big_quiet_on))); refine wpQuiet_nil ?_; clear S; intro wq S) | go_big_skip | (refine wpList_ld S ?_) | (refine wpList_ld8 S ?_) | (refine wpList_ld0 ?_) | (refine wpList_ldA S ?_) | (refine wpList_st8 S ?_; (clear S; intro ws S)) | (refine wpList_st S ?_; (clear S; intro ws S)) | (refine wpList_box S ?_; (clear S; intro nb wb hnb S)) | (refine wpList_alloc S ?_; (clear S; intro nb wb hnb S)) | (refine wpList_mk8 S ?_; (clear S; intro nb wb hnb S)) | (refine wpList_mk S ?_; (clear S; intro nb wb hnb S)) | (refine wpList_bs S ?_; (clear S; intro nb wb hnb S)) | (refine wpList_stA S ?_; (clear S; intro ws S; simp only [splice, List.take_zero, List.take_succ_cons, List.drop_succ_cons, List.drop_zero, List.drop_nil, List.length_cons, List.length_nil, Nat.reduceAdd, Nat.zero_add, List.nil_append, List.cons_append, List.append_nil] at S)) | (refine wpList_b2sB S ?_) | (refine wpList_b2sR S ?_) | (refine wpList_ldc S ?_))
  have S := S.nilRow 28 3
  go_loopg [3, 5, 8] ops.length (fun g out x i wr => ∃ (k : Nat) (css : List (List Value)) (n : Nat), Hid (k + g = ops.length) ∧ i = .int .i64 k ∧ k ≤ ops.length ∧ n ≤ 2 * k ∧ Hid (n = (asked (ops.take k)).length) ∧ Hid (Each (fun x cs => OpV w0 x cs ∧ cs.length = 3) (asked (ops.take k)) css) ∧ St w0 [] wr (.row 28 3 out n css.flatten :: F))
  case atStart => exact ⟨0, [], 0, hidden (by omega), rfl, Nat.zero_le _, by omega, hidden (by simp [asked]), hidden (by simp [asked, Each]), S⟩
  case round =>
    obtain ⟨k, css, n, hg, rfl, hkn, hn2, hnl, hE, S⟩ := hrel
    by_cases hlt : k < ops.length
    · obtain ⟨ad, rfl⟩ := hh.out.some (by decide) (by omega)
      have hop : ops[k]? = some ops[k] := List.getElem?_eq_getElem hlt
      obtain ⟨cs, hV, hl3, hcell⟩ := hh.out.get k _ hop
      have htk := hidden (asked_take hop)
      generalize ops[k] = op at *
      have hV2 := hidden hV
      obtain ⟨oa', n', c', rfl, hs', hc'⟩ := hV
      obtain ⟨kd, dt, ix⟩ := op
      simp only at *
      replace hcell := hidden hcell
      clear hop hs' hl3
      by_cases h0 : kd = 0
      · subst h0
        go_wp2_with (first | (refine wpList_ldAc S ?_ (by rfl) hcell.out) | (refine wpList_appB S ?_; (clear S; intro va wa hva S)) | go_big_skip | (refine wpList_ld S ?_) | (refine wpList_ld8 S ?_) | (refine wpList_ld0 ?_) | (refine wpList_ldA S ?_) | (refine wpList_st8 S ?_; (clear S; intro ws S)) | (refine wpList_st S ?_; (clear S; intro ws S)) | (refine wpList_box S ?_; (clear S; intro nb wb hnb S)) | (refine wpList_alloc S ?_; (clear S; intro nb wb hnb S)) | (refine wpList_mk8 S ?_; (clear S; intro nb wb hnb S)) | (refine wpList_mk S ?_; (clear S; intro nb wb hnb S)) | (refine wpList_bs S ?_; (clear S; intro nb wb hnb S)) | (refine wpList_stA S ?_; (clear S; intro ws S; simp only [splice, List.take_zero, List.take_succ_cons, List.drop_succ_cons, List.drop_zero, List.drop_nil, List.length_cons, List.length_nil, Nat.reduceAdd, Nat.zero_add, List.nil_append, List.cons_append, List.append_nil] at S)) | (refine wpList_b2sB S ?_) | (refine wpList_b2sR S ?_) | (refine wpList_ldc S ?_))
        go_roundg (gk - 1)
        case measure => have := hg.out; omega
        case rel =>
          refine ⟨k + 1, css ++ [[.int .i64 0, .slice oa' n' c', .int .i64 ix], [.int .i64 6, .slice none 0 0, .int .i64 0]], n + 2, hidden (by have := hg.out; omega), by go_num, by omega, by omega, hidden ?_, hidden ?_, ?_⟩
          · rw [htk.out, List.length_append, hnl.out]; rfl
          · rw [htk.out]
            exact hE.out.append ⟨⟨hV2.out, rfl⟩, ⟨⟨none, 0, 0, rfl, Src.nil w0 1 0, Nat.le_refl _⟩, rfl⟩, trivial⟩
          · rw [List.flatten_append]; exact (S.selT (by repeat (first | (apply SelT.nil; (repeat (first | exact Suf.refl | apply Suf.cons)); done) | (apply SelT.cons; (repeat (first | exact Pull.head | apply Pull.tail))))))
      · by_cases h1 : kd = 1 ∨ kd = 2 ∨ kd = 5 ∨ kd = 6 ∨ kd = 7
        · have hone : asked [(⟨kd, dt, ix⟩ : QOp)] = [⟨kd, dt, ix⟩] := by unfold asked; simp [h0, h1]
          replace hone := hidden hone
          rcases h1 with rfl | rfl | rfl | rfl | rfl
          · go_wp2_with (first | (refine wpList_ldAc S ?_ (by rfl) hcell.out) | (refine wpList_appB S ?_; (clear S; intro va wa hva S)) | go_big_skip | (refine wpList_ld S ?_) | (refine wpList_ld8 S ?_) | (refine wpList_ld0 ?_) | (refine wpList_ldA S ?_) | (refine wpList_st8 S ?_; (clear S; intro ws S)) | (refine wpList_st S ?_; (clear S; intro ws S)) | (refine wpList_box S ?_; (clear S; intro nb wb hnb S)) | (refine wpList_alloc S ?_; (clear S; intro nb wb hnb S)) | (refine wpList_mk8 S ?_; (clear S; intro nb wb hnb S)) | (refine wpList_mk S ?_; (clear S; intro nb wb hnb S)) | (refine wpList_bs S ?_; (clear S; intro nb wb hnb S)) | (refine wpList_stA S ?_; (clear S; intro ws S; simp only [splice, List.take_zero, List.take_succ_cons, List.drop_succ_cons, List.drop_zero, List.drop_nil, List.length_cons, List.length_nil, Nat.reduceAdd, Nat.zero_add, List.nil_append, List.cons_append, List.append_nil] at S)) | (refine wpList_b2sB S ?_) | (refine wpList_b2sR S ?_) | (refine wpList_ldc S ?_))
            go_roundg (gk - 1)
            case measure => have := hg.out; omega
            case rel =>
              refine ⟨k + 1, css ++ [[.int .i64 1, .slice oa' n' c', .int .i64 ix]], n + 1, hidden (by have := hg.out; omega), by go_num, by omega, by omega, hidden ?_, hidden ?_, ?_⟩
              · rw [htk.out, hone.out, List.length_append, hnl.out]; rfl
              · rw [htk.out, hone.out]
                exact hE.out.append ⟨⟨hV2.out, rfl⟩, trivial⟩
              · rw [List.flatten_append]; exact (S.selT (by repeat (first | (apply SelT.nil; (repeat (first | exact Suf.refl | apply Suf.cons)); done) | (apply SelT.cons; (repeat (first | exact Pull.head | apply Pull.tail))))))
          · go_wp2_with (first | (refine wpList_ldAc S ?_ (by rfl) hcell.out) | (refine wpList_appB S ?_; (clear S; intro va wa hva S)) | go_big_skip | (refine wpList_ld S ?_) | (refine wpList_ld8 S ?_) | (refine wpList_ld0 ?_) | (refine wpList_ldA S ?_) | (refine wpList_st8 S ?_; (clear S; intro ws S)) | (refine wpList_st S ?_; (clear S; intro ws S)) | (refine wpList_box S ?_; (clear S; intro nb wb hnb S)) | (refine wpList_alloc S ?_; (clear S; intro nb wb hnb S)) | (refine wpList_mk8 S ?_; (clear S; intro nb wb hnb S)) | (refine wpList_mk S ?_; (clear S; intro nb wb hnb S)) | (refine wpList_bs S ?_; (clear S; intro nb wb hnb S)) | (refine wpList_stA S ?_; (clear S; intro ws S; simp only [splice, List.take_zero, List.take_succ_cons, List.drop_succ_cons, List.drop_zero, List.drop_nil, List.length_cons, List.length_nil, Nat.reduceAdd, Nat.zero_add, List.nil_append, List.cons_append, List.append_nil] at S)) | (refine wpList_b2sB S ?_) | (refine wpList_b2sR S ?_) | (refine wpList_ldc S ?_))
            go_roundg (gk - 1)
            case measure => have := hg.out; omega
            case rel =>
              refine ⟨k + 1, css ++ [[.int .i64 2, .slice oa' n' c', .int .i64 ix]], n + 1, hidden (by have := hg.out; omega), by go_num, by omega, by omega, hidden ?_, hidden ?_, ?_⟩
              · rw [htk.out, hone.out, List.length_append, hnl.out]; rfl
              · rw [htk.out, hone.out]
                exact hE.out.append ⟨⟨hV2.out, rfl⟩, trivial⟩
              · rw [List.flatten_append]; exact (S.selT (by repeat (first | (apply SelT.nil; (repeat (first | exact Suf.refl | apply Suf.cons)); done) | (apply SelT.cons; (repeat (first | exact Pull.head | apply Pull.tail))))))
          · go_wp2_with (first | (refine wpList_ldAc S ?_ (by rfl) hcell.out) | (refine wpList_appB S ?_; (clear S; intro va wa hva S)) | go_big_skip | (refine wpList_ld S ?_) | (refine wpList_ld8 S ?_) | (refine wpList_ld0 ?_) | (refine wpList_ldA S ?_) | (refine wpList_st8 S ?_; (clear S; intro ws S)) | (refine wpList_st S ?_; (clear S; intro ws S)) | (refine wpList_box S ?_; (clear S; intro nb wb hnb S)) | (refine wpList_alloc S ?_; (clear S; intro nb wb hnb S)) | (refine wpList_mk8 S ?_; (clear S; intro nb wb hnb S)) | (refine wpList_mk S ?_; (clear S; intro nb wb hnb S)) | (refine wpList_bs S ?_; (clear S; intro nb wb hnb S)) | (refine wpList_stA S ?_; (clear S; intro ws S; simp only [splice, List.take_zero, List.take_succ_cons, List.drop_succ_cons, List.drop_zero, List.drop_nil, List.length_cons, List.length_nil, Nat.reduceAdd, Nat.zero_add, List.nil_append, List.cons_append, List.append_nil] at S)) | (refine wpList_b2sB S ?_) | (refine wpList_b2sR S ?_) | (refine wpList_ldc S ?_))
            go_roundg (gk - 1)
            case measure => have := hg.out; omega
            case rel =>
              refine ⟨k + 1, css ++ [[.int .i64 5, .slice oa' n' c', .int .i64 ix]], n + 1, hidden (by have := hg.out; omega), by go_num, by omega, by omega, hidden ?_, hidden ?_, ?_⟩
              · rw [htk.out, hone.out, List.length_append, hnl.out]; rfl
              · rw [htk.out, hone.out]
                exact hE.out.append ⟨⟨hV2.out, rfl⟩, trivial⟩
              · rw [List.flatten_append]; exact (S.selT (by repeat (first | (apply SelT.nil; (repeat (first | exact Suf.refl | apply Suf.cons)); done) | (apply SelT.cons; (repeat (first | exact Pull.head | apply Pull.tail))))))
          · go_wp2_with (first | (refine wpList_ldAc S ?_ (by rfl) hcell.out) | (refine wpList_appB S ?_; (clear S; intro va wa hva S)) | go_big_skip | (refine wpList_ld S ?_) | (refine wpList_ld8 S ?_) | (refine wpList_ld0 ?_) | (refine wpList_ldA S ?_) | (refine wpList_st8 S ?_; (clear S; intro ws S)) | (refine wpList_st S ?_; (clear S; intro ws S)) | (refine wpList_box S ?_; (clear S; intro nb wb hnb S)) | (refine wpList_alloc S ?_; (clear S; intro nb wb hnb S)) | (refine wpList_mk8 S ?_; (clear S; intro nb wb hnb S)) | (refine wpList_mk S ?_; (clear S; intro nb wb hnb S)) | (refine wpList_bs S ?_; (clear S; intro nb wb hnb S)) | (refine wpList_stA S ?_; (clear S; intro ws S; simp only [splice, List.take_zero, List.take_succ_cons, List.drop_succ_cons, List.drop_zero, List.drop_nil, List.length_cons, List.length_nil, Nat.reduceAdd, Nat.zero_add, List.nil_append, List.cons_append, List.append_nil] at S)) | (refine wpList_b2sB S ?_) | (refine wpList_b2sR S ?_) | (refine wpList_ldc S ?_))
            go_roundg (gk - 1)
            case measure => have := hg.out; omega
            case rel =>
              refine ⟨k + 1, css ++ [[.int .i64 6, .slice oa' n' c', .int .i64 ix]], n + 1, hidden (by have := hg.out; omega), by go_num, by omega, by omega, hidden ?_, hidden ?_, ?_⟩
              · rw [htk.out, hone.out, List.length_append, hnl.out]; rfl
              · rw [htk.out, hone.out]
                exact hE.out.append ⟨⟨hV2.out, rfl⟩, trivial⟩
              · rw [List.flatten_append]; exact (S.selT (by repeat (first | (apply SelT.nil; (repeat (first | exact Suf.refl | apply Suf.cons)); done) | (apply SelT.cons; (repeat (first | exact Pull.head | apply Pull.tail))))))
          · go_wp2_with (first | (refine wpList_ldAc S ?_ (by rfl) hcell.out) | (refine wpList_appB S ?_; (clear S; intro va wa hva S)) | go_big_skip | (refine wpList_ld S ?_) | (refine wpList_ld8 S ?_) | (refine wpList_ld0 ?_) | (refine wpList_ldA S ?_) | (refine wpList_st8 S ?_; (clear S; intro ws S)) | (refine wpList_st S ?_; (clear S; intro ws S)) | (refine wpList_box S ?_; (clear S; intro nb wb hnb S)) | (refine wpList_alloc S ?_; (clear S; intro nb wb hnb S)) | (refine wpList_mk8 S ?_; (clear S; intro nb wb hnb S)) | (refine wpList_mk S ?_; (clear S; intro nb wb hnb S)) | (refine wpList_bs S ?_; (clear S; intro nb wb hnb S)) | (refine wpList_stA S ?_; (clear S; intro ws S; simp only [splice, List.take_zero, List.take_succ_cons, List.drop_succ_cons, List.drop_zero, List.drop_nil, List.length_cons, List.length_nil, Nat.reduceAdd, Nat.zero_add, List.nil_append, List.cons_append, List.append_nil] at S)) | (refine wpList_b2sB S ?_) | (refine wpList_b2sR S ?_) | (refine wpList_ldc S ?_))
            go_roundg (gk - 1)
            case measure => have := hg.out; omega
            case rel =>
              refine ⟨k + 1, css ++ [[.int .i64 7, .slice oa' n' c', .int .i64 ix]], n + 1, hidden (by have := hg.out; omega), by go_num, by omega, by omega, hidden ?_, hidden ?_, ?_⟩
              · rw [htk.out, hone.out, List.length_append, hnl.out]; rfl
              · rw [htk.out, hone.out]
                exact hE.out.append ⟨⟨hV2.out, rfl⟩, trivial⟩
              · rw [List.flatten_append]; exact (S.selT (by repeat (first | (apply SelT.nil; (repeat (first | exact Suf.refl | apply Suf.cons)); done) | (apply SelT.cons; (repeat (first | exact Pull.head | apply Pull.tail))))))
        · have hnone : asked [(⟨kd, dt, ix⟩ : QOp)] = [] := by unfold asked; simp [h0, h1]
          replace hnone := hidden hnone
          have b0 : (kd == 0) = false := by simp [h0]
          have b1 : (kd == 1) = false := by simp; omega
          have b2 : (kd == 2) = false := by simp; omega
          have b5 : (kd == 5) = false := by simp; omega
          have b6 : (kd == 6) = false := by simp; omega
          have b7 : (kd == 7) = false := by simp; omega
          clear h0 h1
          go_wp2_with (first | (refine wpList_ldAc S ?_ (by rfl) hcell.out) | (refine wpList_appB S ?_; (clear S; intro va wa hva S)) | go_big_skip | (refine wpList_ld S ?_) | (refine wpList_ld8 S ?_) | (refine wpList_ld0 ?_) | (refine wpList_ldA S ?_) | (refine wpList_st8 S ?_; (clear S; intro ws S)) | (refine wpList_st S ?_; (clear S; intro ws S)) | (refine wpList_box S ?_; (clear S; intro nb wb hnb S)) | (refine wpList_alloc S ?_; (clear S; intro nb wb hnb S)) | (refine wpList_mk8 S ?_; (clear S; intro nb wb hnb S)) | (refine wpList_mk S ?_; (clear S; intro nb wb hnb S)) | (refine wpList_bs S ?_; (clear S; intro nb wb hnb S)) | (refine wpList_stA S ?_; (clear S; intro ws S; simp only [splice, List.take_zero, List.take_succ_cons, List.drop_succ_cons, List.drop_zero, List.drop_nil, List.length_cons, List.length_nil, Nat.reduceAdd, Nat.zero_add, List.nil_append, List.cons_append, List.append_nil] at S)) | (refine wpList_b2sB S ?_) | (refine wpList_b2sR S ?_) | (refine wpList_ldc S ?_))
          go_roundg (gk - 1)
          case measure => have := hg.out; omega
          case rel =>
            exact ⟨k + 1, css, n, hidden (by have := hg.out; omega), by go_num, by omega, by omega, hidden (by rw [htk.out, hnone.out, List.append_nil]; exact hnl.out), hidden (by rw [htk.out, hnone.out, List.append_nil]; exact hE.out), (S.selT (by repeat (first | (apply SelT.nil; (repeat (first | exact Suf.refl | apply Suf.cons)); done) | (apply SelT.cons; (repeat (first | exact Pull.head | apply Pull.tail))))))⟩
    · have hkl : k = ops.length := by omega
      replace hkl := hidden hkl
      go_wp2_with (first | go_big_skip | ((with_reducible show Code.wp _ (Code.region _ _ true) _ _ _); refine St.regionLast S ?_; (repeat (first | (go_big_quiet_step (fail)) | (go_big_quiet_want; (first | refine quiet_ld S ?_ | refine quiet_ld8 S ?_ | refine quiet_ld0 ?_ | refine quiet_ldA S ?_ | refine quiet_b2sB S ?_ | refine quiet_b2sR S ?_ | refine quiet_ldc S ?_); go_big_quiet_on))); refine wpQuiet_nil ?_; clear S; intro wq S) | go_big_skip | (refine wpList_ld S ?_) | (refine wpList_ld8 S ?_) | (refine wpList_ld0 ?_) | (refine wpList_ldA S ?_) | (refine wpList_st8 S ?_; (clear S; intro ws S)) | (refine wpList_st S ?_; (clear S; intro ws S)) | (refine wpList_box S ?_; (clear S; intro nb wb hnb S)) | (refine wpList_alloc S ?_; (clear S; intro nb wb hnb S)) | (refine wpList_mk8 S ?_; (clear S; intro nb wb hnb S)) | (refine wpList_mk S ?_; (clear S; intro nb wb hnb S)) | (refine wpList_bs S ?_; (clear S; intro nb wb hnb S)) | (refine wpList_stA S ?_; (clear S; intro ws S; simp only [splice, List.take_zero, List.take_succ_cons, List.drop_succ_cons, List.drop_zero, List.drop_nil, List.length_cons, List.length_nil, Nat.reduceAdd, Nat.zero_add, List.nil_append, List.cons_append, List.append_nil] at S)) | (refine wpList_b2sB S ?_) | (refine wpList_b2sR S ?_) | (refine wpList_ldc S ?_))
      ((first | go_ret | go_ret2 | go_ret3 | go_end0 | skip); refine hR.out _ _ ?_)
      have hE2 := hE.out
      rw [hkl.out, List.take_length] at hE2
      have hn3 := hnl.out
      rw [hkl.out, List.take_length] at hn3
      subst hn3
      exact ⟨_, _, rfl, hE2, (S.selT (by repeat (first | (apply SelT.nil; (repeat (first | exact Suf.refl | apply Suf.cons)); done) | (apply SelT.cons; (repeat (first | exact Pull.head | apply Pull.tail))))))⟩

set_option maxHeartbeats 12800000 in
theorem lawQueueRoom (cap most : Int) (v : Value) (ops : List QOp) (od : Option Addr) (dn dc : Nat) (data : List UInt8) (w : World) (h : Arr OpV 3 w v ops) (hd : Src w 1 (.slice od dn dc) dn (u8s data)) (hdc : dn ≤ dc) :
    Calls Try.prog 10 #[.int .i64 cap, .int .i64 most, v, .slice od dn dc] w fun e w' => e = .returned (.bool true) ∧ Chg [] w w' := by
  have S := St.begin w
  replace h := hidden h
  have hdl := hd.len8
  replace hd := hidden hd
  refine Calls.cps ?_; intro R hR
  go_enter Try.func10, Try.ntmps10
  go_wp2_with (first | go_big_skip | ((with_reducible show Code.wp _ (Code.region _ _ true) _ _ _); refine St.regionLast S ?_; (repeat (first | (go_big_quiet_step (fail)) | (go_big_quiet_want; (first | refine quiet_ld S ?_ | refine quiet_ld8 S ?_ | refine quiet_ld0 ?_ | refine quiet_ldA S ?_ | refine quiet_b2sB S ?_ | refine quiet_b2sR S ?_ | refine quiet_ldc S ?_); go_big_quiet_on))); refine wpQuiet_nil ?_; clear S; intro wq S) | go_big_skip | (refine wpList_ld S ?_) | (refine wpList_ld8 S ?_) | (refine wpList_ld0 ?_) | (refine wpList_ldA S ?_) | (refine wpList_st8 S ?_; (clear S; intro ws S)) | (refine wpList_st S ?_; (clear S; intro ws S)) | (refine wpList_box S ?_; (clear S; intro nb wb hnb S)) | (refine wpList_alloc S ?_; (clear S; intro nb wb hnb S)) | (refine wpList_mk8 S ?_; (clear S; intro nb wb hnb S)) | (refine wpList_mk S ?_; (clear S; intro nb wb hnb S)) | (refine wpList_bs S ?_; (clear S; intro nb wb hnb S)) | (refine wpList_stA S ?_; (clear S; intro ws S; simp only [splice, List.take_zero, List.take_succ_cons, List.drop_succ_cons, List.drop_zero, List.drop_nil, List.length_cons, List.length_nil, Nat.reduceAdd, Nat.zero_add, List.nil_append, List.cons_append, List.append_nil] at S)) | (refine wpList_b2sB S ?_) | (refine wpList_b2sR S ?_) | (refine wpList_ldc S ?_))
  refine Calls.mono (fits6 v ops _ (h.out.on S.chg fun _ _ h => h.on S.chg)) ?_
  rintro e w2 ⟨b, rfl, hb, C⟩
  have S2 := S.call C; clear S C; simp only [List.cons_append, List.nil_append] at S2; have S := S2; clear S2
  cases b with
  | false =>
    go_wp2_with (first | go_big_skip | ((with_reducible show Code.wp _ (Code.region _ _ true) _ _ _); refine St.regionLast S ?_; (repeat (first | (go_big_quiet_step (fail)) | (go_big_quiet_want; (first | refine quiet_ld S ?_ | refine quiet_ld8 S ?_ | refine quiet_ld0 ?_ | refine quiet_ldA S ?_ | refine quiet_b2sB S ?_ | refine quiet_b2sR S ?_ | refine quiet_ldc S ?_); go_big_quiet_on))); refine wpQuiet_nil ?_; clear S; intro wq S) | go_big_skip | (refine wpList_ld S ?_) | (refine wpList_ld8 S ?_) | (refine wpList_ld0 ?_) | (refine wpList_ldA S ?_) | (refine wpList_st8 S ?_; (clear S; intro ws S)) | (refine wpList_st S ?_; (clear S; intro ws S)) | (refine wpList_box S ?_; (clear S; intro nb wb hnb S)) | (refine wpList_alloc S ?_; (clear S; intro nb wb hnb S)) | (refine wpList_mk8 S ?_; (clear S; intro nb wb hnb S)) | (refine wpList_mk S ?_; (clear S; intro nb wb hnb S)) | (refine wpList_bs S ?_; (clear S; intro nb wb hnb S)) | (refine wpList_stA S ?_; (clear S; intro ws S; simp only [splice, List.take_zero, List.take_succ_cons, List.drop_succ_cons, List.drop_zero, List.drop_nil, List.length_cons, List.length_nil, Nat.reduceAdd, Nat.zero_add, List.nil_append, List.cons_append, List.append_nil] at S)) | (refine wpList_b2sB S ?_) | (refine wpList_b2sR S ?_) | (refine wpList_ldc S ?_))
    ((first | go_ret | go_ret2 | go_ret3 | go_end0 | skip); refine hR.out _ _ ?_)
    exact ⟨rfl, S.chg⟩
  | true =>
    obtain ⟨hf1, hf2⟩ := hb rfl
    replace hf2 := hidden hf2
    clear hb
    subst hdl
    by_cases hd1 : (data.length : Int) > 2147483647
    · go_wp2_with (first | go_big_skip | ((with_reducible show Code.wp _ (Code.region _ _ true) _ _ _); refine St.regionLast S ?_; (repeat (first | (go_big_quiet_step (fail)) | (go_big_quiet_want; (first | refine quiet_ld S ?_ | refine quiet_ld8 S ?_ | refine quiet_ld0 ?_ | refine quiet_ldA S ?_ | refine quiet_b2sB S ?_ | refine quiet_b2sR S ?_ | refine quiet_ldc S ?_); go_big_quiet_on))); refine wpQuiet_nil ?_; clear S; intro wq S) | go_big_skip | (refine wpList_ld S ?_) | (refine wpList_ld8 S ?_) | (refine wpList_ld0 ?_) | (refine wpList_ldA S ?_) | (refine wpList_st8 S ?_; (clear S; intro ws S)) | (refine wpList_st S ?_; (clear S; intro ws S)) | (refine wpList_box S ?_; (clear S; intro nb wb hnb S)) | (refine wpList_alloc S ?_; (clear S; intro nb wb hnb S)) | (refine wpList_mk8 S ?_; (clear S; intro nb wb hnb S)) | (refine wpList_mk S ?_; (clear S; intro nb wb hnb S)) | (refine wpList_bs S ?_; (clear S; intro nb wb hnb S)) | (refine wpList_stA S ?_; (clear S; intro ws S; simp only [splice, List.take_zero, List.take_succ_cons, List.drop_succ_cons, List.drop_zero, List.drop_nil, List.length_cons, List.length_nil, Nat.reduceAdd, Nat.zero_add, List.nil_append, List.cons_append, List.append_nil] at S)) | (refine wpList_b2sB S ?_) | (refine wpList_b2sR S ?_) | (refine wpList_ldc S ?_))
      ((first | go_ret | go_ret2 | go_ret3 | go_end0 | skip); refine hR.out _ _ ?_)
      exact ⟨rfl, S.chg⟩
    replace hd1 : ¬ (data.length : Int) > 2147483647 := hd1
    go_wp2_with (first | go_big_skip | ((with_reducible show Code.wp _ (Code.region _ _ true) _ _ _); refine St.regionLast S ?_; (repeat (first | (go_big_quiet_step (fail)) | (go_big_quiet_want; (first | refine quiet_ld S ?_ | refine quiet_ld8 S ?_ | refine quiet_ld0 ?_ | refine quiet_ldA S ?_ | refine quiet_b2sB S ?_ | refine quiet_b2sR S ?_ | refine quiet_ldc S ?_); go_big_quiet_on))); refine wpQuiet_nil ?_; clear S; intro wq S) | go_big_skip | (refine wpList_ld S ?_) | (refine wpList_ld8 S ?_) | (refine wpList_ld0 ?_) | (refine wpList_ldA S ?_) | (refine wpList_st8 S ?_; (clear S; intro ws S)) | (refine wpList_st S ?_; (clear S; intro ws S)) | (refine wpList_box S ?_; (clear S; intro nb wb hnb S)) | (refine wpList_alloc S ?_; (clear S; intro nb wb hnb S)) | (refine wpList_mk8 S ?_; (clear S; intro nb wb hnb S)) | (refine wpList_mk S ?_; (clear S; intro nb wb hnb S)) | (refine wpList_bs S ?_; (clear S; intro nb wb hnb S)) | (refine wpList_stA S ?_; (clear S; intro ws S; simp only [splice, List.take_zero, List.take_succ_cons, List.drop_succ_cons, List.drop_zero, List.drop_nil, List.length_cons, List.length_nil, Nat.reduceAdd, Nat.zero_add, List.nil_append, List.cons_append, List.append_nil] at S)) | (refine wpList_b2sB S ?_) | (refine wpList_b2sR S ?_) | (refine wpList_ldc S ?_))
    refine Calls.mono (small6 v ops cap most _ (h.out.on S.chg fun _ _ h => h.on S.chg) hf2.out hf1) ?_
    rintro e w3 ⟨b, rfl, hb, C⟩
    have S2 := S.call C; clear S C; simp only [List.cons_append, List.nil_append] at S2; have S := S2; clear S2
    cases b with
    | false =>
      go_wp2_with (first | go_big_skip | ((with_reducible show Code.wp _ (Code.region _ _ true) _ _ _); refine St.regionLast S ?_; (repeat (first | (go_big_quiet_step (fail)) | (go_big_quiet_want; (first | refine quiet_ld S ?_ | refine quiet_ld8 S ?_ | refine quiet_ld0 ?_ | refine quiet_ldA S ?_ | refine quiet_b2sB S ?_ | refine quiet_b2sR S ?_ | refine quiet_ldc S ?_); go_big_quiet_on))); refine wpQuiet_nil ?_; clear S; intro wq S) | go_big_skip | (refine wpList_ld S ?_) | (refine wpList_ld8 S ?_) | (refine wpList_ld0 ?_) | (refine wpList_ldA S ?_) | (refine wpList_st8 S ?_; (clear S; intro ws S)) | (refine wpList_st S ?_; (clear S; intro ws S)) | (refine wpList_box S ?_; (clear S; intro nb wb hnb S)) | (refine wpList_alloc S ?_; (clear S; intro nb wb hnb S)) | (refine wpList_mk8 S ?_; (clear S; intro nb wb hnb S)) | (refine wpList_mk S ?_; (clear S; intro nb wb hnb S)) | (refine wpList_bs S ?_; (clear S; intro nb wb hnb S)) | (refine wpList_stA S ?_; (clear S; intro ws S; simp only [splice, List.take_zero, List.take_succ_cons, List.drop_succ_cons, List.drop_zero, List.drop_nil, List.length_cons, List.length_nil, Nat.reduceAdd, Nat.zero_add, List.nil_append, List.cons_append, List.append_nil] at S)) | (refine wpList_b2sB S ?_) | (refine wpList_b2sR S ?_) | (refine wpList_ldc S ?_))
      ((first | go_ret | go_ret2 | go_ret3 | go_end0 | skip); refine hR.out _ _ ?_)
      exact ⟨rfl, S.chg⟩
    | true =>
      have hsm := hb rfl
      clear hb
      by_cases hd2 : (data.length : Int) > 200
      · go_wp2_with (first | go_big_skip | ((with_reducible show Code.wp _ (Code.region _ _ true) _ _ _); refine St.regionLast S ?_; (repeat (first | (go_big_quiet_step (fail)) | (go_big_quiet_want; (first | refine quiet_ld S ?_ | refine quiet_ld8 S ?_ | refine quiet_ld0 ?_ | refine quiet_ldA S ?_ | refine quiet_b2sB S ?_ | refine quiet_b2sR S ?_ | refine quiet_ldc S ?_); go_big_quiet_on))); refine wpQuiet_nil ?_; clear S; intro wq S) | go_big_skip | (refine wpList_ld S ?_) | (refine wpList_ld8 S ?_) | (refine wpList_ld0 ?_) | (refine wpList_ldA S ?_) | (refine wpList_st8 S ?_; (clear S; intro ws S)) | (refine wpList_st S ?_; (clear S; intro ws S)) | (refine wpList_box S ?_; (clear S; intro nb wb hnb S)) | (refine wpList_alloc S ?_; (clear S; intro nb wb hnb S)) | (refine wpList_mk8 S ?_; (clear S; intro nb wb hnb S)) | (refine wpList_mk S ?_; (clear S; intro nb wb hnb S)) | (refine wpList_bs S ?_; (clear S; intro nb wb hnb S)) | (refine wpList_stA S ?_; (clear S; intro ws S; simp only [splice, List.take_zero, List.take_succ_cons, List.drop_succ_cons, List.drop_zero, List.drop_nil, List.length_cons, List.length_nil, Nat.reduceAdd, Nat.zero_add, List.nil_append, List.cons_append, List.append_nil] at S)) | (refine wpList_b2sB S ?_) | (refine wpList_b2sR S ?_) | (refine wpList_ldc S ?_))
        ((first | go_ret | go_ret2 | go_ret3 | go_end0 | skip); refine hR.out _ _ ?_)
        exact ⟨rfl, S.chg⟩
      have hd3 : data.length ≤ 200 := by omega
      obtain ⟨⟨hc0, hm0⟩, hA⟩ := asked_of hsm
      have hl60 := hsm.2.2.2.2.1
      clear hsm
      obtain ⟨cap, rfl⟩ := Int.eq_ofNat_of_zero_le hc0
      obtain ⟨most, rfl⟩ := Int.eq_ofNat_of_zero_le hm0
      simp only [Int.ofNat_eq_natCast, Int.toNat_natCast] at hA
      have hcap := hA.cap
      have hmost := hA.most
      have hlen := hA.len
      replace hA := hidden hA
      clear hc0 hm0
      go_wp2_with (first | go_big_skip | ((with_reducible show Code.wp _ (Code.region _ _ true) _ _ _); refine St.regionLast S ?_; (repeat (first | (go_big_quiet_step (fail)) | (go_big_quiet_want; (first | refine quiet_ld S ?_ | refine quiet_ld8 S ?_ | refine quiet_ld0 ?_ | refine quiet_ldA S ?_ | refine quiet_b2sB S ?_ | refine quiet_b2sR S ?_ | refine quiet_ldc S ?_); go_big_quiet_on))); refine wpQuiet_nil ?_; clear S; intro wq S) | go_big_skip | (refine wpList_ld S ?_) | (refine wpList_ld8 S ?_) | (refine wpList_ld0 ?_) | (refine wpList_ldA S ?_) | (refine wpList_st8 S ?_; (clear S; intro ws S)) | (refine wpList_st S ?_; (clear S; intro ws S)) | (refine wpList_box S ?_; (clear S; intro nb wb hnb S)) | (refine wpList_alloc S ?_; (clear S; intro nb wb hnb S)) | (refine wpList_mk8 S ?_; (clear S; intro nb wb hnb S)) | (refine wpList_mk S ?_; (clear S; intro nb wb hnb S)) | (refine wpList_bs S ?_; (clear S; intro nb wb hnb S)) | (refine wpList_stA S ?_; (clear S; intro ws S; simp only [splice, List.take_zero, List.take_succ_cons, List.drop_succ_cons, List.drop_zero, List.drop_nil, List.length_cons, List.length_nil, Nat.reduceAdd, Nat.zero_add, List.nil_append, List.cons_append, List.append_nil] at S)) | (refine wpList_b2sB S ?_) | (refine wpList_b2sR S ?_) | (refine wpList_ldc S ?_))
      refine Calls.mono (quNew cap most _ (by omega)) ?_
      rintro e w6 ⟨m, rfl, C⟩
      have hw3 := hidden S.chg
      clear S
      have S := C
      clear C
      have h3 := hidden (h.out.on hw3.out fun _ _ h => h.on hw3.out)
      have hd3' := hidden (hd.out.on hw3.out)
      clear h hf2
      unfold qParts
      go_wp2_with (first | go_big_skip | ((with_reducible show Code.wp _ (Code.region _ _ true) _ _ _); refine St.regionLast S ?_; (repeat (first | (go_big_quiet_step (fail)) | (go_big_quiet_want; (first | refine quiet_ld S ?_ | refine quiet_ld8 S ?_ | refine quiet_ld0 ?_ | refine quiet_ldA S ?_ | refine quiet_b2sB S ?_ | refine quiet_b2sR S ?_ | refine quiet_ldc S ?_); go_big_quiet_on))); refine wpQuiet_nil ?_; clear S; intro wq S) | go_big_skip | (refine wpList_ld S ?_) | (refine wpList_ld8 S ?_) | (refine wpList_ld0 ?_) | (refine wpList_ldA S ?_) | (refine wpList_st8 S ?_; (clear S; intro ws S)) | (refine wpList_st S ?_; (clear S; intro ws S)) | (refine wpList_box S ?_; (clear S; intro nb wb hnb S)) | (refine wpList_alloc S ?_; (clear S; intro nb wb hnb S)) | (refine wpList_mk8 S ?_; (clear S; intro nb wb hnb S)) | (refine wpList_mk S ?_; (clear S; intro nb wb hnb S)) | (refine wpList_bs S ?_; (clear S; intro nb wb hnb S)) | (refine wpList_stA S ?_; (clear S; intro ws S; simp only [splice, List.take_zero, List.take_succ_cons, List.drop_succ_cons, List.drop_zero, List.drop_nil, List.length_cons, List.length_nil, Nat.reduceAdd, Nat.zero_add, List.nil_append, List.cons_append, List.append_nil] at S)) | (refine wpList_b2sB S ?_) | (refine wpList_b2sR S ?_) | (refine wpList_ldc S ?_))
      rename Nat => b9
      refine Calls.mono (asked6B v ops w3 _ _ S h3.out hl60) ?_
      clear S
      rintro e w7 ⟨qv, css, rfl, hq, S⟩
      clear h3
      generalize asked ops = q at *
      have S := S.toORow .head
      obtain ⟨oq, cq, rfl, hcq⟩ := S.orowShape .head
      have hqs := S.orowSrc .head (by
        intro u hu
        obtain ⟨cs, hcs, hu⟩ := List.mem_flatten.1 hu
        obtain ⟨i, hi⟩ := List.getElem?_of_mem hcs
        have hlt := (List.getElem?_eq_some_iff.1 hi).1
        have hl := hq.length
        obtain ⟨b, hb, hb2, _⟩ := hq.get i _ (List.getElem?_eq_getElem (show i < q.length by omega))
        rw [hi] at hb
        cases hb
        exact hb2.one u hu)
      have hdone := hidden (show (∃ ad, oq = some ad) ∨ q.length = 0 by
        cases oq with
        | some ad => exact .inl ⟨ad, rfl⟩
        | none =>
          right
          have h1 := (hqs.2.2 : _ ∧ _).2
          have h2 := hqs.1
          rw [h1] at h2
          simp at h2; omega)
      clear hqs
      replace hq := hidden hq
      go_wp2_with (first | go_big_skip | ((with_reducible show Code.wp _ (Code.region _ _ true) _ _ _); refine St.regionLast S ?_; (repeat (first | (go_big_quiet_step (fail)) | (go_big_quiet_want; (first | refine quiet_ld S ?_ | refine quiet_ld8 S ?_ | refine quiet_ld0 ?_ | refine quiet_ldA S ?_ | refine quiet_b2sB S ?_ | refine quiet_b2sR S ?_ | refine quiet_ldc S ?_); go_big_quiet_on))); refine wpQuiet_nil ?_; clear S; intro wq S) | go_big_skip | (refine wpList_ld S ?_) | (refine wpList_ld8 S ?_) | (refine wpList_ld0 ?_) | (refine wpList_ldA S ?_) | (refine wpList_st8 S ?_; (clear S; intro ws S)) | (refine wpList_st S ?_; (clear S; intro ws S)) | (refine wpList_box S ?_; (clear S; intro nb wb hnb S)) | (refine wpList_alloc S ?_; (clear S; intro nb wb hnb S)) | (refine wpList_mk8 S ?_; (clear S; intro nb wb hnb S)) | (refine wpList_mk S ?_; (clear S; intro nb wb hnb S)) | (refine wpList_bs S ?_; (clear S; intro nb wb hnb S)) | (refine wpList_stA S ?_; (clear S; intro ws S; simp only [splice, List.take_zero, List.take_succ_cons, List.drop_succ_cons, List.drop_zero, List.drop_nil, List.length_cons, List.length_nil, Nat.reduceAdd, Nat.zero_add, List.nil_append, List.cons_append, List.append_nil] at S)) | (refine wpList_b2sB S ?_) | (refine wpList_b2sR S ?_) | (refine wpList_ldc S ?_))
      go_loopg [11, 43] q.length (fun g x11 i wr => ∃ (k m T : Nat) (x : Qu) (arr sl : List UInt8), Hid (k + g = q.length) ∧ i = .int .i64 k ∧ k ≤ q.length ∧
        Hid (x.Rep arr ∧ x.Bnd cap T ∧ T + asks (q.drop k) ≤ 8432 ∧ x.max = most ∧ ∀ op ∈ q.drop k, Plain6 op) ∧
        St w3 [] wr [.orow 28 3 (.slice oq q.length cq) q.length css.flatten, .blk b9 (.cells [.slice (some ⟨m, 0, none⟩) arr.length (arr.length + sl.length), .bool x.full, .int .i64 x.cap, .int .i64 x.max, .int .i64 x.head, .int .i64 x.tail, .int .i64 x.count, .int .i64 x.right].toArray 51 (0, 0)),
          .blk m (.cells (u8s (arr ++ sl)).toArray 5 (0, 0))])
      case atStart =>
        refine ⟨0, m, 0, Qu.fresh cap most, Qu.zeros cap, [], hidden (by omega), rfl, Nat.zero_le _, hidden ⟨fresh_rep cap most, Qu.fresh_bnd cap most, by rw [List.drop_zero]; have := hA.out.asks; omega, rfl, by rw [List.drop_zero]; exact hA.out.plain⟩, ?_⟩
        rw [Qu.zeros_length, List.length_nil, Nat.add_zero, List.append_nil]
        exact S.sel (by repeat (first | exact Sel.nil | (apply Sel.cons; (repeat (first | exact Pull.head | apply Pull.tail)))))
      case round =>
        clear S
        obtain ⟨k, m, T, x, arr, sl, hg, rfl, hkn, hrep, S⟩ := hrel
        by_cases hlt : k < q.length
        · obtain ⟨ad, rfl⟩ := hdone.out.resolve_right (by omega)
          have hop : q[k]? = some q[k] := List.getElem?_eq_getElem hlt
          have hdrop : q.drop k = q[k] :: q.drop (k + 1) := List.drop_eq_getElem_cons hlt
          obtain ⟨cs, hcs, ⟨oa', n', c', rfl, hs', hc'⟩, hl3⟩ := hq.out.get k _ hop
          have hx := hidden (fun (j : Nat) v (hv : [Value.int .i64 q[k].kind, .slice oa' n' c', .int .i64 q[k].index][j]? = some v) => (show css.flatten[k * 3 + j]? = some v by
            rw [flat_get (Each.sizes hq.out) k _ j hcs (by have := (List.getElem?_eq_some_iff.1 hv).1; simpa using this)]
            exact hv))
          obtain ⟨hr, hbd, hT, hmx, hpl⟩ := hrep.out
          rw [hdrop] at hT hpl
          generalize q[k] = op at *
          have hln := hs'.len8
          have hpo := hpl op List.mem_cons_self
          have hpl2 : ∀ o ∈ q.drop (k + 1), Plain6 o := fun o ho => hpl o (List.mem_cons_of_mem _ ho)
          have hn65 : n' ≤ 65536 := by have := hpo.2; omega
          have hcap2 : x.cap ≤ 65536 := by have := hbd.cap; omega
          have hk9 : op.kind ≤ 9 := by have := hpo.1; omega
          obtain ⟨g1, g2, g3⟩ := step_keeps ⟨arr, hr⟩ hbd (by omega) op hpo.2
          have hT2 : (T + if op.kind = 0 then needs op.data.length else 0) + asks (q.drop (k + 1)) ≤ 8432 := by simp only [asks] at hT; omega
          rw [hmx] at g3
          have hmax2 : x.max ≤ 262144 := by omega
          have f1 : qLegal x op := hpo.legal (by omega) (by omega)
          have hcall : ∀ (w2 : World) (oa : Option Addr) (ca : Nat), Src w2 1 (.slice oa arr.length ca) arr.length (u8s arr) → Chg [] w3 w2 → _ := fun w2 oa ca hsrc hch => quStep x arr oa oa' ca n' c' op w2 hr hcap2 hmax2 hsrc (hs'.on hch) hc' hn65 hk9 f1
          replace hcall := hidden hcall
          replace hT2 := hidden hT2
          replace hpl2 := hidden hpl2
          replace g2 := hidden g2
          replace g3 := hidden g3
          clear hs' hl3 hop hdrop hrep hr hbd hT hmx hpl hln hpo hn65 hcap2 hk9 g1 f1 hmax2 hcs
          generalize qStep x op = st at *
          obtain ⟨x2, an⟩ := st
          simp only at hcall g2 g3
          go_wp2_with (first | go_big_skip | (refine wpList_ldOk S k ?_ (cs := [.int .i64 op.kind, .slice oa' n' c', .int .i64 op.index]) rfl hx.out rfl) | ((with_reducible show Code.wp _ (Code.region _ _ true) _ _ _); refine St.regionLast S ?_; (repeat (first | (go_big_quiet_step (fail)) | (go_big_quiet_want; (first | refine quiet_ld S ?_ | refine quiet_ld8 S ?_ | refine quiet_ld0 ?_ | refine quiet_ldA S ?_ | refine quiet_b2sB S ?_ | refine quiet_b2sR S ?_ | refine quiet_ldc S ?_); go_big_quiet_on))); refine wpQuiet_nil ?_; clear S; intro wq S) | go_big_skip | (refine wpList_ld S ?_) | (refine wpList_ld8 S ?_) | (refine wpList_ld0 ?_) | (refine wpList_ldA S ?_) | (refine wpList_st8 S ?_; (clear S; intro ws S)) | (refine wpList_st S ?_; (clear S; intro ws S)) | (refine wpList_box S ?_; (clear S; intro nb wb hnb S)) | (refine wpList_alloc S ?_; (clear S; intro nb wb hnb S)) | (refine wpList_mk8 S ?_; (clear S; intro nb wb hnb S)) | (refine wpList_mk S ?_; (clear S; intro nb wb hnb S)) | (refine wpList_bs S ?_; (clear S; intro nb wb hnb S)) | (refine wpList_stA S ?_; (clear S; intro ws S; simp only [splice, List.take_zero, List.take_succ_cons, List.drop_succ_cons, List.drop_zero, List.drop_nil, List.length_cons, List.length_nil, Nat.reduceAdd, Nat.zero_add, List.nil_append, List.cons_append, List.append_nil] at S)) | (refine wpList_b2sB S ?_) | (refine wpList_b2sR S ?_) | (refine wpList_ldc S ?_))
          have hsrc := S.src8 (b := m) (o := 0) (m := arr.length) (c := arr.length + sl.length) (l := arr ++ sl) (by repeat (first | exact Pull.head | apply Pull.tail)) (by simp)
          rw [List.drop_zero, List.take_left] at hsrc
          refine Calls.mono (hcall.out _ _ _ hsrc S.chg) ?_
          clear hsrc
          rintro e w8 ⟨m2, arr2, sl2, dv, rfl, hr2, C⟩
          have S2 := S.call C; clear S C; simp only [List.cons_append, List.nil_append] at S2; have S := S2; clear S2
          obtain ⟨a3, c3, rfl, hc3, hc4⟩ := S.rowSlice (hp := Pull.tail Pull.head)
          replace hr2 := hidden hr2
          unfold qParts
          go_wp2_with (first | go_big_skip | ((with_reducible show Code.wp _ (Code.region _ _ true) _ _ _); refine St.regionLast S ?_; (repeat (first | (go_big_quiet_step (fail)) | (go_big_quiet_want; (first | refine quiet_ld S ?_ | refine quiet_ld8 S ?_ | refine quiet_ld0 ?_ | refine quiet_ldA S ?_ | refine quiet_b2sB S ?_ | refine quiet_b2sR S ?_ | refine quiet_ldc S ?_); go_big_quiet_on))); refine wpQuiet_nil ?_; clear S; intro wq S) | go_big_skip | (refine wpList_ld S ?_) | (refine wpList_ld8 S ?_) | (refine wpList_ld0 ?_) | (refine wpList_ldA S ?_) | (refine wpList_st8 S ?_; (clear S; intro ws S)) | (refine wpList_st S ?_; (clear S; intro ws S)) | (refine wpList_box S ?_; (clear S; intro nb wb hnb S)) | (refine wpList_alloc S ?_; (clear S; intro nb wb hnb S)) | (refine wpList_mk8 S ?_; (clear S; intro nb wb hnb S)) | (refine wpList_mk S ?_; (clear S; intro nb wb hnb S)) | (refine wpList_bs S ?_; (clear S; intro nb wb hnb S)) | (refine wpList_stA S ?_; (clear S; intro ws S; simp only [splice, List.take_zero, List.take_succ_cons, List.drop_succ_cons, List.drop_zero, List.drop_nil, List.length_cons, List.length_nil, Nat.reduceAdd, Nat.zero_add, List.nil_append, List.cons_append, List.append_nil] at S)) | (refine wpList_b2sB S ?_) | (refine wpList_b2sR S ?_) | (refine wpList_ldc S ?_))
          go_roundg (gk - 1)
          case measure => have := hg.out; omega
          case rel => exact ⟨k + 1, m2, _, x2, arr2, sl2, hidden (by have := hg.out; omega), by go_num, by omega, hidden ⟨hr2.out, g2.out, hT2.out, g3.out, hpl2.out⟩, S.sel (by repeat (first | exact Sel.nil | (apply Sel.cons; (repeat (first | exact Pull.head | apply Pull.tail)))))⟩
        · obtain ⟨hr, hbd, hT, hmx, _⟩ := hrep.out
          have hcap2 : x.cap ≤ 65536 := by have := hbd.cap; omega
          have hmax2 : x.max ≤ 262144 := by omega
          clear hrep hT hmx hbd hq hdone hg hA
          have hk : k = q.length := by omega
          subst hk
          clear hkn hlt
          have hgd : x.Good := ⟨arr, hr⟩
          obtain ⟨pA, pB, pC⟩ := push_room hgd data
          have hnl := hsz_le data.length
          have hn1 : needs data.length ≤ 262144 := by unfold needs; omega
          have hnc := newCap_some x (needs data.length)
          obtain ⟨A8, hA8⟩ : ∃ A8 : Int, A8 = if x.after (needs data.length) then 1 else 0 := ⟨_, rfl⟩
          obtain ⟨A9, hA9⟩ : ∃ A9 : Int, A9 = if x.before (needs data.length) then 1 else 0 := ⟨_, rfl⟩
          have hc8 : ∀ (w2 : World), Src w2 1 (.slice (some ⟨m, 0, none⟩) arr.length (arr.length + sl.length)) arr.length (u8s arr) →
              Calls Try.prog 24 #[.agg #[.slice (some ⟨m, 0, none⟩) arr.length (arr.length + sl.length), .bool x.full, .int .i64 x.cap, .int .i64 x.max, .int .i64 x.head, .int .i64 x.tail, .int .i64 x.count, .int .i64 x.right], .agg #[.int .i64 8, .slice none 0 0, .int .i64 (needs data.length : Nat)]] w2 fun e w' =>
                ∃ (m : Nat) (arr2 sl2 : List UInt8) (dv : Value), e = .returned (.tuple #[.agg (qParts m x arr2 sl2).toArray, .agg #[.int .i64 0, .int .i64 A8, dv]]) ∧ x.Rep arr2 ∧ St w2 [] w' [.blk m (.cells (u8s (arr2 ++ sl2)).toArray 5 (0, 0)), .row 5 1 dv 0 (u8s [])] := by
            intro w2 hsrc
            have := quStep x arr (some ⟨m, 0, none⟩) none (arr.length + sl.length) 0 0 ⟨8, [], (needs data.length : Nat)⟩ w2 hr hcap2 hmax2 hsrc (Src.nil w2 1 0) (Nat.le_refl _) (by omega) (by show (8 : Int) ≤ 9; omega)
              ⟨by show (0 : Int) ≤ 8; omega, by show (8 : Int) ≤ 9; omega, fun h => (by exfalso; simp at h), fun h => (by exfalso; simp at h), fun _ => ⟨by show (0 : Int) ≤ (needs data.length : Nat); omega, by show ((needs data.length : Nat) : Int) ≤ 1073741824; omega⟩⟩
            rw [step_eight, ← hA8] at this
            exact this
          have hc9 : ∀ (w2 : World), Src w2 1 (.slice (some ⟨m, 0, none⟩) arr.length (arr.length + sl.length)) arr.length (u8s arr) →
              Calls Try.prog 24 #[.agg #[.slice (some ⟨m, 0, none⟩) arr.length (arr.length + sl.length), .bool x.full, .int .i64 x.cap, .int .i64 x.max, .int .i64 x.head, .int .i64 x.tail, .int .i64 x.count, .int .i64 x.right], .agg #[.int .i64 9, .slice none 0 0, .int .i64 (needs data.length : Nat)]] w2 fun e w' =>
                ∃ (m : Nat) (arr2 sl2 : List UInt8) (dv : Value), e = .returned (.tuple #[.agg (qParts m x arr2 sl2).toArray, .agg #[.int .i64 0, .int .i64 A9, dv]]) ∧ x.Rep arr2 ∧ St w2 [] w' [.blk m (.cells (u8s (arr2 ++ sl2)).toArray 5 (0, 0)), .row 5 1 dv 0 (u8s [])] := by
            intro w2 hsrc
            have := quStep x arr (some ⟨m, 0, none⟩) none (arr.length + sl.length) 0 0 ⟨9, [], (needs data.length : Nat)⟩ w2 hr hcap2 hmax2 hsrc (Src.nil w2 1 0) (Nat.le_refl _) (by omega) (by show (9 : Int) ≤ 9; omega)
              ⟨by show (0 : Int) ≤ 9; omega, by show (9 : Int) ≤ 9; omega, fun h => (by exfalso; simp at h), fun h => (by exfalso; simp at h), fun _ => ⟨by show (0 : Int) ≤ (needs data.length : Nat); omega, by show ((needs data.length : Nat) : Int) ≤ 1073741824; omega⟩⟩
            rw [step_nine, ← hA9] at this
            exact this
          have hc0 : ∀ (w2 : World), Src w2 1 (.slice (some ⟨m, 0, none⟩) arr.length (arr.length + sl.length)) arr.length (u8s arr) → Chg [] w3 w2 → _ := fun w2 hsrc hch => quStep x arr (some ⟨m, 0, none⟩) od (arr.length + sl.length) data.length dc ⟨0, data, 0⟩ w2 hr hcap2 hmax2 hsrc (hd3'.out.on hch) hdc (by omega) (by show (0 : Int) ≤ 9; omega)
              ⟨by show (0 : Int) ≤ 0; omega, by show (0 : Int) ≤ 9; omega, fun _ => ⟨by show data.length < 16382; omega, by show x.newCap (needs data.length) ≤ 1073741824; omega⟩, fun h => (by exfalso; simp at h), fun h => (by exfalso; simp at h)⟩
          generalize qStep x ⟨0, data, 0⟩ = st at *
          obtain ⟨x1, ft, nm, dt⟩ := st
          simp only at hc0 pA pB pC
          replace hc8 := hidden hc8
          replace hc9 := hidden hc9
          replace hc0 := hidden hc0
          replace pA := hidden pA
          replace pB := hidden pB
          replace pC := hidden pC
          replace hA8 := hidden hA8
          replace hA9 := hidden hA9
          replace hr := hidden hr
          clear hnc
          have hd4 : data.length < 16382 := by omega
          go_wp2_with (first | go_big_skip | ((with_reducible show Code.wp _ (Code.region _ _ true) _ _ _); refine St.regionLast S ?_; (repeat (first | (go_big_quiet_step (fail)) | (go_big_quiet_want; (first | refine quiet_ld S ?_ | refine quiet_ld8 S ?_ | refine quiet_ld0 ?_ | refine quiet_ldA S ?_ | refine quiet_b2sB S ?_ | refine quiet_b2sR S ?_ | refine quiet_ldc S ?_); go_big_quiet_on))); refine wpQuiet_nil ?_; clear S; intro wq S) | go_big_skip | (refine wpList_ld S ?_) | (refine wpList_ld8 S ?_) | (refine wpList_ld0 ?_) | (refine wpList_ldA S ?_) | (refine wpList_st8 S ?_; (clear S; intro ws S)) | (refine wpList_st S ?_; (clear S; intro ws S)) | (refine wpList_box S ?_; (clear S; intro nb wb hnb S)) | (refine wpList_alloc S ?_; (clear S; intro nb wb hnb S)) | (refine wpList_mk8 S ?_; (clear S; intro nb wb hnb S)) | (refine wpList_mk S ?_; (clear S; intro nb wb hnb S)) | (refine wpList_bs S ?_; (clear S; intro nb wb hnb S)) | (refine wpList_stA S ?_; (clear S; intro ws S; simp only [splice, List.take_zero, List.take_succ_cons, List.drop_succ_cons, List.drop_zero, List.drop_nil, List.length_cons, List.length_nil, Nat.reduceAdd, Nat.zero_add, List.nil_append, List.cons_append, List.append_nil] at S)) | (refine wpList_b2sB S ?_) | (refine wpList_b2sR S ?_) | (refine wpList_ldc S ?_))
          refine Calls.mono (implNeeds data.length _ hd4) ?_
          rintro e w8 ⟨rfl, C⟩
          have S2 := S.call C; clear S C; simp only [List.cons_append, List.nil_append] at S2; have S := S2; clear S2
          generalize needs data.length = need at *
          go_wp2_with (first | go_big_skip | ((with_reducible show Code.wp _ (Code.region _ _ true) _ _ _); refine St.regionLast S ?_; (repeat (first | (go_big_quiet_step (fail)) | (go_big_quiet_want; (first | refine quiet_ld S ?_ | refine quiet_ld8 S ?_ | refine quiet_ld0 ?_ | refine quiet_ldA S ?_ | refine quiet_b2sB S ?_ | refine quiet_b2sR S ?_ | refine quiet_ldc S ?_); go_big_quiet_on))); refine wpQuiet_nil ?_; clear S; intro wq S) | go_big_skip | (refine wpList_ld S ?_) | (refine wpList_ld8 S ?_) | (refine wpList_ld0 ?_) | (refine wpList_ldA S ?_) | (refine wpList_st8 S ?_; (clear S; intro ws S)) | (refine wpList_st S ?_; (clear S; intro ws S)) | (refine wpList_box S ?_; (clear S; intro nb wb hnb S)) | (refine wpList_alloc S ?_; (clear S; intro nb wb hnb S)) | (refine wpList_mk8 S ?_; (clear S; intro nb wb hnb S)) | (refine wpList_mk S ?_; (clear S; intro nb wb hnb S)) | (refine wpList_bs S ?_; (clear S; intro nb wb hnb S)) | (refine wpList_stA S ?_; (clear S; intro ws S; simp only [splice, List.take_zero, List.take_succ_cons, List.drop_succ_cons, List.drop_zero, List.drop_nil, List.length_cons, List.length_nil, Nat.reduceAdd, Nat.zero_add, List.nil_append, List.cons_append, List.append_nil] at S)) | (refine wpList_b2sB S ?_) | (refine wpList_b2sR S ?_) | (refine wpList_ldc S ?_))
          have hsrc := S.src8 (b := m) (o := 0) (m := arr.length) (c := arr.length + sl.length) (l := arr ++ sl) (by repeat (first | exact Pull.head | apply Pull.tail)) (by simp)
          rw [List.drop_zero, List.take_left] at hsrc
          refine Calls.mono (hc8.out _ hsrc) ?_
          clear hsrc
          rintro e w9 ⟨m8, arr8, sl8, dv8, rfl, _, C⟩
          have S2 := S.call C; clear S C; simp only [List.cons_append, List.nil_append] at S2; have S := S2; clear S2
          obtain ⟨a8, c8, rfl, _, _⟩ := S.rowSlice (hp := Pull.tail Pull.head)
          unfold qParts
          go_wp2_with (first | go_big_skip | ((with_reducible show Code.wp _ (Code.region _ _ true) _ _ _); refine St.regionLast S ?_; (repeat (first | (go_big_quiet_step (fail)) | (go_big_quiet_want; (first | refine quiet_ld S ?_ | refine quiet_ld8 S ?_ | refine quiet_ld0 ?_ | refine quiet_ldA S ?_ | refine quiet_b2sB S ?_ | refine quiet_b2sR S ?_ | refine quiet_ldc S ?_); go_big_quiet_on))); refine wpQuiet_nil ?_; clear S; intro wq S) | go_big_skip | (refine wpList_ld S ?_) | (refine wpList_ld8 S ?_) | (refine wpList_ld0 ?_) | (refine wpList_ldA S ?_) | (refine wpList_st8 S ?_; (clear S; intro ws S)) | (refine wpList_st S ?_; (clear S; intro ws S)) | (refine wpList_box S ?_; (clear S; intro nb wb hnb S)) | (refine wpList_alloc S ?_; (clear S; intro nb wb hnb S)) | (refine wpList_mk8 S ?_; (clear S; intro nb wb hnb S)) | (refine wpList_mk S ?_; (clear S; intro nb wb hnb S)) | (refine wpList_bs S ?_; (clear S; intro nb wb hnb S)) | (refine wpList_stA S ?_; (clear S; intro ws S; simp only [splice, List.take_zero, List.take_succ_cons, List.drop_succ_cons, List.drop_zero, List.drop_nil, List.length_cons, List.length_nil, Nat.reduceAdd, Nat.zero_add, List.nil_append, List.cons_append, List.append_nil] at S)) | (refine wpList_b2sB S ?_) | (refine wpList_b2sR S ?_) | (refine wpList_ldc S ?_))
          have hsrc := S.src8 (b := m) (o := 0) (m := arr.length) (c := arr.length + sl.length) (l := arr ++ sl) (by repeat (first | exact Pull.head | apply Pull.tail)) (by simp)
          rw [List.drop_zero, List.take_left] at hsrc
          refine Calls.mono (hc9.out _ hsrc) ?_
          clear hsrc
          rintro e w9 ⟨m9, arr9, sl9, dv9, rfl, _, C⟩
          have S2 := S.call C; clear S C; simp only [List.cons_append, List.nil_append] at S2; have S := S2; clear S2
          obtain ⟨a9, c9, rfl, _, _⟩ := S.rowSlice (hp := Pull.tail Pull.head)
          unfold qParts
          go_wp2_with (first | go_big_skip | ((with_reducible show Code.wp _ (Code.region _ _ true) _ _ _); refine St.regionLast S ?_; (repeat (first | (go_big_quiet_step (fail)) | (go_big_quiet_want; (first | refine quiet_ld S ?_ | refine quiet_ld8 S ?_ | refine quiet_ld0 ?_ | refine quiet_ldA S ?_ | refine quiet_b2sB S ?_ | refine quiet_b2sR S ?_ | refine quiet_ldc S ?_); go_big_quiet_on))); refine wpQuiet_nil ?_; clear S; intro wq S) | go_big_skip | (refine wpList_ld S ?_) | (refine wpList_ld8 S ?_) | (refine wpList_ld0 ?_) | (refine wpList_ldA S ?_) | (refine wpList_st8 S ?_; (clear S; intro ws S)) | (refine wpList_st S ?_; (clear S; intro ws S)) | (refine wpList_box S ?_; (clear S; intro nb wb hnb S)) | (refine wpList_alloc S ?_; (clear S; intro nb wb hnb S)) | (refine wpList_mk8 S ?_; (clear S; intro nb wb hnb S)) | (refine wpList_mk S ?_; (clear S; intro nb wb hnb S)) | (refine wpList_bs S ?_; (clear S; intro nb wb hnb S)) | (refine wpList_stA S ?_; (clear S; intro ws S; simp only [splice, List.take_zero, List.take_succ_cons, List.drop_succ_cons, List.drop_zero, List.drop_nil, List.length_cons, List.length_nil, Nat.reduceAdd, Nat.zero_add, List.nil_append, List.cons_append, List.append_nil] at S)) | (refine wpList_b2sB S ?_) | (refine wpList_b2sR S ?_) | (refine wpList_ldc S ?_))
          have hsrc := S.src8 (b := m) (o := 0) (m := arr.length) (c := arr.length + sl.length) (l := arr ++ sl) (by repeat (first | exact Pull.head | apply Pull.tail)) (by simp)
          rw [List.drop_zero, List.take_left] at hsrc
          refine Calls.mono (hc0.out _ hsrc S.chg) ?_
          clear hsrc
          rintro e w9 ⟨m1, arr1, sl1, dv1, rfl, _, C⟩
          have S2 := S.call C; clear S C; simp only [List.cons_append, List.nil_append] at S2; have S := S2; clear S2
          obtain ⟨a1, c1, rfl, _, _⟩ := S.rowSlice (hp := Pull.tail Pull.head)
          unfold qParts
          clear hc8 hc9 hc0
          cases ha : x.after need with
          | true =>
            obtain ⟨rfl, rfl, q3⟩ := pA.out ha
            have hA8' := hA8.out
            rw [ha] at hA8'
            simp only [if_true] at hA8'
            subst hA8'
            have hbb : ((x1.cap : Int) == (x.cap : Int)) = true := by rw [q3]; exact beq_self_eq_true _
            clear q3
            go_wp2_with (first | go_big_skip | ((with_reducible show Code.wp _ (Code.region _ _ true) _ _ _); refine St.regionLast S ?_; (repeat (first | (go_big_quiet_step (fail)) | (go_big_quiet_want; (first | refine quiet_ld S ?_ | refine quiet_ld8 S ?_ | refine quiet_ld0 ?_ | refine quiet_ldA S ?_ | refine quiet_b2sB S ?_ | refine quiet_b2sR S ?_ | refine quiet_ldc S ?_); go_big_quiet_on))); refine wpQuiet_nil ?_; clear S; intro wq S) | go_big_skip | (refine wpList_ld S ?_) | (refine wpList_ld8 S ?_) | (refine wpList_ld0 ?_) | (refine wpList_ldA S ?_) | (refine wpList_st8 S ?_; (clear S; intro ws S)) | (refine wpList_st S ?_; (clear S; intro ws S)) | (refine wpList_box S ?_; (clear S; intro nb wb hnb S)) | (refine wpList_alloc S ?_; (clear S; intro nb wb hnb S)) | (refine wpList_mk8 S ?_; (clear S; intro nb wb hnb S)) | (refine wpList_mk S ?_; (clear S; intro nb wb hnb S)) | (refine wpList_bs S ?_; (clear S; intro nb wb hnb S)) | (refine wpList_stA S ?_; (clear S; intro ws S; simp only [splice, List.take_zero, List.take_succ_cons, List.drop_succ_cons, List.drop_zero, List.drop_nil, List.length_cons, List.length_nil, Nat.reduceAdd, Nat.zero_add, List.nil_append, List.cons_append, List.append_nil] at S)) | (refine wpList_b2sB S ?_) | (refine wpList_b2sR S ?_) | (refine wpList_ldc S ?_))
            ((first | go_ret | go_ret2 | go_ret3 | go_end0 | skip); refine hR.out _ _ ?_)
            exact ⟨rfl, hw3.out.trans S.chg⟩
          | false =>
            have hA8' := hA8.out
            rw [ha] at hA8'
            simp only [Bool.false_eq_true, if_false] at hA8'
            subst hA8'
            cases hb : x.before need with
            | true =>
              obtain ⟨rfl, rfl, q3⟩ := pB.out ha hb
              have hA9' := hA9.out
              rw [hb] at hA9'
              simp only [if_true] at hA9'
              subst hA9'
              have hbb : ((x1.cap : Int) == (x.cap : Int)) = true := by rw [q3]; exact beq_self_eq_true _
              clear q3
              go_wp2_with (first | go_big_skip | ((with_reducible show Code.wp _ (Code.region _ _ true) _ _ _); refine St.regionLast S ?_; (repeat (first | (go_big_quiet_step (fail)) | (go_big_quiet_want; (first | refine quiet_ld S ?_ | refine quiet_ld8 S ?_ | refine quiet_ld0 ?_ | refine quiet_ldA S ?_ | refine quiet_b2sB S ?_ | refine quiet_b2sR S ?_ | refine quiet_ldc S ?_); go_big_quiet_on))); refine wpQuiet_nil ?_; clear S; intro wq S) | go_big_skip | (refine wpList_ld S ?_) | (refine wpList_ld8 S ?_) | (refine wpList_ld0 ?_) | (refine wpList_ldA S ?_) | (refine wpList_st8 S ?_; (clear S; intro ws S)) | (refine wpList_st S ?_; (clear S; intro ws S)) | (refine wpList_box S ?_; (clear S; intro nb wb hnb S)) | (refine wpList_alloc S ?_; (clear S; intro nb wb hnb S)) | (refine wpList_mk8 S ?_; (clear S; intro nb wb hnb S)) | (refine wpList_mk S ?_; (clear S; intro nb wb hnb S)) | (refine wpList_bs S ?_; (clear S; intro nb wb hnb S)) | (refine wpList_stA S ?_; (clear S; intro ws S; simp only [splice, List.take_zero, List.take_succ_cons, List.drop_succ_cons, List.drop_zero, List.drop_nil, List.length_cons, List.length_nil, Nat.reduceAdd, Nat.zero_add, List.nil_append, List.cons_append, List.append_nil] at S)) | (refine wpList_b2sB S ?_) | (refine wpList_b2sR S ?_) | (refine wpList_ldc S ?_))
              ((first | go_ret | go_ret2 | go_ret3 | go_end0 | skip); refine hR.out _ _ ?_)
              exact ⟨rfl, hw3.out.trans S.chg⟩
            | false =>
              have hA9' := hA9.out
              rw [hb] at hA9'
              simp only [Bool.false_eq_true, if_false] at hA9'
              subst hA9'
              have hfc := pC.out ha hb
              clear pA pB pC
              rcases hfc with rfl | ⟨rfl, hlt⟩
              · go_wp2_with (first | go_big_skip | ((with_reducible show Code.wp _ (Code.region _ _ true) _ _ _); refine St.regionLast S ?_; (repeat (first | (go_big_quiet_step (fail)) | (go_big_quiet_want; (first | refine quiet_ld S ?_ | refine quiet_ld8 S ?_ | refine quiet_ld0 ?_ | refine quiet_ldA S ?_ | refine quiet_b2sB S ?_ | refine quiet_b2sR S ?_ | refine quiet_ldc S ?_); go_big_quiet_on))); refine wpQuiet_nil ?_; clear S; intro wq S) | go_big_skip | (refine wpList_ld S ?_) | (refine wpList_ld8 S ?_) | (refine wpList_ld0 ?_) | (refine wpList_ldA S ?_) | (refine wpList_st8 S ?_; (clear S; intro ws S)) | (refine wpList_st S ?_; (clear S; intro ws S)) | (refine wpList_box S ?_; (clear S; intro nb wb hnb S)) | (refine wpList_alloc S ?_; (clear S; intro nb wb hnb S)) | (refine wpList_mk8 S ?_; (clear S; intro nb wb hnb S)) | (refine wpList_mk S ?_; (clear S; intro nb wb hnb S)) | (refine wpList_bs S ?_; (clear S; intro nb wb hnb S)) | (refine wpList_stA S ?_; (clear S; intro ws S; simp only [splice, List.take_zero, List.take_succ_cons, List.drop_succ_cons, List.drop_zero, List.drop_nil, List.length_cons, List.length_nil, Nat.reduceAdd, Nat.zero_add, List.nil_append, List.cons_append, List.append_nil] at S)) | (refine wpList_b2sB S ?_) | (refine wpList_b2sR S ?_) | (refine wpList_ldc S ?_))
                refine Calls.mono (quLives _) ?_
                rintro e w10 ⟨rfl, C⟩
                have S2 := S.call C; clear S C; simp only [List.cons_append, List.nil_append] at S2; have S := S2; clear S2
                go_wp2_with (first | go_big_skip | ((with_reducible show Code.wp _ (Code.region _ _ true) _ _ _); refine St.regionLast S ?_; (repeat (first | (go_big_quiet_step (fail)) | (go_big_quiet_want; (first | refine quiet_ld S ?_ | refine quiet_ld8 S ?_ | refine quiet_ld0 ?_ | refine quiet_ldA S ?_ | refine quiet_b2sB S ?_ | refine quiet_b2sR S ?_ | refine quiet_ldc S ?_); go_big_quiet_on))); refine wpQuiet_nil ?_; clear S; intro wq S) | go_big_skip | (refine wpList_ld S ?_) | (refine wpList_ld8 S ?_) | (refine wpList_ld0 ?_) | (refine wpList_ldA S ?_) | (refine wpList_st8 S ?_; (clear S; intro ws S)) | (refine wpList_st S ?_; (clear S; intro ws S)) | (refine wpList_box S ?_; (clear S; intro nb wb hnb S)) | (refine wpList_alloc S ?_; (clear S; intro nb wb hnb S)) | (refine wpList_mk8 S ?_; (clear S; intro nb wb hnb S)) | (refine wpList_mk S ?_; (clear S; intro nb wb hnb S)) | (refine wpList_bs S ?_; (clear S; intro nb wb hnb S)) | (refine wpList_stA S ?_; (clear S; intro ws S; simp only [splice, List.take_zero, List.take_succ_cons, List.drop_succ_cons, List.drop_zero, List.drop_nil, List.length_cons, List.length_nil, Nat.reduceAdd, Nat.zero_add, List.nil_append, List.cons_append, List.append_nil] at S)) | (refine wpList_b2sB S ?_) | (refine wpList_b2sR S ?_) | (refine wpList_ldc S ?_))
                ((first | go_ret | go_ret2 | go_ret3 | go_end0 | skip); refine hR.out _ _ ?_)
                exact ⟨rfl, hw3.out.trans S.chg⟩
              · go_wp2_with (first | go_big_skip | ((with_reducible show Code.wp _ (Code.region _ _ true) _ _ _); refine St.regionLast S ?_; (repeat (first | (go_big_quiet_step (fail)) | (go_big_quiet_want; (first | refine quiet_ld S ?_ | refine quiet_ld8 S ?_ | refine quiet_ld0 ?_ | refine quiet_ldA S ?_ | refine quiet_b2sB S ?_ | refine quiet_b2sR S ?_ | refine quiet_ldc S ?_); go_big_quiet_on))); refine wpQuiet_nil ?_; clear S; intro wq S) | go_big_skip | (refine wpList_ld S ?_) | (refine wpList_ld8 S ?_) | (refine wpList_ld0 ?_) | (refine wpList_ldA S ?_) | (refine wpList_st8 S ?_; (clear S; intro ws S)) | (refine wpList_st S ?_; (clear S; intro ws S)) | (refine wpList_box S ?_; (clear S; intro nb wb hnb S)) | (refine wpList_alloc S ?_; (clear S; intro nb wb hnb S)) | (refine wpList_mk8 S ?_; (clear S; intro nb wb hnb S)) | (refine wpList_mk S ?_; (clear S; intro nb wb hnb S)) | (refine wpList_bs S ?_; (clear S; intro nb wb hnb S)) | (refine wpList_stA S ?_; (clear S; intro ws S; simp only [splice, List.take_zero, List.take_succ_cons, List.drop_succ_cons, List.drop_zero, List.drop_nil, List.length_cons, List.length_nil, Nat.reduceAdd, Nat.zero_add, List.nil_append, List.cons_append, List.append_nil] at S)) | (refine wpList_b2sB S ?_) | (refine wpList_b2sR S ?_) | (refine wpList_ldc S ?_))
                refine Calls.mono (quLives _) ?_
                rintro e w10 ⟨rfl, C⟩
                have S2 := S.call C; clear S C; simp only [List.cons_append, List.nil_append] at S2; have S := S2; clear S2
                go_wp2_with (first | go_big_skip | ((with_reducible show Code.wp _ (Code.region _ _ true) _ _ _); refine St.regionLast S ?_; (repeat (first | (go_big_quiet_step (fail)) | (go_big_quiet_want; (first | refine quiet_ld S ?_ | refine quiet_ld8 S ?_ | refine quiet_ld0 ?_ | refine quiet_ldA S ?_ | refine quiet_b2sB S ?_ | refine quiet_b2sR S ?_ | refine quiet_ldc S ?_); go_big_quiet_on))); refine wpQuiet_nil ?_; clear S; intro wq S) | go_big_skip | (refine wpList_ld S ?_) | (refine wpList_ld8 S ?_) | (refine wpList_ld0 ?_) | (refine wpList_ldA S ?_) | (refine wpList_st8 S ?_; (clear S; intro ws S)) | (refine wpList_st S ?_; (clear S; intro ws S)) | (refine wpList_box S ?_; (clear S; intro nb wb hnb S)) | (refine wpList_alloc S ?_; (clear S; intro nb wb hnb S)) | (refine wpList_mk8 S ?_; (clear S; intro nb wb hnb S)) | (refine wpList_mk S ?_; (clear S; intro nb wb hnb S)) | (refine wpList_bs S ?_; (clear S; intro nb wb hnb S)) | (refine wpList_stA S ?_; (clear S; intro ws S; simp only [splice, List.take_zero, List.take_succ_cons, List.drop_succ_cons, List.drop_zero, List.drop_nil, List.length_cons, List.length_nil, Nat.reduceAdd, Nat.zero_add, List.nil_append, List.cons_append, List.append_nil] at S)) | (refine wpList_b2sB S ?_) | (refine wpList_b2sR S ?_) | (refine wpList_ldc S ?_))
                ((first | go_ret | go_ret2 | go_ret3 | go_end0 | skip); refine hR.out _ _ ?_)
                exact ⟨rfl, hw3.out.trans S.chg⟩
theorem rowQueueRoom {H : Type} {enc : TypeId × Value → H} {base base' : Nat} {spare : Nat → Bool} {held : Bool} {r : Reach} {d : DataW H} {ps : List MemPlace} {X0 X1 X2 : Prop} (a0 a1 : Int) (v v3 : Value) (n3 : Nat) (l : List UInt8) (W : World) (_ : X0) (_ : X1)
    (hval : Value.okWide Try.prog W r base' 22 v) (hd : DataW.Trod enc Try.prog W base spare held 22 v d ps) (_ : X2) (h3 : Src W 1 v3 n3 (u8s l)) (_ : l.length = n3) (hs : ∃ a c, v3 = .slice a n3 c ∧ n3 ≤ maxLen ∧ n3 ≤ c) :
    Calls Try.prog 10 #[.int .i64 a0, .int .i64 a1, v, v3] W fun e w' => e = .returned (.bool true) ∧ Below W.heap.size W w' := by
  obtain ⟨ops, h⟩ := open_qops hval hd
  obtain ⟨a, c, rfl, _, hc⟩ := hs
  exact Calls.mono (lawQueueRoom a0 a1 v ops a n3 c l W h h3 hc) fun e w' ⟨h1, h2⟩ => ⟨h1, h2.below⟩
end Go.Proofs.Ytkfkcinkkgdebaa
