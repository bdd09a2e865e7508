/- Answers that are the same; the end of a slice. -/
import Derived.Test.YtkfkcinkkgdebaaOpenQ
namespace Go.Vil
open Go Go.RowKit
theorem Src.dropN {w : World} {size : Nat} {ad : Addr} {n c : Nat} {xs : List Value} (h : Src w size (.slice (some ad) n c) n xs) (k c' : Nat) (ha : Addr) (hh : k < n → ha = ad.add (k * size)) : Src w size (.slice (some ha) (n - k) c') (n - k) (xs.drop (k * size)) := by
  refine ⟨?_, fun u hu => h.2.1 u (List.mem_of_mem_drop hu), rfl, fun j u hu => ?_⟩
  · rw [List.length_drop, h.1, Nat.sub_mul]
  · have hlt : k < n := by
      have := (List.getElem?_eq_some_iff.1 hu).1
      rw [List.length_drop, h.1, ← Nat.sub_mul] at this
      rcases Nat.lt_or_ge k n with h' | h'
      · exact h'
      · rw [Nat.sub_eq_zero_of_le h', Nat.zero_mul] at this; omega
    rw [hh hlt, Go.Vil.add_add]
    rw [List.getElem?_drop] at hu
    exact h.2.2.2 _ u hu
theorem Arr.dropN {α : Type} {R : World → α → List Value → Prop} {size : Nat} {w : World} {ad : Addr} {n c : Nat} {xs : List α} (h : Arr R size w (.slice (Option.some ad) n c) xs) (k c' : Nat) (hk : k ≤ n) (hc : n - k ≤ c') (ha : Addr) (hh : k < n → ha = ad.add (k * size)) : Arr R size w (.slice (Option.some ha) (n - k) c') (xs.drop k) := by
  obtain ⟨oa, c2, css, h1, h2, h3, h4⟩ := h
  cases h1
  refine ⟨Option.some ha, c', css.drop k, by rw [List.length_drop], by rw [List.length_drop]; exact hc, h3.drop k, ?_⟩
  have := h4.dropN k c' ha hh
  rw [List.length_drop]
  have e : (css.drop k).flatten = css.flatten.drop (k * size) := by
    have hs := Each.sizes h3
    clear this h4 h3 h2 hk hc hh
    induction k generalizing css with
    | zero => simp
    | succ k ih =>
      cases css with
      | nil => simp
      | cons cs css =>
        have h5 := hs cs List.mem_cons_self
        have e1 : (k + 1) * size = cs.length + k * size := by rw [h5, Nat.add_mul]; omega
        have e2 : (cs ++ css.flatten).drop (cs.length + k * size) = css.flatten.drop (k * size) := by
          rw [List.drop_append, List.drop_eq_nil_of_le (by omega), List.nil_append]
          congr 1
          omega
        rw [List.drop_succ_cons, ih css (fun x hx => hs x (List.mem_cons_of_mem _ hx)), List.flatten_cons, e1, e2]
  rw [e]; exact this
end Go.Vil
namespace Go.Proofs.Ytkfkcinkkgdebaa
open Go Go.RowKit Go.Vil
set_option linter.unusedSimpArgs false
set_option linter.unusedVariables false
set_option maxRecDepth 100000

set_option maxHeartbeats 3200000 in
theorem quSame (oa ob : Option Addr) (ca cb : Nat) (l : List QAns) (w : World) (hA : Arr AnsV 3 w (.slice oa l.length ca) l) (hB : Arr AnsV 3 w (.slice ob l.length cb) l) (hn : l.length ≤ 1000) (hd : ∀ an ∈ l, an.data.length ≤ 1073741824) :
    Calls Try.prog 19 #[.slice oa l.length ca, .slice ob l.length cb] w fun e w' => e = .returned (.bool true) ∧ St w [] w' [] := by
  have S := St.begin w
  replace hA := hidden hA
  replace hB := hidden hB
  replace hd := hidden hd
  refine Calls.cps ?_; intro R hR
  go_enter Try.func19, Try.ntmps19
  go_wp2_with (first | go_big_skip | ((with_reducible show Code.wp _ (Code.region _ _ true) _ _ _); refine St.regionLast S ?_; (repeat (first | (go_big_quiet_step (fail)) | (go_big_quiet_want; (first | refine quiet_ld S ?_ | refine quiet_ld8 S ?_ | refine quiet_ld0 ?_ | refine quiet_ldA S ?_ | refine quiet_b2sB S ?_ | refine quiet_b2sR S ?_ | refine quiet_ldc S ?_); go_big_quiet_on))); refine wpQuiet_nil ?_; clear S; intro wq S) | go_big_skip | (refine wpList_ld S ?_) | (refine wpList_ld8 S ?_) | (refine wpList_ld0 ?_) | (refine wpList_ldA S ?_) | (refine wpList_st8 S ?_; (clear S; intro ws S)) | (refine wpList_st S ?_; (clear S; intro ws S)) | (refine wpList_box S ?_; (clear S; intro nb wb hnb S)) | (refine wpList_alloc S ?_; (clear S; intro nb wb hnb S)) | (refine wpList_mk8 S ?_; (clear S; intro nb wb hnb S)) | (refine wpList_mk S ?_; (clear S; intro nb wb hnb S)) | (refine wpList_bs S ?_; (clear S; intro nb wb hnb S)) | (refine wpList_stA S ?_; (clear S; intro ws S; simp only [splice, List.take_zero, List.take_succ_cons, List.drop_succ_cons, List.drop_zero, List.drop_nil, List.length_cons, List.length_nil, Nat.reduceAdd, Nat.zero_add, List.nil_append, List.cons_append, List.append_nil] at S)) | (refine wpList_b2sB S ?_) | (refine wpList_b2sR S ?_) | (refine wpList_ldc S ?_))
  go_loopg [5, 6, 14] l.length (fun g i5 x6 i wr => ∃ k : Nat, Hid (k + g = l.length) ∧ i = .int .i64 k ∧ k ≤ l.length ∧ St w [] wr [])
  case atStart => exact ⟨0, hidden (by omega), rfl, Nat.zero_le _, S⟩
  case round =>
    clear S
    obtain ⟨k, hg, rfl, hkn, S⟩ := hrel
    by_cases hlt : k < l.length
    · obtain ⟨ad, rfl⟩ := hA.out.some (by decide) (by omega)
      obtain ⟨bd, rfl⟩ := hB.out.some (by decide) (by omega)
      have hop : l[k]? = some l[k] := List.getElem?_eq_getElem hlt
      have hdl := hd.out l[k] (List.getElem_mem hlt)
      obtain ⟨cs, ⟨oa', c', rfl, hs', hc'⟩, hl3, hcell⟩ := hA.out.get k _ hop
      obtain ⟨cs2, ⟨ob', d', rfl, hs2, hc2⟩, hl4, hcell2⟩ := hB.out.get k _ hop
      generalize l[k] = an at *
      have g0 := hcell2 0 _ rfl
      have g1 := hcell2 1 _ rfl
      have g2 := hcell2 2 _ rfl
      rw [Addr.add_zero'] at g0
      clear hop hl3 hl4 hcell2
      replace hcell := hidden hcell
      replace hs' := hidden hs'
      replace hs2 := hidden hs2
      go_upto_region 6 with (first | go_big_skip | (refine wpList_ldAc S ?_ (by rfl) hcell.out) | ((with_reducible show Code.wp _ (Code.region _ _ true) _ _ _); refine St.regionLast S ?_; (repeat (first | (go_big_quiet_step (fail)) | (go_big_quiet_want; (first | refine quiet_ld S ?_ | refine quiet_ld8 S ?_ | refine quiet_ld0 ?_ | refine quiet_ldA S ?_ | refine quiet_b2sB S ?_ | refine quiet_b2sR S ?_ | refine quiet_ldc S ?_); go_big_quiet_on))); refine wpQuiet_nil ?_; clear S; intro wq S) | go_big_skip | (refine wpList_ld S ?_) | (refine wpList_ld8 S ?_) | (refine wpList_ld0 ?_) | (refine wpList_ldA S ?_) | (refine wpList_st8 S ?_; (clear S; intro ws S)) | (refine wpList_st S ?_; (clear S; intro ws S)) | (refine wpList_box S ?_; (clear S; intro nb wb hnb S)) | (refine wpList_alloc S ?_; (clear S; intro nb wb hnb S)) | (refine wpList_mk8 S ?_; (clear S; intro nb wb hnb S)) | (refine wpList_mk S ?_; (clear S; intro nb wb hnb S)) | (refine wpList_bs S ?_; (clear S; intro nb wb hnb S)) | (refine wpList_stA S ?_; (clear S; intro ws S; simp only [splice, List.take_zero, List.take_succ_cons, List.drop_succ_cons, List.drop_zero, List.drop_nil, List.length_cons, List.length_nil, Nat.reduceAdd, Nat.zero_add, List.nil_append, List.cons_append, List.append_nil] at S)) | (refine wpList_b2sB S ?_) | (refine wpList_b2sR S ?_) | (refine wpList_ldc S ?_))
      have b1 : (an.fault != an.fault) = false := bne_self_eq_false _
      have b2 : (an.number != an.number) = false := bne_self_eq_false _
      refine St.regionG S 29 [([0, 1, 2, 3, 4, 5, 6, 7, 8, 9, 10, 11, 12, 13, 14, 15, 16, 17, 18, 19, 20, 21, 22, 23, 24, 25], 26)] [27, 28] ?_
      clear S; intro wr S; simp only [walkSt, pick, List.getElem?_cons_succ, List.getElem?_cons_zero, List.drop_succ_cons, List.drop_zero]; (repeat (first | (go_big_quiet_step (fail)) | (go_big_quiet_want; (first | refine quiet_ld S ?_ | refine quiet_ld8 S ?_ | refine quiet_ld0 ?_ | refine quiet_ldA S ?_ | refine quiet_b2sB S ?_ | refine quiet_b2sR S ?_ | refine quiet_ldc S ?_); go_big_quiet_on))); refine wpQuiet_nil ?_
      go_wp2_with fail
      refine Calls.mono (sameBytes (.bool true) (.bool true) an.data an.data oa' ob' c' d' _ (hs'.out.on S.chg) (hs2.out.on S.chg) (by omega)) ?_
      rintro e2 w3 ⟨rfl, C⟩
      have hbt : decide (an.data = an.data) = true := by simp
      rw [hbt]
      clear hbt
      have S2 := S.call C; clear S C; simp only [List.cons_append, List.nil_append] at S2; have S := S2; clear S2
      go_wp2_with fail
      refine ⟨_, S, (by repeat (first | exact Sel.nil | (apply Sel.cons; (repeat (first | exact Pull.head | apply Pull.tail))))), ?_⟩; (repeat (first | (go_big_quiet_step (fail)) | (go_big_quiet_want; (first | refine quiet_ld S ?_ | refine quiet_ld8 S ?_ | refine quiet_ld0 ?_ | refine quiet_ldA S ?_ | refine quiet_b2sB S ?_ | refine quiet_b2sR S ?_ | refine quiet_ldc S ?_); go_big_quiet_on))); refine wpQuiet_nil ?_
      go_wp2_with (first | go_big_skip | ((with_reducible show Code.wp _ (Code.region _ _ true) _ _ _); refine St.regionLast S ?_; (repeat (first | (go_big_quiet_step (fail)) | (go_big_quiet_want; (first | refine quiet_ld S ?_ | refine quiet_ld8 S ?_ | refine quiet_ld0 ?_ | refine quiet_ldA S ?_ | refine quiet_b2sB S ?_ | refine quiet_b2sR S ?_ | refine quiet_ldc S ?_); go_big_quiet_on))); refine wpQuiet_nil ?_; clear S; intro wq S) | go_big_skip | (refine wpList_ld S ?_) | (refine wpList_ld8 S ?_) | (refine wpList_ld0 ?_) | (refine wpList_ldA S ?_) | (refine wpList_st8 S ?_; (clear S; intro ws S)) | (refine wpList_st S ?_; (clear S; intro ws S)) | (refine wpList_box S ?_; (clear S; intro nb wb hnb S)) | (refine wpList_alloc S ?_; (clear S; intro nb wb hnb S)) | (refine wpList_mk8 S ?_; (clear S; intro nb wb hnb S)) | (refine wpList_mk S ?_; (clear S; intro nb wb hnb S)) | (refine wpList_bs S ?_; (clear S; intro nb wb hnb S)) | (refine wpList_stA S ?_; (clear S; intro ws S; simp only [splice, List.take_zero, List.take_succ_cons, List.drop_succ_cons, List.drop_zero, List.drop_nil, List.length_cons, List.length_nil, Nat.reduceAdd, Nat.zero_add, List.nil_append, List.cons_append, List.append_nil] at S)) | (refine wpList_b2sB S ?_) | (refine wpList_b2sR S ?_) | (refine wpList_ldc S ?_))
      go_roundg (gk - 1)
      case measure => have := hg.out; omega
      case rel => exact ⟨k + 1, hidden (by have := hg.out; omega), by go_num, by omega, S.sel (by repeat (first | exact Sel.nil | (apply Sel.cons; (repeat (first | exact Pull.head | apply Pull.tail)))))⟩
    · go_wp2_with (first | go_big_skip | ((with_reducible show Code.wp _ (Code.region _ _ true) _ _ _); refine St.regionLast S ?_; (repeat (first | (go_big_quiet_step (fail)) | (go_big_quiet_want; (first | refine quiet_ld S ?_ | refine quiet_ld8 S ?_ | refine quiet_ld0 ?_ | refine quiet_ldA S ?_ | refine quiet_b2sB S ?_ | refine quiet_b2sR S ?_ | refine quiet_ldc S ?_); go_big_quiet_on))); refine wpQuiet_nil ?_; clear S; intro wq S) | go_big_skip | (refine wpList_ld S ?_) | (refine wpList_ld8 S ?_) | (refine wpList_ld0 ?_) | (refine wpList_ldA S ?_) | (refine wpList_st8 S ?_; (clear S; intro ws S)) | (refine wpList_st S ?_; (clear S; intro ws S)) | (refine wpList_box S ?_; (clear S; intro nb wb hnb S)) | (refine wpList_alloc S ?_; (clear S; intro nb wb hnb S)) | (refine wpList_mk8 S ?_; (clear S; intro nb wb hnb S)) | (refine wpList_mk S ?_; (clear S; intro nb wb hnb S)) | (refine wpList_bs S ?_; (clear S; intro nb wb hnb S)) | (refine wpList_stA S ?_; (clear S; intro ws S; simp only [splice, List.take_zero, List.take_succ_cons, List.drop_succ_cons, List.drop_zero, List.drop_nil, List.length_cons, List.length_nil, Nat.reduceAdd, Nat.zero_add, List.nil_append, List.cons_append, List.append_nil] at S)) | (refine wpList_b2sB S ?_) | (refine wpList_b2sR S ?_) | (refine wpList_ldc S ?_))
      ((first | go_ret | go_ret2 | go_ret3 | go_end0 | skip); refine hR.out _ _ ?_)
      exact ⟨rfl, S.sel (by repeat (first | exact Sel.nil | (apply Sel.cons; (repeat (first | exact Pull.head | apply Pull.tail)))))⟩

theorem ans_small {x : Qu} (hg : x.Good) {op : QOp} (hp : Plain6 op) : (qStep x op).2.data.length ≤ x.cap := by
  obtain ⟨arr, hr⟩ := hg
  have hk := hp.1
  have hold : ∀ b m, x.old = b :: m → b.p.length ≤ x.cap := by
    intro b m ho
    have h1 := (hr.right_le (by rw [ho]; simp)).1
    have h2 := (hr.okO b (by rw [ho]; exact List.mem_cons_self)).1
    unfold Qu.right at h1
    rw [ho, sz_cons] at h1
    omega
  unfold qStep
  split
  · cases h : x.push op.data with
    | mk x' o => cases o <;> exact Nat.zero_le _
  split
  · cases ho : x.old with
    | nil => exact Nat.zero_le _
    | cons b m => exact hold b m ho
  split
  · cases ho : x.old with
    | nil => exact Nat.zero_le _
    | cons b m => exact hold b m ho
  rw [if_neg (by omega), if_neg (by omega)]
  repeat' split
  all_goals exact Nat.zero_le _
theorem run_small : ∀ (l : List QOp) (x : Qu), x.Good → qFine x l → (∀ op ∈ l, Plain6 op) → ∀ an ∈ qRun x l, an.data.length ≤ 1073741824
  | [], x, _, _, _ => fun an h => by cases h
  | op :: l, x, hg, hf, hp => fun an h => by
    have hp1 := hp op List.mem_cons_self
    rcases List.mem_cons.1 h with rfl | h
    · exact Nat.le_trans (ans_small hg hp1) hf.2.1
    · exact run_small l _ (qStep_good hg hf.2.1 op (fun _ => hp1.2)) hf.2.2.2 (fun o ho => hp o (List.mem_cons_of_mem _ ho)) an h
end Go.Proofs.Ytkfkcinkkgdebaa
