/- How a queue grows. -/
import Derived.Test.YtkfkcinkkgdebaaQc
import Derived.Test.YtkfkcinkkgdebaaQuG
import Derived.Deep.DeepCutAuto
namespace Go.Proofs.Ytkfkcinkkgdebaa
open Go Go.RowKit Go.Vil
set_option linter.unusedSimpArgs false
set_option linter.unusedVariables false
set_option maxRecDepth 100000

theorem qMem_new (q nb hb : Nat) {x' : Qu} {arr' h : List UInt8} {f : Bool} {c mx hd t cn r L : Nat} (h1 : x'.full = f) (h2 : x'.cap = c) (h3 : x'.max = mx) (h4 : x'.head = hd) (h5 : x'.tail = t) (h6 : x'.count = cn) (h7 : x'.right = r) (h8 : arr'.length = L) :
    qMem q nb hb x' arr' [] h = [.blk q (.cells [.bool f, .slice (some ⟨nb, 0, none⟩) L L, .int .i64 c, .int .i64 mx, .int .i64 hd, .int .i64 t, .int .i64 cn, .int .i64 r, .slice (some ⟨hb, 0, none⟩) 5 5].toArray 88 (0, 0)), .blk nb (.cells (u8s arr').toArray 5 (0, 0)), .blk hb (.cells (u8s h).toArray 5 (0, 0))] := by
  subst h1 h2 h3 h4 h5 h6 h7 h8
  simp only [qMem, qHead, qBlk, qArr, List.append_nil, List.length_nil, Nat.add_zero]

set_option maxHeartbeats 3200000 in
theorem quGrow (q m hb : Nat) (x : Qu) (arr sl h : List UInt8) (need : Nat) (w : World)
    (hM : Mem w (qMem q m hb x arr sl h)) (hh : h.length = 5) (hr : x.Rep arr) (h1 : x.cap ≤ 1073741824) (h2 : need ≤ 1073741824) (h3 : x.max ≤ 1073741824) (h4 : x.cap ≤ x.newCap need) (h5 : x.newCap need ≤ 1073741824) :
    Calls Try.prog 81 #[.pointer (some ⟨q, 0, none⟩), .int .i64 need] w fun e w' => e = .returned (.tuple #[]) ∧ ∃ (m' : Nat) (arr' h' : List UInt8), h'.length = 5 ∧ (x.grow need).Rep arr' ∧ St w [q, m, hb] w' (qMem q m' hb (x.grow need) arr' [] h') := by
  have S : St w [q, m, hb] w _ := St.start hM
  clear hM
  refine Calls.cps ?_; intro R hR
  have hn := hidden (show x.newCap need = (if (if x.cap < need then x.cap + need else x.cap) * 2 > x.max ∧ x.max > 0 then x.max else (if x.cap < need then x.cap + need else x.cap) * 2) from rfl)
  go_enter Try.func81, Try.ntmps81
  go_upto_if 10 with (first | ((with_reducible show Code.wp _ (Code.region _ _ true) _ _ _); refine St.regionLast S ?_; (repeat (first | (go_big_quiet_step (fail)) | (go_big_quiet_want; (first | refine quiet_ld S ?_ | refine quiet_ld8 S ?_ | refine quiet_ld0 ?_ | refine quiet_ldA S ?_ | refine quiet_b2sB S ?_ | refine quiet_b2sR S ?_ | refine quiet_ldc S ?_); go_big_quiet_on))); refine wpQuiet_nil ?_; clear S; intro wq S) | go_big_skip | (refine wpList_ld S ?_) | (refine wpList_ld8 S ?_) | (refine wpList_ld0 ?_) | (refine wpList_ldA S ?_) | (refine wpList_st8 S ?_; (clear S; intro ws S)) | (refine wpList_st S ?_; (clear S; intro ws S)) | (refine wpList_box S ?_; (clear S; intro nb wb hnb S)) | (refine wpList_alloc S ?_; (clear S; intro nb wb hnb S)) | (refine wpList_mk8 S ?_; (clear S; intro nb wb hnb S)) | (refine wpList_mk S ?_; (clear S; intro nb wb hnb S)) | (refine wpList_bs S ?_; (clear S; intro nb wb hnb S)) | (refine wpList_stA S ?_; (clear S; intro ws S; simp only [splice, List.take_zero, List.take_succ_cons, List.drop_succ_cons, List.drop_zero, List.drop_nil, List.length_cons, List.length_nil, Nat.reduceAdd, Nat.zero_add, List.nil_append, List.cons_append, List.append_nil] at S)) | (refine wpList_b2sB S ?_) | (refine wpList_b2sR S ?_) | (refine wpList_ldc S ?_))
  go_cut [] (fun w' => ∃ c : Nat, Hid (c = if x.cap < need then x.cap + need else x.cap) ∧ c ≤ 2147483648 ∧ St w [q, m, hb] w' [qHead q m hb x.full arr sl c x.max x.head x.tail x.count x.right, qBlk m arr sl, .blk hb (.cells (u8s h).toArray 5 (0, 0))])
  case first =>
    by_cases c1 : x.cap < need
    · go_wp2_with (first | go_big_skip | ((with_reducible show Code.wp _ (Code.region _ _ true) _ _ _); refine St.regionLast S ?_; (repeat (first | (go_big_quiet_step (fail)) | (go_big_quiet_want; (first | refine quiet_ld S ?_ | refine quiet_ld8 S ?_ | refine quiet_ld0 ?_ | refine quiet_ldA S ?_ | refine quiet_b2sB S ?_ | refine quiet_b2sR S ?_ | refine quiet_ldc S ?_); go_big_quiet_on))); refine wpQuiet_nil ?_; clear S; intro wq S) | go_big_skip | (refine wpList_ld S ?_) | (refine wpList_ld8 S ?_) | (refine wpList_ld0 ?_) | (refine wpList_ldA S ?_) | (refine wpList_st8 S ?_; (clear S; intro ws S)) | (refine wpList_st S ?_; (clear S; intro ws S)) | (refine wpList_box S ?_; (clear S; intro nb wb hnb S)) | (refine wpList_alloc S ?_; (clear S; intro nb wb hnb S)) | (refine wpList_mk8 S ?_; (clear S; intro nb wb hnb S)) | (refine wpList_mk S ?_; (clear S; intro nb wb hnb S)) | (refine wpList_bs S ?_; (clear S; intro nb wb hnb S)) | (refine wpList_stA S ?_; (clear S; intro ws S; simp only [splice, List.take_zero, List.take_succ_cons, List.drop_succ_cons, List.drop_zero, List.drop_nil, List.length_cons, List.length_nil, Nat.reduceAdd, Nat.zero_add, List.nil_append, List.cons_append, List.append_nil] at S)) | (refine wpList_b2sB S ?_) | (refine wpList_b2sR S ?_) | (refine wpList_ldc S ?_))
      go_meet
      exact ⟨x.cap + need, hidden (by rw [if_pos c1]), by omega, S⟩
    · go_wp2_with (first | go_big_skip | ((with_reducible show Code.wp _ (Code.region _ _ true) _ _ _); refine St.regionLast S ?_; (repeat (first | (go_big_quiet_step (fail)) | (go_big_quiet_want; (first | refine quiet_ld S ?_ | refine quiet_ld8 S ?_ | refine quiet_ld0 ?_ | refine quiet_ldA S ?_ | refine quiet_b2sB S ?_ | refine quiet_b2sR S ?_ | refine quiet_ldc S ?_); go_big_quiet_on))); refine wpQuiet_nil ?_; clear S; intro wq S) | go_big_skip | (refine wpList_ld S ?_) | (refine wpList_ld8 S ?_) | (refine wpList_ld0 ?_) | (refine wpList_ldA S ?_) | (refine wpList_st8 S ?_; (clear S; intro ws S)) | (refine wpList_st S ?_; (clear S; intro ws S)) | (refine wpList_box S ?_; (clear S; intro nb wb hnb S)) | (refine wpList_alloc S ?_; (clear S; intro nb wb hnb S)) | (refine wpList_mk8 S ?_; (clear S; intro nb wb hnb S)) | (refine wpList_mk S ?_; (clear S; intro nb wb hnb S)) | (refine wpList_bs S ?_; (clear S; intro nb wb hnb S)) | (refine wpList_stA S ?_; (clear S; intro ws S; simp only [splice, List.take_zero, List.take_succ_cons, List.drop_succ_cons, List.drop_zero, List.drop_nil, List.length_cons, List.length_nil, Nat.reduceAdd, Nat.zero_add, List.nil_append, List.cons_append, List.append_nil] at S)) | (refine wpList_b2sB S ?_) | (refine wpList_b2sR S ?_) | (refine wpList_ldc S ?_))
      go_meet
      exact ⟨x.cap, hidden (by rw [if_neg c1]), by omega, S⟩
  case rest =>
    obtain ⟨c, hc, hc2, S⟩ := hcut
    go_upto_region 3 with (first | go_big_skip | (refine wpList_ld S ?_) | (refine wpList_ld8 S ?_) | (refine wpList_ld0 ?_) | (refine wpList_ldA S ?_) | (refine wpList_st8 S ?_; (clear S; intro ws S)) | (refine wpList_st S ?_; (clear S; intro ws S)) | (refine wpList_box S ?_; (clear S; intro nb wb hnb S)) | (refine wpList_alloc S ?_; (clear S; intro nb wb hnb S)) | (refine wpList_mk8 S ?_; (clear S; intro nb wb hnb S)) | (refine wpList_mk S ?_; (clear S; intro nb wb hnb S)) | (refine wpList_bs S ?_; (clear S; intro nb wb hnb S)) | (refine wpList_stA S ?_; (clear S; intro ws S; simp only [splice, List.take_zero, List.take_succ_cons, List.drop_succ_cons, List.drop_zero, List.drop_nil, List.length_cons, List.length_nil, Nat.reduceAdd, Nat.zero_add, List.nil_append, List.cons_append, List.append_nil] at S)) | (refine wpList_b2sB S ?_) | (refine wpList_b2sR S ?_) | (refine wpList_ldc S ?_))
    go_cut [42] (fun s w' => s = .bool (decide (x.max < c * 2 ∧ 0 < x.max)) ∧ St w [q, m, hb] w' [qHead q m hb x.full arr sl (c * 2 : Nat) x.max x.head x.tail x.count x.right, qBlk m arr sl, .blk hb (.cells (u8s h).toArray 5 (0, 0))])
    case first =>
      by_cases c1 : x.max < c * 2
      · have hbb : decide ((x.max : Int) < (c : Int) * 2) = true := by simp; omega
        replace c1 := hidden c1
        go_wp2_with (first | go_big_skip | ((with_reducible show Code.wp _ (Code.region _ _ true) _ _ _); refine St.regionLast S ?_; (repeat (first | (go_big_quiet_step (fail)) | (go_big_quiet_want; (first | refine quiet_ld S ?_ | refine quiet_ld8 S ?_ | refine quiet_ld0 ?_ | refine quiet_ldA S ?_ | refine quiet_b2sB S ?_ | refine quiet_b2sR S ?_ | refine quiet_ldc S ?_); go_big_quiet_on))); refine wpQuiet_nil ?_; clear S; intro wq S) | go_big_skip | (refine wpList_ld S ?_) | (refine wpList_ld8 S ?_) | (refine wpList_ld0 ?_) | (refine wpList_ldA S ?_) | (refine wpList_st8 S ?_; (clear S; intro ws S)) | (refine wpList_st S ?_; (clear S; intro ws S)) | (refine wpList_box S ?_; (clear S; intro nb wb hnb S)) | (refine wpList_alloc S ?_; (clear S; intro nb wb hnb S)) | (refine wpList_mk8 S ?_; (clear S; intro nb wb hnb S)) | (refine wpList_mk S ?_; (clear S; intro nb wb hnb S)) | (refine wpList_bs S ?_; (clear S; intro nb wb hnb S)) | (refine wpList_stA S ?_; (clear S; intro ws S; simp only [splice, List.take_zero, List.take_succ_cons, List.drop_succ_cons, List.drop_zero, List.drop_nil, List.length_cons, List.length_nil, Nat.reduceAdd, Nat.zero_add, List.nil_append, List.cons_append, List.append_nil] at S)) | (refine wpList_b2sB S ?_) | (refine wpList_b2sR S ?_) | (refine wpList_ldc S ?_))
        go_meet
        exact ⟨by simp [c1.out], S⟩
      · have hbb : decide ((x.max : Int) < (c : Int) * 2) = false := by simp; omega
        replace c1 := hidden c1
        go_wp2_with (first | go_big_skip | ((with_reducible show Code.wp _ (Code.region _ _ true) _ _ _); refine St.regionLast S ?_; (repeat (first | (go_big_quiet_step (fail)) | (go_big_quiet_want; (first | refine quiet_ld S ?_ | refine quiet_ld8 S ?_ | refine quiet_ld0 ?_ | refine quiet_ldA S ?_ | refine quiet_b2sB S ?_ | refine quiet_b2sR S ?_ | refine quiet_ldc S ?_); go_big_quiet_on))); refine wpQuiet_nil ?_; clear S; intro wq S) | go_big_skip | (refine wpList_ld S ?_) | (refine wpList_ld8 S ?_) | (refine wpList_ld0 ?_) | (refine wpList_ldA S ?_) | (refine wpList_st8 S ?_; (clear S; intro ws S)) | (refine wpList_st S ?_; (clear S; intro ws S)) | (refine wpList_box S ?_; (clear S; intro nb wb hnb S)) | (refine wpList_alloc S ?_; (clear S; intro nb wb hnb S)) | (refine wpList_mk8 S ?_; (clear S; intro nb wb hnb S)) | (refine wpList_mk S ?_; (clear S; intro nb wb hnb S)) | (refine wpList_bs S ?_; (clear S; intro nb wb hnb S)) | (refine wpList_stA S ?_; (clear S; intro ws S; simp only [splice, List.take_zero, List.take_succ_cons, List.drop_succ_cons, List.drop_zero, List.drop_nil, List.length_cons, List.length_nil, Nat.reduceAdd, Nat.zero_add, List.nil_append, List.cons_append, List.append_nil] at S)) | (refine wpList_b2sB S ?_) | (refine wpList_b2sR S ?_) | (refine wpList_ldc S ?_))
        go_meet
        exact ⟨by simp [c1.out], S⟩
    case rest =>
      obtain ⟨rfl, S⟩ := hcut
      go_upto_if 42 with (first | go_big_skip | (refine wpList_ld S ?_) | (refine wpList_ld8 S ?_) | (refine wpList_ld0 ?_) | (refine wpList_ldA S ?_) | (refine wpList_st8 S ?_; (clear S; intro ws S)) | (refine wpList_st S ?_; (clear S; intro ws S)) | (refine wpList_box S ?_; (clear S; intro nb wb hnb S)) | (refine wpList_alloc S ?_; (clear S; intro nb wb hnb S)) | (refine wpList_mk8 S ?_; (clear S; intro nb wb hnb S)) | (refine wpList_mk S ?_; (clear S; intro nb wb hnb S)) | (refine wpList_bs S ?_; (clear S; intro nb wb hnb S)) | (refine wpList_stA S ?_; (clear S; intro ws S; simp only [splice, List.take_zero, List.take_succ_cons, List.drop_succ_cons, List.drop_zero, List.drop_nil, List.length_cons, List.length_nil, Nat.reduceAdd, Nat.zero_add, List.nil_append, List.cons_append, List.append_nil] at S)) | (refine wpList_b2sB S ?_) | (refine wpList_b2sR S ?_) | (refine wpList_ldc S ?_))
      go_cut [] (fun w' => St w [q, m, hb] w' [qHead q m hb x.full arr sl (x.newCap need : Nat) x.max x.head x.tail x.count x.right, qBlk m arr sl, .blk hb (.cells (u8s h).toArray 5 (0, 0))])
      case first =>
        by_cases c1 : x.max < c * 2 ∧ 0 < x.max
        · rw [decide_eq_true c1]
          go_wp2_with (first | go_big_skip | ((with_reducible show Code.wp _ (Code.region _ _ true) _ _ _); refine St.regionLast S ?_; (repeat (first | (go_big_quiet_step (fail)) | (go_big_quiet_want; (first | refine quiet_ld S ?_ | refine quiet_ld8 S ?_ | refine quiet_ld0 ?_ | refine quiet_ldA S ?_ | refine quiet_b2sB S ?_ | refine quiet_b2sR S ?_ | refine quiet_ldc S ?_); go_big_quiet_on))); refine wpQuiet_nil ?_; clear S; intro wq S) | go_big_skip | (refine wpList_ld S ?_) | (refine wpList_ld8 S ?_) | (refine wpList_ld0 ?_) | (refine wpList_ldA S ?_) | (refine wpList_st8 S ?_; (clear S; intro ws S)) | (refine wpList_st S ?_; (clear S; intro ws S)) | (refine wpList_box S ?_; (clear S; intro nb wb hnb S)) | (refine wpList_alloc S ?_; (clear S; intro nb wb hnb S)) | (refine wpList_mk8 S ?_; (clear S; intro nb wb hnb S)) | (refine wpList_mk S ?_; (clear S; intro nb wb hnb S)) | (refine wpList_bs S ?_; (clear S; intro nb wb hnb S)) | (refine wpList_stA S ?_; (clear S; intro ws S; simp only [splice, List.take_zero, List.take_succ_cons, List.drop_succ_cons, List.drop_zero, List.drop_nil, List.length_cons, List.length_nil, Nat.reduceAdd, Nat.zero_add, List.nil_append, List.cons_append, List.append_nil] at S)) | (refine wpList_b2sB S ?_) | (refine wpList_b2sR S ?_) | (refine wpList_ldc S ?_))
          go_meet
          have e := hn.out
          rw [← hc.out, if_pos c1] at e
          rw [e]; exact S
        · rw [decide_eq_false c1]
          go_wp2_with (first | go_big_skip | ((with_reducible show Code.wp _ (Code.region _ _ true) _ _ _); refine St.regionLast S ?_; (repeat (first | (go_big_quiet_step (fail)) | (go_big_quiet_want; (first | refine quiet_ld S ?_ | refine quiet_ld8 S ?_ | refine quiet_ld0 ?_ | refine quiet_ldA S ?_ | refine quiet_b2sB S ?_ | refine quiet_b2sR S ?_ | refine quiet_ldc S ?_); go_big_quiet_on))); refine wpQuiet_nil ?_; clear S; intro wq S) | go_big_skip | (refine wpList_ld S ?_) | (refine wpList_ld8 S ?_) | (refine wpList_ld0 ?_) | (refine wpList_ldA S ?_) | (refine wpList_st8 S ?_; (clear S; intro ws S)) | (refine wpList_st S ?_; (clear S; intro ws S)) | (refine wpList_box S ?_; (clear S; intro nb wb hnb S)) | (refine wpList_alloc S ?_; (clear S; intro nb wb hnb S)) | (refine wpList_mk8 S ?_; (clear S; intro nb wb hnb S)) | (refine wpList_mk S ?_; (clear S; intro nb wb hnb S)) | (refine wpList_bs S ?_; (clear S; intro nb wb hnb S)) | (refine wpList_stA S ?_; (clear S; intro ws S; simp only [splice, List.take_zero, List.take_succ_cons, List.drop_succ_cons, List.drop_zero, List.drop_nil, List.length_cons, List.length_nil, Nat.reduceAdd, Nat.zero_add, List.nil_append, List.cons_append, List.append_nil] at S)) | (refine wpList_b2sB S ?_) | (refine wpList_b2sR S ?_) | (refine wpList_ldc S ?_))
          go_meet
          have e := hn.out
          rw [← hc.out, if_neg c1] at e
          rw [e]; exact S
      case rest =>
        have S := hcut
        clear hcut hn hc hc2
        have hl8 := hr.len
        by_cases c1 : x.right = 1
        · have hbb : ((1 : Int) != (x.right : Int)) = false := by simp [c1]
          have c1 := hidden c1
          go_wp2_with (first | go_big_skip | ((with_reducible show Code.wp _ (Code.region _ _ true) _ _ _); refine St.regionLast S ?_; (repeat (first | (go_big_quiet_step (fail)) | (go_big_quiet_want; (first | refine quiet_ld S ?_ | refine quiet_ld8 S ?_ | refine quiet_ld0 ?_ | refine quiet_ldA S ?_ | refine quiet_b2sB S ?_ | refine quiet_b2sR S ?_ | refine quiet_ldc S ?_); go_big_quiet_on))); refine wpQuiet_nil ?_; clear S; intro wq S) | go_big_skip | (refine wpList_ld S ?_) | (refine wpList_ld8 S ?_) | (refine wpList_ld0 ?_) | (refine wpList_ldA S ?_) | (refine wpList_st8 S ?_; (clear S; intro ws S)) | (refine wpList_st S ?_; (clear S; intro ws S)) | (refine wpList_box S ?_; (clear S; intro nb wb hnb S)) | (refine wpList_alloc S ?_; (clear S; intro nb wb hnb S)) | (refine wpList_mk8 S ?_; (clear S; intro nb wb hnb S)) | (refine wpList_mk S ?_; (clear S; intro nb wb hnb S)) | (refine wpList_bs S ?_; (clear S; intro nb wb hnb S)) | (refine wpList_stA S ?_; (clear S; intro ws S; simp only [splice, List.take_zero, List.take_succ_cons, List.drop_succ_cons, List.drop_zero, List.drop_nil, List.length_cons, List.length_nil, Nat.reduceAdd, Nat.zero_add, List.nil_append, List.cons_append, List.append_nil] at S)) | (refine wpList_b2sB S ?_) | (refine wpList_b2sR S ?_) | (refine wpList_ldc S ?_))
          go_end0
          refine hR.out _ _ ?_
          obtain ⟨g1, g2, g3, g4, g5, g6⟩ := Qu.grow_none hr c1.out need (List.replicate (x.newCap need) 0) (by simp)
          refine ⟨rfl, nb, _, h, hh, g1, ?_⟩
          rw [qMem_new (L := x.newCap need) q nb hb g6 rfl rfl g3 g2 g5 g4 (by simp)]
          exact S.sel (by repeat (first | exact Sel.nil | (apply Sel.cons; (repeat (first | exact Pull.head | apply Pull.tail)))))
        · have hbb : ((1 : Int) != (x.right : Int)) = true := by simp; omega
          have ho := hr.old_of_right c1
          have hrr := hr.right_le ho
          have c1 := hidden c1
          go_upto_region 8 with (first | ((with_reducible show Code.wp _ (Code.region _ _ true) _ _ _); refine St.regionLast S ?_; (repeat (first | (go_big_quiet_step (fail)) | (go_big_quiet_want; (first | refine quiet_ld S ?_ | refine quiet_ld8 S ?_ | refine quiet_ld0 ?_ | refine quiet_ldA S ?_ | refine quiet_b2sB S ?_ | refine quiet_b2sR S ?_ | refine quiet_ldc S ?_); go_big_quiet_on))); refine wpQuiet_nil ?_; clear S; intro wq S) | go_big_skip | (refine wpList_ld S ?_) | (refine wpList_ld8 S ?_) | (refine wpList_ld0 ?_) | (refine wpList_ldA S ?_) | (refine wpList_st8 S ?_; (clear S; intro ws S)) | (refine wpList_st S ?_; (clear S; intro ws S)) | (refine wpList_box S ?_; (clear S; intro nb wb hnb S)) | (refine wpList_alloc S ?_; (clear S; intro nb wb hnb S)) | (refine wpList_mk8 S ?_; (clear S; intro nb wb hnb S)) | (refine wpList_mk S ?_; (clear S; intro nb wb hnb S)) | (refine wpList_bs S ?_; (clear S; intro nb wb hnb S)) | (refine wpList_stA S ?_; (clear S; intro ws S; simp only [splice, List.take_zero, List.take_succ_cons, List.drop_succ_cons, List.drop_zero, List.drop_nil, List.length_cons, List.length_nil, Nat.reduceAdd, Nat.zero_add, List.nil_append, List.cons_append, List.append_nil] at S)) | (refine wpList_b2sB S ?_) | (refine wpList_b2sR S ?_) | (refine wpList_ldc S ?_))
          refine St.regionC S [.blk q _] 11 [([0, 1, 2, 3, 4, 5, 6, 7, 8, 9], 10)] [] ?_
          clear S; intro wr Cr S Sc; simp only [walkC, pick, List.getElem?_cons_succ, List.getElem?_cons_zero, List.drop_succ_cons, List.drop_zero]
          (repeat (first | (go_big_quiet_want; (first | refine quiet_slcH x.right ?_); go_big_quiet_on) | (first | (go_big_quiet_step (fail)) | (go_big_quiet_want; (first | refine quiet_ld Sc ?_ | refine quiet_ld8 Sc ?_ | refine quiet_ld0 ?_ | refine quiet_ldA Sc ?_ | refine quiet_b2sB Sc ?_ | refine quiet_b2sR Sc ?_ | refine quiet_ldc Sc ?_); go_big_quiet_on))))
          refine wpQuiet_nil ?_
          have hsrc : Src wr 1 (.slice (some ⟨m, 0, none⟩) x.right (arr.length + sl.length)) x.right (u8s (arr.take x.right)) := by
            have := S.src8 (b := m) (o := 0) (m := x.right) (c := arr.length + sl.length) (l := arr ++ sl) (by repeat (first | exact Pull.head | apply Pull.tail)) (by simp; omega)
            rwa [List.drop_zero, List.take_append_of_le_length (by omega)] at this
          refine wpList_copyI S hsrc ?_
          clear S; intro ws S
          refine ⟨(S.sel (by repeat (first | exact Sel.nil | (apply Sel.cons; (repeat (first | exact Pull.head | apply Pull.tail)))))).inSt _, ?_⟩; (repeat (first | (go_big_quiet_step (fail)) | (go_big_quiet_want; (first | refine quiet_ld Sc ?_ | refine quiet_ld8 Sc ?_ | refine quiet_ld0 ?_ | refine quiet_ldA Sc ?_ | refine quiet_b2sB Sc ?_ | refine quiet_b2sR Sc ?_ | refine quiet_ldc Sc ?_); go_big_quiet_on))); refine wpQuiet_nil ?_
          have e1 : splice (List.replicate (x.newCap need) 0) 0 (arr.take x.right) = arr.take x.right ++ Qu.zeros (x.newCap need - x.right) := by
            unfold splice Qu.zeros
            simp; omega
          rw [e1] at S
          clear e1
          have hlen : (arr.take x.right ++ Qu.zeros (x.newCap need - x.right)).length = x.newCap need := by
            rw [List.length_append, List.length_take, hl8, Qu.zeros_length]; omega
          by_cases c2 : x.young = []
          · have hlt := hr.head_tail c2 ho
            have c2 := hidden c2
            go_wp2_with (first | go_big_skip | ((with_reducible show Code.wp _ (Code.region _ _ true) _ _ _); refine St.regionLast S ?_; (repeat (first | (go_big_quiet_step (fail)) | (go_big_quiet_want; (first | refine quiet_ld S ?_ | refine quiet_ld8 S ?_ | refine quiet_ld0 ?_ | refine quiet_ldA S ?_ | refine quiet_b2sB S ?_ | refine quiet_b2sR S ?_ | refine quiet_ldc S ?_); go_big_quiet_on))); refine wpQuiet_nil ?_; clear S; intro wq S) | go_big_skip | (refine wpList_ld S ?_) | (refine wpList_ld8 S ?_) | (refine wpList_ld0 ?_) | (refine wpList_ldA S ?_) | (refine wpList_st8 S ?_; (clear S; intro ws S)) | (refine wpList_st S ?_; (clear S; intro ws S)) | (refine wpList_box S ?_; (clear S; intro nb wb hnb S)) | (refine wpList_alloc S ?_; (clear S; intro nb wb hnb S)) | (refine wpList_mk8 S ?_; (clear S; intro nb wb hnb S)) | (refine wpList_mk S ?_; (clear S; intro nb wb hnb S)) | (refine wpList_bs S ?_; (clear S; intro nb wb hnb S)) | (refine wpList_stA S ?_; (clear S; intro ws S; simp only [splice, List.take_zero, List.take_succ_cons, List.drop_succ_cons, List.drop_zero, List.drop_nil, List.length_cons, List.length_nil, Nat.reduceAdd, Nat.zero_add, List.nil_append, List.cons_append, List.append_nil] at S)) | (refine wpList_b2sB S ?_) | (refine wpList_b2sR S ?_) | (refine wpList_ldc S ?_))
            go_end0
            refine hR.out _ _ ?_
            obtain ⟨g1, g2, g3, g4, g5, g6⟩ := Qu.grow_plain hr c2.out ho need (by omega)
            refine ⟨rfl, nb, _, h, hh, g1, ?_⟩
            rw [qMem_new q nb hb g6 rfl rfl g3 g2 g5 g4 hlen]
            exact S.sel (by repeat (first | exact Sel.nil | (apply Sel.cons; (repeat (first | exact Pull.head | apply Pull.tail)))))
          · have hty := hr.tail_young c2
            by_cases c3 : x.tail = x.head
            · have hbb2 : ((x.tail : Int) != (x.head : Int)) = false := by simp [c3]
              replace c3 := hidden c3
              go_wp2_with (first | go_big_skip | ((with_reducible show Code.wp _ (Code.region _ _ true) _ _ _); refine St.regionLast S ?_; (repeat (first | (go_big_quiet_step (fail)) | (go_big_quiet_want; (first | refine quiet_ld S ?_ | refine quiet_ld8 S ?_ | refine quiet_ld0 ?_ | refine quiet_ldA S ?_ | refine quiet_b2sB S ?_ | refine quiet_b2sR S ?_ | refine quiet_ldc S ?_); go_big_quiet_on))); refine wpQuiet_nil ?_; clear S; intro wq S) | go_big_skip | (refine wpList_ld S ?_) | (refine wpList_ld8 S ?_) | (refine wpList_ld0 ?_) | (refine wpList_ldA S ?_) | (refine wpList_st8 S ?_; (clear S; intro ws S)) | (refine wpList_st S ?_; (clear S; intro ws S)) | (refine wpList_box S ?_; (clear S; intro nb wb hnb S)) | (refine wpList_alloc S ?_; (clear S; intro nb wb hnb S)) | (refine wpList_mk8 S ?_; (clear S; intro nb wb hnb S)) | (refine wpList_mk S ?_; (clear S; intro nb wb hnb S)) | (refine wpList_bs S ?_; (clear S; intro nb wb hnb S)) | (refine wpList_stA S ?_; (clear S; intro ws S; simp only [splice, List.take_zero, List.take_succ_cons, List.drop_succ_cons, List.drop_zero, List.drop_nil, List.length_cons, List.length_nil, Nat.reduceAdd, Nat.zero_add, List.nil_append, List.cons_append, List.append_nil] at S)) | (refine wpList_b2sB S ?_) | (refine wpList_b2sR S ?_) | (refine wpList_ldc S ?_))
              go_end0
              refine hR.out _ _ ?_
              obtain ⟨g1, g2, g3, g4, g5, g6⟩ := Qu.grow_tight hr c2 c3.out need (by omega)
              refine ⟨rfl, nb, _, h, hh, g1, ?_⟩
              rw [qMem_new q nb hb g6 rfl rfl g3 g2 g5 g4 hlen]
              exact S.sel (by repeat (first | exact Sel.nil | (apply Sel.cons; (repeat (first | exact Pull.head | apply Pull.tail)))))
            · have hbb2 : ((x.tail : Int) != (x.head : Int)) = true := by simp; omega
              replace c3 := hidden c3
              obtain ⟨g1, g2, g3, g4, g5, g6⟩ := Qu.grow_gap hr c2 c3.out need (by omega) (by omega)
              replace g2 := hidden g2; replace g3 := hidden g3; replace g4 := hidden g4; replace g5 := hidden g5; replace g6 := hidden g6
              generalize arr.take x.right ++ Qu.zeros (x.newCap need - x.right) = arr1 at *
              have hne := uvl_le (x.head - x.tail) (by have := c3.out; omega)
              have hfit : x.tail + (x.head - x.tail) ≤ arr1.length := by omega
              replace hlen := hidden hlen
              have hgp := hidden (show ((x.head - x.tail : Nat) : Int) = (x.head : Int) - (x.tail : Int) by omega)
              have hcnt : (x.count : Int) ≤ 4294967296 := by
                have l1 := length_le_sz hr.okO
                have l2 := length_le_sz hr.okY
                have l3 := (hr.young c2).2
                unfold Qu.right at hrr
                unfold Qu.count; omega
              go_upto_region 11 with (first | ((with_reducible show Code.wp _ (Code.region _ _ true) _ _ _); refine St.regionLast S ?_; (repeat (first | (go_big_quiet_step (fail)) | (go_big_quiet_want; (first | refine quiet_ld S ?_ | refine quiet_ld8 S ?_ | refine quiet_ld0 ?_ | refine quiet_ldA S ?_ | refine quiet_b2sB S ?_ | refine quiet_b2sR S ?_ | refine quiet_ldc S ?_); go_big_quiet_on))); refine wpQuiet_nil ?_; clear S; intro wq S) | go_big_skip | (refine wpList_ld S ?_) | (refine wpList_ld8 S ?_) | (refine wpList_ld0 ?_) | (refine wpList_ldA S ?_) | (refine wpList_st8 S ?_; (clear S; intro ws S)) | (refine wpList_st S ?_; (clear S; intro ws S)) | (refine wpList_box S ?_; (clear S; intro nb wb hnb S)) | (refine wpList_alloc S ?_; (clear S; intro nb wb hnb S)) | (refine wpList_mk8 S ?_; (clear S; intro nb wb hnb S)) | (refine wpList_mk S ?_; (clear S; intro nb wb hnb S)) | (refine wpList_bs S ?_; (clear S; intro nb wb hnb S)) | (refine wpList_stA S ?_; (clear S; intro ws S; simp only [splice, List.take_zero, List.take_succ_cons, List.drop_succ_cons, List.drop_zero, List.drop_nil, List.length_cons, List.length_nil, Nat.reduceAdd, Nat.zero_add, List.nil_append, List.cons_append, List.append_nil] at S)) | (refine wpList_b2sB S ?_) | (refine wpList_b2sR S ?_) | (refine wpList_ldc S ?_))
              refine St.regionC S [.blk q _] 20 [([0, 1, 2, 3, 4, 5, 6, 7, 8, 9, 11, 12, 13, 14, 15, 16, 17, 18, 19], 10)] [] ?_
              clear S; intro wr Cr S Sc; simp only [walkC, pick, List.getElem?_cons_succ, List.getElem?_cons_zero, List.drop_succ_cons, List.drop_zero]; (repeat (first | (go_big_quiet_step (fail)) | (go_big_quiet_want; (first | refine quiet_ld Sc ?_ | refine quiet_ld8 Sc ?_ | refine quiet_ld0 ?_ | refine quiet_ldA Sc ?_ | refine quiet_b2sB Sc ?_ | refine quiet_b2sR Sc ?_ | refine quiet_ldc Sc ?_); go_big_quiet_on))); refine wpQuiet_nil ?_
              refine wpList_mk8 (ln := x.head - x.tail) (cn := x.head - x.tail) S ?_ (hln := by omega) (hcn := by omega)
              clear S; intro nb2 wb2 hnb2 S
              refine ⟨(S.sel (by repeat (first | exact Sel.nil | (apply Sel.cons; (repeat (first | exact Pull.head | apply Pull.tail)))))).inSt _, ?_⟩; (repeat (first | (go_big_quiet_step (fail)) | (go_big_quiet_want; (first | refine quiet_ld Sc ?_ | refine quiet_ld8 Sc ?_ | refine quiet_ld0 ?_ | refine quiet_ldA Sc ?_ | refine quiet_b2sB Sc ?_ | refine quiet_b2sR Sc ?_ | refine quiet_ldc Sc ?_); go_big_quiet_on))); refine wpQuiet_nil ?_
              go_wp2_with fail
              rw [← hgp.out]
              have hM2 : Mem wb2 [qHead q nb hb x.full arr1 [] (x.newCap need) x.max x.head x.tail x.count x.right, qBlk nb arr1 [], .blk hb (.cells (u8s h).toArray 5 (0, 0))] := by
                simp only [qHead, qBlk, qArr, List.append_nil, List.length_nil, Nat.add_zero, hlen.out]
                exact S.sel3
              have hs2 : Src wb2 1 (.slice (some ⟨nb2, 0, none⟩) (x.head - x.tail) (x.head - x.tail)) (x.head - x.tail) (u8s (List.replicate (x.head - x.tail) 0)) :=
                S.src8w (by repeat (first | exact Pull.head | apply Pull.tail)) (by simp)
              have ho2 : Off (some ⟨nb2, 0, none⟩) [q, nb, hb] (u8s (List.replicate (x.head - x.tail) 0)) :=
                S.offB (r := .blk nb2 (.cells (u8s (List.replicate (x.head - x.tail) 0)).toArray 5 (0, 0))) Pull.head rfl (by repeat (first | exact PullsF.nil | (apply PullsF.cons; (repeat (first | exact PullF.head rfl | apply PullF.tail)))))
              refine Calls.mono (quPut q nb hb x.full arr1 [] h (x.newCap need) x.max x.count x.right x.head x.tail (x.head - x.tail) (x.head - x.tail) (x.head - x.tail) (some ⟨nb2, 0, none⟩) (List.replicate (x.head - x.tail) 0) _ hM2 hs2 ho2 (Nat.le_refl _) hh hne (by omega) (by omega) hfit (by have := hlen.out; omega) (by omega)) ?_
              rintro e w3 ⟨rfl, h', hh', C⟩
              rw [if_neg (by omega : ¬ x.head < x.tail + (x.head - x.tail))] at C
              have S2 := S.call C; clear S C; simp only [List.cons_append, List.nil_append] at S2; have S := S2; clear S2
              have hl2 : (splice arr1 x.tail (uv (x.head - x.tail) ++ List.take (x.head - x.tail - uvl (x.head - x.tail)) (List.replicate (x.head - x.tail) 0))).length = x.newCap need := by
                have hul : (uv (x.head - x.tail)).length = uvl (x.head - x.tail) := rfl
                rw [splice_length _ _ _ (by rw [List.length_append, hul, List.length_take, List.length_replicate]; omega)]; exact hlen.out
              generalize hA2 : splice arr1 x.tail (uv (x.head - x.tail) ++ List.take (x.head - x.tail - uvl (x.head - x.tail)) (List.replicate (x.head - x.tail) 0)) = arr2 at S hl2
              replace hl2 := hidden hl2
              replace hA2 := hidden hA2
              go_wp2_with (first | go_big_skip | ((with_reducible show Code.wp _ (Code.region _ _ true) _ _ _); refine St.regionLast S ?_; (repeat (first | (go_big_quiet_step (fail)) | (go_big_quiet_want; (first | refine quiet_ld S ?_ | refine quiet_ld8 S ?_ | refine quiet_ld0 ?_ | refine quiet_ldA S ?_ | refine quiet_b2sB S ?_ | refine quiet_b2sR S ?_ | refine quiet_ldc S ?_); go_big_quiet_on))); refine wpQuiet_nil ?_; clear S; intro wq S) | go_big_skip | (refine wpList_ld S ?_) | (refine wpList_ld8 S ?_) | (refine wpList_ld0 ?_) | (refine wpList_ldA S ?_) | (refine wpList_st8 S ?_; (clear S; intro ws S)) | (refine wpList_st S ?_; (clear S; intro ws S)) | (refine wpList_box S ?_; (clear S; intro nb wb hnb S)) | (refine wpList_alloc S ?_; (clear S; intro nb wb hnb S)) | (refine wpList_mk8 S ?_; (clear S; intro nb wb hnb S)) | (refine wpList_mk S ?_; (clear S; intro nb wb hnb S)) | (refine wpList_bs S ?_; (clear S; intro nb wb hnb S)) | (refine wpList_stA S ?_; (clear S; intro ws S; simp only [splice, List.take_zero, List.take_succ_cons, List.drop_succ_cons, List.drop_zero, List.drop_nil, List.length_cons, List.length_nil, Nat.reduceAdd, Nat.zero_add, List.nil_append, List.cons_append, List.append_nil] at S)) | (refine wpList_b2sB S ?_) | (refine wpList_b2sR S ?_) | (refine wpList_ldc S ?_))
              go_end0
              refine hR.out _ _ ?_
              refine ⟨rfl, nb, arr2, h', hh', hA2.out ▸ g1, ?_⟩
              rw [qMem_new q nb hb g6.out rfl rfl g3.out g2.out g5.out g4.out hl2.out]
              simp only [qArr, qBlk, List.append_nil, List.length_nil, Nat.add_zero, hl2.out] at S
              exact S.sel (by repeat (first | exact Sel.nil | (apply Sel.cons; (repeat (first | exact Pull.head | apply Pull.tail)))))
end Go.Proofs.Ytkfkcinkkgdebaa
