/- What is pushed to a queue; a new queue; a queue of its parts. -/
import Derived.Test.YtkfkcinkkgdebaaQd
import Derived.Test.YtkfkcinkkgdebaaQe
namespace Go.Proofs.Ytkfkcinkkgdebaa
open Go Go.RowKit Go.Vil
set_option linter.unusedSimpArgs false
set_option linter.unusedVariables false
set_option maxRecDepth 100000

/-- How a push ends. -/
def PushEnd (q m hb : Nat) (x : Qu) (arr sl h : List UInt8) (w : World) (p : Qu × Option Nat) (e : Ending) (w' : World) : Prop :=
  match p with
  | (x', some i) => e = .returned (.tuple #[.int .i64 i, .nilIface]) ∧ ∃ (m' : Nat) (arr' sl' h' : List UInt8), h'.length = 5 ∧ x'.Rep arr' ∧ St w [q, m, hb] w' (qMem q m' hb x' arr' sl' h')
  | (x', none) => ∃ v, e = .returned (.tuple #[.int .i64 (-1), v]) ∧ QErr v ∧ St w [q, m, hb] w' (qMem q m hb x arr sl h)

theorem qMem_put (q m hb : Nat) {x x' : Qu} {arr' sl h : List UInt8} {t k : Nat} (g2 : x'.tail = t + k) (g3 : x'.head = x.head) (g4 : x'.count = x.count + 1) (g5 : x'.cap = x.cap)
    (g6 : x'.right = if x.head < t + k then t + k else x.right) {f : Bool} (g7 : x'.full = if t + k = x.head then true else f) (g8 : x'.max = x.max) :
    qMem q m hb x' arr' sl h = [qHead q m hb (if t + k = x.head then true else f) arr' sl x.cap x.max x.head (t + k : Nat) (x.count + 1) (if x.head < t + k then ((t + k : Nat) : Int) else x.right), qBlk m arr' sl, .blk hb (.cells (u8s h).toArray 5 (0, 0))] := by
  simp only [qMem, qHead, g2, g3, g4, g5, g6, g7, g8]
  have e : ((if x.head < t + k then t + k else x.right : Nat) : Int) = if x.head < t + k then ((t + k : Nat) : Int) else x.right := by split <;> rfl
  have e2 : ((x.count + 1 : Nat) : Int) = x.count + 1 := by omega
  rw [e, e2]
theorem quAfterQ (q m hb : Nat) (x : Qu) (arr sl : List UInt8) (need : Nat) (w : World)
    (hM : Mem w [qHead q m hb x.full arr sl x.cap x.max x.head x.tail x.count x.right]) (h1 : x.cap ≤ 4294967296) (h2 : x.head ≤ 4294967296) (h3 : x.tail ≤ 4294967296) (h4 : need ≤ 4294967296) :
    Calls Try.prog 79 #[.pointer (some ⟨q, 0, none⟩), .int .i64 need] w fun e w' => e = .returned (.bool (x.after need)) ∧ St w [q] w' [qHead q m hb x.full arr sl x.cap x.max x.head x.tail x.count x.right] :=
  quAfter q m hb x.full arr sl x.cap x.max x.head x.tail x.count x.right need w hM h1 h2 h3 h4
theorem quBeforeQ (q m hb : Nat) (x : Qu) (arr sl : List UInt8) (need : Nat) (w : World)
    (hM : Mem w [qHead q m hb x.full arr sl x.cap x.max x.head x.tail x.count x.right]) (h1 : x.cap ≤ 4294967296) (h2 : x.head ≤ 4294967296) (h3 : x.tail ≤ 4294967296) (h4 : need ≤ 4294967296) :
    Calls Try.prog 80 #[.pointer (some ⟨q, 0, none⟩), .int .i64 need] w fun e w' => e = .returned (.bool (x.before need)) ∧ St w [q] w' [qHead q m hb x.full arr sl x.cap x.max x.head x.tail x.count x.right] :=
  quBefore q m hb x.full arr sl x.cap x.max x.head x.tail x.count x.right need w hM h1 h2 h3 h4

set_option maxHeartbeats 3200000 in
theorem quPush (q m hb : Nat) (x : Qu) (arr sl h : List UInt8) (n c : Nat) (oa : Option Addr) (xs : List UInt8) (w : World)
    (hM : Mem w (qMem q m hb x arr sl h)) (hh : h.length = 5) (hr : x.Rep arr) (hs : Src w 1 (.slice oa n c) n (u8s xs)) (hd : Off oa [q, m, hb] (u8s xs)) (hc : n ≤ c) (hn : n < 16382)
    (h1 : x.cap ≤ 1073741824) (h3 : x.max ≤ 1073741824) (h5 : x.newCap (needs n) ≤ 1073741824) :
    Calls Try.prog 55 #[.pointer (some ⟨q, 0, none⟩), .slice oa n c] w (PushEnd q m hb x arr sl h w (x.push xs)) := by
  have S : St w [q, m, hb] w _ := St.start hM
  clear hM
  have hxl := hs.len8
  have hnn := hsz_le n
  have hnd := hidden (show needs n = n + hsz n from rfl)
  have hul := uvl_needs (l := n) (by omega)
  have hle := hr.len
  have hcnt : (x.count : Int) ≤ 4294967296 ∧ x.right ≤ 1073741825 ∧ x.head ≤ 1073741825 := by
    by_cases ho : x.old = []
    · obtain ⟨k1, k2⟩ := hr.none ho
      unfold Qu.count Qu.right; rw [k1, k2, ho]; simp
    · have hrr := hr.right_le ho
      have l1 := length_le_sz hr.okO
      have l2 := length_le_sz hr.okY
      by_cases hy : x.young = []
      · unfold Qu.count; rw [hy]; unfold Qu.right at hrr ⊢; simp; omega
      · have := (hr.young hy).2
        unfold Qu.count; unfold Qu.right at hrr ⊢; omega
  obtain ⟨hcnt, hrb, hhb⟩ := hcnt
  have htb := hr.tail_le
  have hentry : (entry xs).ok := entry_ok (by omega)
  have hen : (entry xs).n = needs n := by show needs xs.length = _; rw [hxl]
  have hby : (entry xs).bytes = uv (needs n) ++ xs.take (needs n - uvl (needs n)) := by
    show uv (needs xs.length) ++ xs = _
    rw [hxl, List.take_of_length_le]; rw [hul, hnd.out]; omega
  have hpush := hidden (show x.push xs = if x.after (needs xs.length) then (x.put (entry xs), some x.tail) else if x.before (needs xs.length) then (x.wrap (entry xs), some 1) else if x.cap + needs xs.length ≥ x.max ∧ x.max > 0 then (x, none)
    else ((x.grow (needs xs.length)).put (entry xs), some (x.grow (needs xs.length)).tail) from rfl)
  rw [hxl] at hpush
  have hneed1 : 1 ≤ needs n ∧ needs n ≤ 16387 := by have := hnd.out; omega
  have hsize := hidden (fun w => neededSize n n w rfl hn)
  generalize needs n = k at *
  have hk1 : uvl k ≤ k := uvl_le k (by omega)
  have hk2 : k - uvl k ≤ n := by have := hnd.out; omega
  replace hul := hidden hul; replace hle := hidden hle; replace hen := hidden hen; replace hby := hidden hby
  refine Calls.cps ?_; intro R hR
  go_enter Try.func55, Try.ntmps55
  go_wp2_with (first | go_big_skip | ((with_reducible show Code.wp _ (Code.region _ _ true) _ _ _); refine St.regionLast S ?_; (repeat (first | (go_big_quiet_step (fail)) | (go_big_quiet_want; (first | refine quiet_ld S ?_ | refine quiet_ld8 S ?_ | refine quiet_ld0 ?_ | refine quiet_ldA S ?_ | refine quiet_b2sB S ?_ | refine quiet_b2sR S ?_ | refine quiet_ldc S ?_); go_big_quiet_on))); refine wpQuiet_nil ?_; clear S; intro wq S) | go_big_skip | (refine wpList_ld S ?_) | (refine wpList_ld8 S ?_) | (refine wpList_ld0 ?_) | (refine wpList_ldA S ?_) | (refine wpList_st8 S ?_; (clear S; intro ws S)) | (refine wpList_st S ?_; (clear S; intro ws S)) | (refine wpList_box S ?_; (clear S; intro nb wb hnb S)) | (refine wpList_alloc S ?_; (clear S; intro nb wb hnb S)) | (refine wpList_mk8 S ?_; (clear S; intro nb wb hnb S)) | (refine wpList_mk S ?_; (clear S; intro nb wb hnb S)) | (refine wpList_bs S ?_; (clear S; intro nb wb hnb S)) | (refine wpList_stA S ?_; (clear S; intro ws S; simp only [splice, List.take_zero, List.take_succ_cons, List.drop_succ_cons, List.drop_zero, List.drop_nil, List.length_cons, List.length_nil, Nat.reduceAdd, Nat.zero_add, List.nil_append, List.cons_append, List.append_nil] at S)) | (refine wpList_b2sB S ?_) | (refine wpList_b2sR S ?_) | (refine wpList_ldc S ?_))
  refine Calls.mono (hsize.out _) ?_
  rintro e w2 ⟨rfl, C⟩
  have S2 := S.call C; clear S C; simp only [List.cons_append, List.nil_append] at S2; have S := S2; clear S2
  go_wp2_with (first | go_big_skip | ((with_reducible show Code.wp _ (Code.region _ _ true) _ _ _); refine St.regionLast S ?_; (repeat (first | (go_big_quiet_step (fail)) | (go_big_quiet_want; (first | refine quiet_ld S ?_ | refine quiet_ld8 S ?_ | refine quiet_ld0 ?_ | refine quiet_ldA S ?_ | refine quiet_b2sB S ?_ | refine quiet_b2sR S ?_ | refine quiet_ldc S ?_); go_big_quiet_on))); refine wpQuiet_nil ?_; clear S; intro wq S) | go_big_skip | (refine wpList_ld S ?_) | (refine wpList_ld8 S ?_) | (refine wpList_ld0 ?_) | (refine wpList_ldA S ?_) | (refine wpList_st8 S ?_; (clear S; intro ws S)) | (refine wpList_st S ?_; (clear S; intro ws S)) | (refine wpList_box S ?_; (clear S; intro nb wb hnb S)) | (refine wpList_alloc S ?_; (clear S; intro nb wb hnb S)) | (refine wpList_mk8 S ?_; (clear S; intro nb wb hnb S)) | (refine wpList_mk S ?_; (clear S; intro nb wb hnb S)) | (refine wpList_bs S ?_; (clear S; intro nb wb hnb S)) | (refine wpList_stA S ?_; (clear S; intro ws S; simp only [splice, List.take_zero, List.take_succ_cons, List.drop_succ_cons, List.drop_zero, List.drop_nil, List.length_cons, List.length_nil, Nat.reduceAdd, Nat.zero_add, List.nil_append, List.cons_append, List.append_nil] at S)) | (refine wpList_b2sB S ?_) | (refine wpList_b2sR S ?_) | (refine wpList_ldc S ?_))
  refine Calls.mono (quAfterQ q m hb x arr sl k _ S.sel1 (by omega) (by omega) (by omega) (by omega)) ?_
  rintro e w3 ⟨rfl, C⟩
  have S2 := S.call C; clear S C; simp only [List.cons_append, List.nil_append] at S2; have S := S2; clear S2
  by_cases a1 : x.after k = true
  · have hfit := Qu.after_fit hr (by omega) a1
    have hfit2 : x.tail + k ≤ arr.length := by
      have := hle.out
      by_cases hy : x.young = []
      · rw [if_pos hy] at hfit; omega
      · rw [if_neg hy] at hfit
        have := (hr.right_le (hr.old_of_young hy)).1
        have := hr.tail_young hy
        omega
    obtain ⟨g1, g2, g3, g4, g5, g6, g7, g8⟩ := Qu.put_rep hr hentry (by rw [hen.out]; exact hfit)
    rw [hen.out] at g2 g6 g7
    rw [hby.out] at g1
    replace g1 := hidden g1
    have hq := fun h => qMem_put (sl := sl) (h := h) q m hb (t := x.tail) (k := k) (arr' := splice arr x.tail (uv k ++ xs.take (k - uvl k))) g2 g3 g4 g5 g6 g7 g8
    replace hq := hidden hq
    clear g2 g3 g4 g5 g6 g7 g8 hfit
    rw [a1]
    have hp := hidden (hpush.out.trans (if_pos a1))
    go_wp2_with (first | go_big_skip | ((with_reducible show Code.wp _ (Code.region _ _ true) _ _ _); refine St.regionLast S ?_; (repeat (first | (go_big_quiet_step (fail)) | (go_big_quiet_want; (first | refine quiet_ld S ?_ | refine quiet_ld8 S ?_ | refine quiet_ld0 ?_ | refine quiet_ldA S ?_ | refine quiet_b2sB S ?_ | refine quiet_b2sR S ?_ | refine quiet_ldc S ?_); go_big_quiet_on))); refine wpQuiet_nil ?_; clear S; intro wq S) | go_big_skip | (refine wpList_ld S ?_) | (refine wpList_ld8 S ?_) | (refine wpList_ld0 ?_) | (refine wpList_ldA S ?_) | (refine wpList_st8 S ?_; (clear S; intro ws S)) | (refine wpList_st S ?_; (clear S; intro ws S)) | (refine wpList_box S ?_; (clear S; intro nb wb hnb S)) | (refine wpList_alloc S ?_; (clear S; intro nb wb hnb S)) | (refine wpList_mk8 S ?_; (clear S; intro nb wb hnb S)) | (refine wpList_mk S ?_; (clear S; intro nb wb hnb S)) | (refine wpList_bs S ?_; (clear S; intro nb wb hnb S)) | (refine wpList_stA S ?_; (clear S; intro ws S; simp only [splice, List.take_zero, List.take_succ_cons, List.drop_succ_cons, List.drop_zero, List.drop_nil, List.length_cons, List.length_nil, Nat.reduceAdd, Nat.zero_add, List.nil_append, List.cons_append, List.append_nil] at S)) | (refine wpList_b2sB S ?_) | (refine wpList_b2sR S ?_) | (refine wpList_ldc S ?_))
    refine Calls.mono (quPut q m hb x.full arr sl h x.cap x.max x.count x.right x.head x.tail n k c oa xs _ S.sel3 (hs.over S.chg hd) hd hc hh hk1 hk2 (by omega) hfit2 (by have := hle.out; omega) (by omega)) ?_
    rintro e w4 ⟨rfl, h', hh', C⟩
    rw [← hq.out h'] at C
    have S2 := S.call C; clear S C; simp only [List.cons_append, List.nil_append] at S2; have S := S2; clear S2
    go_wp2_with (first | go_big_skip | ((with_reducible show Code.wp _ (Code.region _ _ true) _ _ _); refine St.regionLast S ?_; (repeat (first | (go_big_quiet_step (fail)) | (go_big_quiet_want; (first | refine quiet_ld S ?_ | refine quiet_ld8 S ?_ | refine quiet_ld0 ?_ | refine quiet_ldA S ?_ | refine quiet_b2sB S ?_ | refine quiet_b2sR S ?_ | refine quiet_ldc S ?_); go_big_quiet_on))); refine wpQuiet_nil ?_; clear S; intro wq S) | go_big_skip | (refine wpList_ld S ?_) | (refine wpList_ld8 S ?_) | (refine wpList_ld0 ?_) | (refine wpList_ldA S ?_) | (refine wpList_st8 S ?_; (clear S; intro ws S)) | (refine wpList_st S ?_; (clear S; intro ws S)) | (refine wpList_box S ?_; (clear S; intro nb wb hnb S)) | (refine wpList_alloc S ?_; (clear S; intro nb wb hnb S)) | (refine wpList_mk8 S ?_; (clear S; intro nb wb hnb S)) | (refine wpList_mk S ?_; (clear S; intro nb wb hnb S)) | (refine wpList_bs S ?_; (clear S; intro nb wb hnb S)) | (refine wpList_stA S ?_; (clear S; intro ws S; simp only [splice, List.take_zero, List.take_succ_cons, List.drop_succ_cons, List.drop_zero, List.drop_nil, List.length_cons, List.length_nil, Nat.reduceAdd, Nat.zero_add, List.nil_append, List.cons_append, List.append_nil] at S)) | (refine wpList_b2sB S ?_) | (refine wpList_b2sR S ?_) | (refine wpList_ldc S ?_))
    ((first | go_ret | go_ret2 | go_ret3 | go_end0 | skip); refine hR.out _ _ ?_)
    rw [hp.out]
    exact ⟨rfl, m, _, sl, h', hh', g1.out, S⟩
  · rw [Bool.not_eq_true] at a1
    rw [a1]
    go_wp2_with (first | go_big_skip | ((with_reducible show Code.wp _ (Code.region _ _ true) _ _ _); refine St.regionLast S ?_; (repeat (first | (go_big_quiet_step (fail)) | (go_big_quiet_want; (first | refine quiet_ld S ?_ | refine quiet_ld8 S ?_ | refine quiet_ld0 ?_ | refine quiet_ldA S ?_ | refine quiet_b2sB S ?_ | refine quiet_b2sR S ?_ | refine quiet_ldc S ?_); go_big_quiet_on))); refine wpQuiet_nil ?_; clear S; intro wq S) | go_big_skip | (refine wpList_ld S ?_) | (refine wpList_ld8 S ?_) | (refine wpList_ld0 ?_) | (refine wpList_ldA S ?_) | (refine wpList_st8 S ?_; (clear S; intro ws S)) | (refine wpList_st S ?_; (clear S; intro ws S)) | (refine wpList_box S ?_; (clear S; intro nb wb hnb S)) | (refine wpList_alloc S ?_; (clear S; intro nb wb hnb S)) | (refine wpList_mk8 S ?_; (clear S; intro nb wb hnb S)) | (refine wpList_mk S ?_; (clear S; intro nb wb hnb S)) | (refine wpList_bs S ?_; (clear S; intro nb wb hnb S)) | (refine wpList_stA S ?_; (clear S; intro ws S; simp only [splice, List.take_zero, List.take_succ_cons, List.drop_succ_cons, List.drop_zero, List.drop_nil, List.length_cons, List.length_nil, Nat.reduceAdd, Nat.zero_add, List.nil_append, List.cons_append, List.append_nil] at S)) | (refine wpList_b2sB S ?_) | (refine wpList_b2sR S ?_) | (refine wpList_ldc S ?_))
    refine Calls.mono (quBeforeQ q m hb x arr sl k _ S.sel1 (by omega) (by omega) (by omega) (by omega)) ?_
    rintro e w4 ⟨rfl, C⟩
    have S2 := S.call C; clear S C; simp only [List.cons_append, List.nil_append] at S2; have S := S2; clear S2
    by_cases b1 : x.before k = true
    · obtain ⟨hy, hfit⟩ := Qu.before_fit hr (by omega) a1 b1
      have hfull := Qu.full_plain hy
      have ho : x.old ≠ [] := fun ho => by have := (hr.none ho).1; omega
      have hfit2 : 1 + k ≤ arr.length := by
        have := hle.out
        have := (hr.right_le ho).1
        have := sz_pos hr.okO ho
        unfold Qu.right at *
        omega
      obtain ⟨g1, g2, g3, g4, g5, g6, g7, g8⟩ := Qu.wrap_rep hr hentry hy (by rw [hen.out]; exact hfit)
      rw [hen.out] at g2 g7
      rw [hby.out] at g1
      have g6' : (x.wrap (entry xs)).right = if x.head < 1 + k then 1 + k else x.right := by rw [if_neg (by omega)]; exact g6
      have hq := fun h => qMem_put (sl := sl) (h := h) q m hb (t := 1) (k := k) (arr' := splice arr 1 (uv k ++ xs.take (k - uvl k))) g2 g3 g4 g5 g6' g7 g8
      replace g1 := hidden g1
      replace hq := hidden hq
      clear g2 g3 g4 g5 g6 g7 g8 g6'
      rw [b1]
      have hp := hidden (hpush.out.trans ((if_neg (by simp [a1])).trans (if_pos b1)))
      rw [hfull] at S
      go_wp2_with (first | go_big_skip | ((with_reducible show Code.wp _ (Code.region _ _ true) _ _ _); refine St.regionLast S ?_; (repeat (first | (go_big_quiet_step (fail)) | (go_big_quiet_want; (first | refine quiet_ld S ?_ | refine quiet_ld8 S ?_ | refine quiet_ld0 ?_ | refine quiet_ldA S ?_ | refine quiet_b2sB S ?_ | refine quiet_b2sR S ?_ | refine quiet_ldc S ?_); go_big_quiet_on))); refine wpQuiet_nil ?_; clear S; intro wq S) | go_big_skip | (refine wpList_ld S ?_) | (refine wpList_ld8 S ?_) | (refine wpList_ld0 ?_) | (refine wpList_ldA S ?_) | (refine wpList_st8 S ?_; (clear S; intro ws S)) | (refine wpList_st S ?_; (clear S; intro ws S)) | (refine wpList_box S ?_; (clear S; intro nb wb hnb S)) | (refine wpList_alloc S ?_; (clear S; intro nb wb hnb S)) | (refine wpList_mk8 S ?_; (clear S; intro nb wb hnb S)) | (refine wpList_mk S ?_; (clear S; intro nb wb hnb S)) | (refine wpList_bs S ?_; (clear S; intro nb wb hnb S)) | (refine wpList_stA S ?_; (clear S; intro ws S; simp only [splice, List.take_zero, List.take_succ_cons, List.drop_succ_cons, List.drop_zero, List.drop_nil, List.length_cons, List.length_nil, Nat.reduceAdd, Nat.zero_add, List.nil_append, List.cons_append, List.append_nil] at S)) | (refine wpList_b2sB S ?_) | (refine wpList_b2sR S ?_) | (refine wpList_ldc S ?_))
      refine Calls.mono (quPut q m hb false arr sl h x.cap x.max x.count x.right x.head 1 n k c oa xs _ S.sel3 (hs.over S.chg hd) hd hc hh hk1 hk2 (by omega) hfit2 (by have := hle.out; omega) (by omega)) ?_
      rintro e w5 ⟨rfl, h', hh', C⟩
      rw [← hq.out h'] at C
      have S2 := S.call C; clear S C; simp only [List.cons_append, List.nil_append] at S2; have S := S2; clear S2
      go_wp2_with (first | go_big_skip | ((with_reducible show Code.wp _ (Code.region _ _ true) _ _ _); refine St.regionLast S ?_; (repeat (first | (go_big_quiet_step (fail)) | (go_big_quiet_want; (first | refine quiet_ld S ?_ | refine quiet_ld8 S ?_ | refine quiet_ld0 ?_ | refine quiet_ldA S ?_ | refine quiet_b2sB S ?_ | refine quiet_b2sR S ?_ | refine quiet_ldc S ?_); go_big_quiet_on))); refine wpQuiet_nil ?_; clear S; intro wq S) | go_big_skip | (refine wpList_ld S ?_) | (refine wpList_ld8 S ?_) | (refine wpList_ld0 ?_) | (refine wpList_ldA S ?_) | (refine wpList_st8 S ?_; (clear S; intro ws S)) | (refine wpList_st S ?_; (clear S; intro ws S)) | (refine wpList_box S ?_; (clear S; intro nb wb hnb S)) | (refine wpList_alloc S ?_; (clear S; intro nb wb hnb S)) | (refine wpList_mk8 S ?_; (clear S; intro nb wb hnb S)) | (refine wpList_mk S ?_; (clear S; intro nb wb hnb S)) | (refine wpList_bs S ?_; (clear S; intro nb wb hnb S)) | (refine wpList_stA S ?_; (clear S; intro ws S; simp only [splice, List.take_zero, List.take_succ_cons, List.drop_succ_cons, List.drop_zero, List.drop_nil, List.length_cons, List.length_nil, Nat.reduceAdd, Nat.zero_add, List.nil_append, List.cons_append, List.append_nil] at S)) | (refine wpList_b2sB S ?_) | (refine wpList_b2sR S ?_) | (refine wpList_ldc S ?_))
      ((first | go_ret | go_ret2 | go_ret3 | go_end0 | skip); refine hR.out _ _ ?_)
      rw [hp.out]
      exact ⟨rfl, m, _, sl, h', hh', g1.out, S⟩
    · rw [Bool.not_eq_true] at b1
      rw [b1]
      by_cases c1 : x.cap + k ≥ x.max ∧ x.max > 0
      · have hp := hidden (hpush.out.trans ((if_neg (by simp [a1])).trans ((if_neg (by simp [b1])).trans (if_pos c1))))
        have hbb : decide ((x.max : Int) ≤ (x.cap : Int) + (k : Int)) = true := by simp; omega
        go_wp2_with (first | go_big_skip | ((with_reducible show Code.wp _ (Code.region _ _ true) _ _ _); refine St.regionLast S ?_; (repeat (first | (go_big_quiet_step (fail)) | (go_big_quiet_want; (first | refine quiet_ld S ?_ | refine quiet_ld8 S ?_ | refine quiet_ld0 ?_ | refine quiet_ldA S ?_ | refine quiet_b2sB S ?_ | refine quiet_b2sR S ?_ | refine quiet_ldc S ?_); go_big_quiet_on))); refine wpQuiet_nil ?_; clear S; intro wq S) | go_big_skip | (refine wpList_ld S ?_) | (refine wpList_ld8 S ?_) | (refine wpList_ld0 ?_) | (refine wpList_ldA S ?_) | (refine wpList_st8 S ?_; (clear S; intro ws S)) | (refine wpList_st S ?_; (clear S; intro ws S)) | (refine wpList_box S ?_; (clear S; intro nb wb hnb S)) | (refine wpList_alloc S ?_; (clear S; intro nb wb hnb S)) | (refine wpList_mk8 S ?_; (clear S; intro nb wb hnb S)) | (refine wpList_mk S ?_; (clear S; intro nb wb hnb S)) | (refine wpList_bs S ?_; (clear S; intro nb wb hnb S)) | (refine wpList_stA S ?_; (clear S; intro ws S; simp only [splice, List.take_zero, List.take_succ_cons, List.drop_succ_cons, List.drop_zero, List.drop_nil, List.length_cons, List.length_nil, Nat.reduceAdd, Nat.zero_add, List.nil_append, List.cons_append, List.append_nil] at S)) | (refine wpList_b2sB S ?_) | (refine wpList_b2sR S ?_) | (refine wpList_ldc S ?_))
        ((first | go_ret | go_ret2 | go_ret3 | go_end0 | skip); refine hR.out _ _ ?_)
        rw [hp.out]
        exact ⟨_, rfl, ⟨_, rfl⟩, S.sel (by repeat (first | exact Sel.nil | (apply Sel.cons; (repeat (first | exact Pull.head | apply Pull.tail)))))⟩
      · have hp := hidden (hpush.out.trans ((if_neg (by simp [a1])).trans ((if_neg (by simp [b1])).trans (if_neg c1))))
        have hroom := Qu.newCap_room (x := x) (need := k) (by omega) c1
        have hgt := Qu.grow_tail hr hroom.1
        have hgr := Qu.grow_room hr (by omega) c1
        have hent : ∀ arr', (x.grow k).Rep arr' → _ := fun arr' hr' => Qu.put_rep (b := entry xs) hr' hentry (by rw [hen.out, hgt, if_pos (Qu.grow_young k)]; exact hgr)
        have grow_end : ∀ (ws : World), St w [q, m, hb] ws (qMem q m hb x arr sl h) → Hid (∀ (m' : Nat) (arr' h' : List UInt8) w4, h'.length = 5 → (x.grow k).Rep arr' → St w [q, m, hb] w4 (qMem q m' hb (x.grow k) arr' [] h') →
            Calls Try.prog 82 #[.pointer (some ⟨q, 0, none⟩), .slice oa n c, .int .i64 k] w4 fun e w' => e = .returned (.tuple #[]) ∧ ∃ (m' : Nat) (arr' sl' h' : List UInt8), h'.length = 5 ∧ ((x.grow k).put (entry xs)).Rep arr' ∧ St w [q, m, hb] w' (qMem q m' hb ((x.grow k).put (entry xs)) arr' sl' h')) := by
          intro ws _
          refine hidden fun m' arr' h' w4 hh' hr' S' => ?_
          have hle' := hr'.len
          obtain ⟨g1, g2, g3, g4, g5, g6, g7, g8⟩ := hent arr' hr'
          rw [hen.out] at g2 g6 g7
          rw [hby.out] at g1
          have hcn : ((x.grow k).count : Int) ≤ 4294967296 := by
            have l1 := length_le_sz hr'.okO
            have l2 : (x.grow k).right = x.right := by rw [← Qu.tail_plain (Qu.grow_young k)]; exact hgt
            unfold Qu.count; rw [Qu.grow_young]; unfold Qu.right at l2 hrb; simp; omega
          have ht5 : (x.grow k).tail + k ≤ arr'.length := by rw [hgt, hle']; exact hgr
          refine Calls.mono (quPut q m' hb (x.grow k).full arr' [] h' (x.grow k).cap (x.grow k).max (x.grow k).count (x.grow k).right (x.grow k).head (x.grow k).tail n k c oa xs w4 S'.mem (hs.over S'.chg hd) (S'.offG hs hd) hc hh' hk1 hk2 (by omega) ht5 (by rw [hle']; show (x.newCap k : Int) ≤ _; omega) (by omega)) ?_
          rintro e w5 ⟨rfl, h'', hh'', C⟩
          refine ⟨rfl, m', _, [], h'', hh'', g1, ?_⟩
          rw [qMem_put q m' hb g2 g3 g4 g5 g6 g7 g8]
          have := S'.call C
          simpa using this
        have grow_end := grow_end _ S
        have hgt := hidden hgt
        clear hent
        by_cases d1 : x.max ≤ x.cap + k
        · have hbb : decide ((x.max : Int) ≤ (x.cap : Int) + (k : Int)) = true := by simp; omega
          have hmx : ¬ (0 < x.max) := by omega
          clear c1
          go_wp2_with (first | go_big_skip | ((with_reducible show Code.wp _ (Code.region _ _ true) _ _ _); refine St.regionLast S ?_; (repeat (first | (go_big_quiet_step (fail)) | (go_big_quiet_want; (first | refine quiet_ld S ?_ | refine quiet_ld8 S ?_ | refine quiet_ld0 ?_ | refine quiet_ldA S ?_ | refine quiet_b2sB S ?_ | refine quiet_b2sR S ?_ | refine quiet_ldc S ?_); go_big_quiet_on))); refine wpQuiet_nil ?_; clear S; intro wq S) | go_big_skip | (refine wpList_ld S ?_) | (refine wpList_ld8 S ?_) | (refine wpList_ld0 ?_) | (refine wpList_ldA S ?_) | (refine wpList_st8 S ?_; (clear S; intro ws S)) | (refine wpList_st S ?_; (clear S; intro ws S)) | (refine wpList_box S ?_; (clear S; intro nb wb hnb S)) | (refine wpList_alloc S ?_; (clear S; intro nb wb hnb S)) | (refine wpList_mk8 S ?_; (clear S; intro nb wb hnb S)) | (refine wpList_mk S ?_; (clear S; intro nb wb hnb S)) | (refine wpList_bs S ?_; (clear S; intro nb wb hnb S)) | (refine wpList_stA S ?_; (clear S; intro ws S; simp only [splice, List.take_zero, List.take_succ_cons, List.drop_succ_cons, List.drop_zero, List.drop_nil, List.length_cons, List.length_nil, Nat.reduceAdd, Nat.zero_add, List.nil_append, List.cons_append, List.append_nil] at S)) | (refine wpList_b2sB S ?_) | (refine wpList_b2sR S ?_) | (refine wpList_ldc S ?_))
          refine Calls.mono (quGrow q m hb x arr sl h k _ S.mem hh hr (by omega) (by omega) (by omega) hroom.1 h5) ?_
          rintro e w5 ⟨rfl, m', arr', h', hh', hr', C⟩
          have S2 := S.call C; clear S C; simp only [List.cons_append, List.nil_append] at S2; have S := S2; clear S2
          have hpush2 := grow_end.out m' arr' h' _ hh' hr' S
          replace hpush2 := hidden hpush2
          go_wp2_with (first | go_big_skip | ((with_reducible show Code.wp _ (Code.region _ _ true) _ _ _); refine St.regionLast S ?_; (repeat (first | (go_big_quiet_step (fail)) | (go_big_quiet_want; (first | refine quiet_ld S ?_ | refine quiet_ld8 S ?_ | refine quiet_ld0 ?_ | refine quiet_ldA S ?_ | refine quiet_b2sB S ?_ | refine quiet_b2sR S ?_ | refine quiet_ldc S ?_); go_big_quiet_on))); refine wpQuiet_nil ?_; clear S; intro wq S) | go_big_skip | (refine wpList_ld S ?_) | (refine wpList_ld8 S ?_) | (refine wpList_ld0 ?_) | (refine wpList_ldA S ?_) | (refine wpList_st8 S ?_; (clear S; intro ws S)) | (refine wpList_st S ?_; (clear S; intro ws S)) | (refine wpList_box S ?_; (clear S; intro nb wb hnb S)) | (refine wpList_alloc S ?_; (clear S; intro nb wb hnb S)) | (refine wpList_mk8 S ?_; (clear S; intro nb wb hnb S)) | (refine wpList_mk S ?_; (clear S; intro nb wb hnb S)) | (refine wpList_bs S ?_; (clear S; intro nb wb hnb S)) | (refine wpList_stA S ?_; (clear S; intro ws S; simp only [splice, List.take_zero, List.take_succ_cons, List.drop_succ_cons, List.drop_zero, List.drop_nil, List.length_cons, List.length_nil, Nat.reduceAdd, Nat.zero_add, List.nil_append, List.cons_append, List.append_nil] at S)) | (refine wpList_b2sB S ?_) | (refine wpList_b2sR S ?_) | (refine wpList_ldc S ?_))
          refine Calls.mono hpush2.out ?_
          rintro e w6 ⟨rfl, m2, arr2, sl2, h2, hh2, hr2, S2⟩
          clear S
          have S := S2
          clear S2 hpush2
          go_wp2_with (first | go_big_skip | ((with_reducible show Code.wp _ (Code.region _ _ true) _ _ _); refine St.regionLast S ?_; (repeat (first | (go_big_quiet_step (fail)) | (go_big_quiet_want; (first | refine quiet_ld S ?_ | refine quiet_ld8 S ?_ | refine quiet_ld0 ?_ | refine quiet_ldA S ?_ | refine quiet_b2sB S ?_ | refine quiet_b2sR S ?_ | refine quiet_ldc S ?_); go_big_quiet_on))); refine wpQuiet_nil ?_; clear S; intro wq S) | go_big_skip | (refine wpList_ld S ?_) | (refine wpList_ld8 S ?_) | (refine wpList_ld0 ?_) | (refine wpList_ldA S ?_) | (refine wpList_st8 S ?_; (clear S; intro ws S)) | (refine wpList_st S ?_; (clear S; intro ws S)) | (refine wpList_box S ?_; (clear S; intro nb wb hnb S)) | (refine wpList_alloc S ?_; (clear S; intro nb wb hnb S)) | (refine wpList_mk8 S ?_; (clear S; intro nb wb hnb S)) | (refine wpList_mk S ?_; (clear S; intro nb wb hnb S)) | (refine wpList_bs S ?_; (clear S; intro nb wb hnb S)) | (refine wpList_stA S ?_; (clear S; intro ws S; simp only [splice, List.take_zero, List.take_succ_cons, List.drop_succ_cons, List.drop_zero, List.drop_nil, List.length_cons, List.length_nil, Nat.reduceAdd, Nat.zero_add, List.nil_append, List.cons_append, List.append_nil] at S)) | (refine wpList_b2sB S ?_) | (refine wpList_b2sR S ?_) | (refine wpList_ldc S ?_))
          ((first | go_ret | go_ret2 | go_ret3 | go_end0 | skip); refine hR.out _ _ ?_)
          rw [hp.out, hgt.out]
          exact ⟨rfl, m2, arr2, sl2, h2, hh2, hr2, S⟩
        · have hbb : decide ((x.max : Int) ≤ (x.cap : Int) + (k : Int)) = false := by simp; omega
          clear c1
          go_wp2_with (first | go_big_skip | ((with_reducible show Code.wp _ (Code.region _ _ true) _ _ _); refine St.regionLast S ?_; (repeat (first | (go_big_quiet_step (fail)) | (go_big_quiet_want; (first | refine quiet_ld S ?_ | refine quiet_ld8 S ?_ | refine quiet_ld0 ?_ | refine quiet_ldA S ?_ | refine quiet_b2sB S ?_ | refine quiet_b2sR S ?_ | refine quiet_ldc S ?_); go_big_quiet_on))); refine wpQuiet_nil ?_; clear S; intro wq S) | go_big_skip | (refine wpList_ld S ?_) | (refine wpList_ld8 S ?_) | (refine wpList_ld0 ?_) | (refine wpList_ldA S ?_) | (refine wpList_st8 S ?_; (clear S; intro ws S)) | (refine wpList_st S ?_; (clear S; intro ws S)) | (refine wpList_box S ?_; (clear S; intro nb wb hnb S)) | (refine wpList_alloc S ?_; (clear S; intro nb wb hnb S)) | (refine wpList_mk8 S ?_; (clear S; intro nb wb hnb S)) | (refine wpList_mk S ?_; (clear S; intro nb wb hnb S)) | (refine wpList_bs S ?_; (clear S; intro nb wb hnb S)) | (refine wpList_stA S ?_; (clear S; intro ws S; simp only [splice, List.take_zero, List.take_succ_cons, List.drop_succ_cons, List.drop_zero, List.drop_nil, List.length_cons, List.length_nil, Nat.reduceAdd, Nat.zero_add, List.nil_append, List.cons_append, List.append_nil] at S)) | (refine wpList_b2sB S ?_) | (refine wpList_b2sR S ?_) | (refine wpList_ldc S ?_))
          refine Calls.mono (quGrow q m hb x arr sl h k _ S.mem hh hr (by omega) (by omega) (by omega) hroom.1 h5) ?_
          rintro e w5 ⟨rfl, m', arr', h', hh', hr', C⟩
          have S2 := S.call C; clear S C; simp only [List.cons_append, List.nil_append] at S2; have S := S2; clear S2
          have hpush2 := grow_end.out m' arr' h' _ hh' hr' S
          replace hpush2 := hidden hpush2
          go_wp2_with (first | go_big_skip | ((with_reducible show Code.wp _ (Code.region _ _ true) _ _ _); refine St.regionLast S ?_; (repeat (first | (go_big_quiet_step (fail)) | (go_big_quiet_want; (first | refine quiet_ld S ?_ | refine quiet_ld8 S ?_ | refine quiet_ld0 ?_ | refine quiet_ldA S ?_ | refine quiet_b2sB S ?_ | refine quiet_b2sR S ?_ | refine quiet_ldc S ?_); go_big_quiet_on))); refine wpQuiet_nil ?_; clear S; intro wq S) | go_big_skip | (refine wpList_ld S ?_) | (refine wpList_ld8 S ?_) | (refine wpList_ld0 ?_) | (refine wpList_ldA S ?_) | (refine wpList_st8 S ?_; (clear S; intro ws S)) | (refine wpList_st S ?_; (clear S; intro ws S)) | (refine wpList_box S ?_; (clear S; intro nb wb hnb S)) | (refine wpList_alloc S ?_; (clear S; intro nb wb hnb S)) | (refine wpList_mk8 S ?_; (clear S; intro nb wb hnb S)) | (refine wpList_mk S ?_; (clear S; intro nb wb hnb S)) | (refine wpList_bs S ?_; (clear S; intro nb wb hnb S)) | (refine wpList_stA S ?_; (clear S; intro ws S; simp only [splice, List.take_zero, List.take_succ_cons, List.drop_succ_cons, List.drop_zero, List.drop_nil, List.length_cons, List.length_nil, Nat.reduceAdd, Nat.zero_add, List.nil_append, List.cons_append, List.append_nil] at S)) | (refine wpList_b2sB S ?_) | (refine wpList_b2sR S ?_) | (refine wpList_ldc S ?_))
          refine Calls.mono hpush2.out ?_
          rintro e w6 ⟨rfl, m2, arr2, sl2, h2, hh2, hr2, S2⟩
          clear S
          have S := S2
          clear S2 hpush2
          go_wp2_with (first | go_big_skip | ((with_reducible show Code.wp _ (Code.region _ _ true) _ _ _); refine St.regionLast S ?_; (repeat (first | (go_big_quiet_step (fail)) | (go_big_quiet_want; (first | refine quiet_ld S ?_ | refine quiet_ld8 S ?_ | refine quiet_ld0 ?_ | refine quiet_ldA S ?_ | refine quiet_b2sB S ?_ | refine quiet_b2sR S ?_ | refine quiet_ldc S ?_); go_big_quiet_on))); refine wpQuiet_nil ?_; clear S; intro wq S) | go_big_skip | (refine wpList_ld S ?_) | (refine wpList_ld8 S ?_) | (refine wpList_ld0 ?_) | (refine wpList_ldA S ?_) | (refine wpList_st8 S ?_; (clear S; intro ws S)) | (refine wpList_st S ?_; (clear S; intro ws S)) | (refine wpList_box S ?_; (clear S; intro nb wb hnb S)) | (refine wpList_alloc S ?_; (clear S; intro nb wb hnb S)) | (refine wpList_mk8 S ?_; (clear S; intro nb wb hnb S)) | (refine wpList_mk S ?_; (clear S; intro nb wb hnb S)) | (refine wpList_bs S ?_; (clear S; intro nb wb hnb S)) | (refine wpList_stA S ?_; (clear S; intro ws S; simp only [splice, List.take_zero, List.take_succ_cons, List.drop_succ_cons, List.drop_zero, List.drop_nil, List.length_cons, List.length_nil, Nat.reduceAdd, Nat.zero_add, List.nil_append, List.cons_append, List.append_nil] at S)) | (refine wpList_b2sB S ?_) | (refine wpList_b2sR S ?_) | (refine wpList_ldc S ?_))
          ((first | go_ret | go_ret2 | go_ret3 | go_end0 | skip); refine hR.out _ _ ?_)
          rw [hp.out, hgt.out]
          exact ⟨rfl, m2, arr2, sl2, h2, hh2, hr2, S⟩
end Go.Proofs.Ytkfkcinkkgdebaa
