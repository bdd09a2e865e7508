/- A queue of its parts, and its parts; an operation of a queue. -/
import Derived.Test.YtkfkcinkkgdebaaQf
import Derived.Test.YtkfkcinkkgdebaaQh
import Derived.Test.YtkfkcinkkgdebaaRet
namespace Go.Proofs.Ytkfkcinkkgdebaa
open Go Go.RowKit Go.Vil
set_option linter.unusedSimpArgs false
set_option linter.unusedVariables false
set_option maxRecDepth 100000

set_option maxHeartbeats 1600000 in
theorem zzOf (oa : Option Addr) (n c : Nat) (full : Bool) (cap max head tail count right : Int) (w : World) :
    Calls Try.prog 42 #[.slice oa n c, .bool full, .agg #[.int .i64 cap, .int .i64 max, .int .i64 head, .int .i64 tail, .int .i64 count, .int .i64 right]] w fun e w' => ∃ q hb, e = .returned (.pointer (some ⟨q, 0, none⟩)) ∧
      St w [] w' [.blk q (.cells [.bool full, .slice oa n c, .int .i64 cap, .int .i64 max, .int .i64 head, .int .i64 tail, .int .i64 count, .int .i64 right, .slice (some ⟨hb, 0, none⟩) 5 5].toArray 88 (0, 0)), .blk hb (.cells (u8s (List.replicate 5 0)).toArray 5 (0, 0))] := by
  have S := St.begin w
  refine Calls.cps ?_; intro R hR
  go_enter Try.func42, Try.ntmps42
  go_upto_region 1 with (first | go_big_skip | (refine wpList_ld S ?_) | (refine wpList_ld8 S ?_) | (refine wpList_ld0 ?_) | (refine wpList_ldA S ?_) | (refine wpList_st8 S ?_; (clear S; intro ws S)) | (refine wpList_st S ?_; (clear S; intro ws S)) | (refine wpList_box S ?_; (clear S; intro nb wb hnb S)) | (refine wpList_alloc S ?_; (clear S; intro nb wb hnb S)) | (refine wpList_mk8 S ?_; (clear S; intro nb wb hnb S)) | (refine wpList_mk S ?_; (clear S; intro nb wb hnb S)) | (refine wpList_bs S ?_; (clear S; intro nb wb hnb S)) | (refine wpList_stA S ?_; (clear S; intro ws S; simp only [splice, List.take_zero, List.take_succ_cons, List.drop_succ_cons, List.drop_zero, List.drop_nil, List.length_cons, List.length_nil, Nat.reduceAdd, Nat.zero_add, List.nil_append, List.cons_append, List.append_nil] at S)) | (refine wpList_b2sB S ?_) | (refine wpList_b2sR S ?_) | (refine wpList_ldc S ?_))
  refine St.regionG S 18 [([0, 1, 2, 3, 4, 5, 6, 7, 8, 9, 10, 11, 12, 13], 14), ([15], 16)] [17] ?_
  clear S; intro wr S; simp only [walkSt, pick, List.getElem?_cons_succ, List.getElem?_cons_zero, List.drop_succ_cons, List.drop_zero]; (repeat (first | (go_big_quiet_step (fail)) | (go_big_quiet_want; (first | refine quiet_ld S ?_ | refine quiet_ld8 S ?_ | refine quiet_ld0 ?_ | refine quiet_ldA S ?_ | refine quiet_b2sB S ?_ | refine quiet_b2sR S ?_ | refine quiet_ldc S ?_); go_big_quiet_on))); refine wpQuiet_nil ?_
  refine wpList_mk8 (ln := 5) (cn := 5) S ?_
  clear S; intro hb w2 hhb S
  refine ⟨_, S, (by repeat (first | exact Sel.nil | (apply Sel.cons; (repeat (first | exact Pull.head | apply Pull.tail))))), ?_⟩; (repeat (first | (go_big_quiet_step (fail)) | (go_big_quiet_want; (first | refine quiet_ld S ?_ | refine quiet_ld8 S ?_ | refine quiet_ld0 ?_ | refine quiet_ldA S ?_ | refine quiet_b2sB S ?_ | refine quiet_b2sR S ?_ | refine quiet_ldc S ?_); go_big_quiet_on))); refine wpQuiet_nil ?_
  go_wp2_with (first | go_big_skip | ((with_reducible show Code.wp _ (Code.region _ _ true) _ _ _); refine St.regionLast S ?_; (repeat (first | (go_big_quiet_step (fail)) | (go_big_quiet_want; (first | refine quiet_ld S ?_ | refine quiet_ld8 S ?_ | refine quiet_ld0 ?_ | refine quiet_ldA S ?_ | refine quiet_b2sB S ?_ | refine quiet_b2sR S ?_ | refine quiet_ldc S ?_); go_big_quiet_on))); refine wpQuiet_nil ?_; clear S; intro wq S) | go_big_skip | (refine wpList_ld S ?_) | (refine wpList_ld8 S ?_) | (refine wpList_ld0 ?_) | (refine wpList_ldA S ?_) | (refine wpList_st8 S ?_; (clear S; intro ws S)) | (refine wpList_st S ?_; (clear S; intro ws S)) | (refine wpList_box S ?_; (clear S; intro nb wb hnb S)) | (refine wpList_alloc S ?_; (clear S; intro nb wb hnb S)) | (refine wpList_mk8 S ?_; (clear S; intro nb wb hnb S)) | (refine wpList_mk S ?_; (clear S; intro nb wb hnb S)) | (refine wpList_bs S ?_; (clear S; intro nb wb hnb S)) | (refine wpList_stA S ?_; (clear S; intro ws S; simp only [splice, List.take_zero, List.take_succ_cons, List.drop_succ_cons, List.drop_zero, List.drop_nil, List.length_cons, List.length_nil, Nat.reduceAdd, Nat.zero_add, List.nil_append, List.cons_append, List.append_nil] at S)) | (refine wpList_b2sB S ?_) | (refine wpList_b2sR S ?_) | (refine wpList_ldc S ?_))
  refine ⟨_, S, (by repeat (first | exact Sel.nil | (apply Sel.cons; (repeat (first | exact Pull.head | apply Pull.tail))))), ?_⟩; (repeat (first | (go_big_quiet_step (fail)) | (go_big_quiet_want; (first | refine quiet_ld S ?_ | refine quiet_ld8 S ?_ | refine quiet_ld0 ?_ | refine quiet_ldA S ?_ | refine quiet_b2sB S ?_ | refine quiet_b2sR S ?_ | refine quiet_ldc S ?_); go_big_quiet_on))); refine wpQuiet_nil ?_
  go_wp2_with (first | go_big_skip | ((with_reducible show Code.wp _ (Code.region _ _ true) _ _ _); refine St.regionLast S ?_; (repeat (first | (go_big_quiet_step (fail)) | (go_big_quiet_want; (first | refine quiet_ld S ?_ | refine quiet_ld8 S ?_ | refine quiet_ld0 ?_ | refine quiet_ldA S ?_ | refine quiet_b2sB S ?_ | refine quiet_b2sR S ?_ | refine quiet_ldc S ?_); go_big_quiet_on))); refine wpQuiet_nil ?_; clear S; intro wq S) | go_big_skip | (refine wpList_ld S ?_) | (refine wpList_ld8 S ?_) | (refine wpList_ld0 ?_) | (refine wpList_ldA S ?_) | (refine wpList_st8 S ?_; (clear S; intro ws S)) | (refine wpList_st S ?_; (clear S; intro ws S)) | (refine wpList_box S ?_; (clear S; intro nb wb hnb S)) | (refine wpList_alloc S ?_; (clear S; intro nb wb hnb S)) | (refine wpList_mk8 S ?_; (clear S; intro nb wb hnb S)) | (refine wpList_mk S ?_; (clear S; intro nb wb hnb S)) | (refine wpList_bs S ?_; (clear S; intro nb wb hnb S)) | (refine wpList_stA S ?_; (clear S; intro ws S; simp only [splice, List.take_zero, List.take_succ_cons, List.drop_succ_cons, List.drop_zero, List.drop_nil, List.length_cons, List.length_nil, Nat.reduceAdd, Nat.zero_add, List.nil_append, List.cons_append, List.append_nil] at S)) | (refine wpList_b2sB S ?_) | (refine wpList_b2sR S ?_) | (refine wpList_ldc S ?_))
  ((first | go_ret | go_ret2 | go_ret3 | go_end0 | skip); refine hR.out _ _ ?_)
  exact ⟨_, hb, rfl, S.sel (by repeat (first | exact Sel.nil | (apply Sel.cons; (repeat (first | exact Pull.head | apply Pull.tail)))))⟩

set_option maxHeartbeats 1600000 in
theorem zzParts (q : Nat) (arrv hbv : Value) (full : Bool) (cap max head tail count right : Int) (w : World)
    (hM : Mem w [.blk q (.cells [.bool full, arrv, .int .i64 cap, .int .i64 max, .int .i64 head, .int .i64 tail, .int .i64 count, .int .i64 right, hbv].toArray 88 (0, 0))]) :
    Calls Try.prog 43 #[.pointer (some ⟨q, 0, none⟩)] w fun e w' => e = .returned (.tuple #[arrv, .bool full, .agg #[.int .i64 cap, .int .i64 max, .int .i64 head, .int .i64 tail, .int .i64 count, .int .i64 right]]) ∧
      St w [q] w' [.blk q (.cells [.bool full, arrv, .int .i64 cap, .int .i64 max, .int .i64 head, .int .i64 tail, .int .i64 count, .int .i64 right, hbv].toArray 88 (0, 0))] := by
  have S : St w [q] w _ := St.start hM
  clear hM
  refine Calls.cps ?_; intro R hR
  go_enter Try.func43, Try.ntmps43
  go_wp2_with (first | go_big_skip | ((with_reducible show Code.wp _ (Code.region _ _ true) _ _ _); refine St.regionLast S ?_; (repeat (first | (go_big_quiet_step (fail)) | (go_big_quiet_want; (first | refine quiet_ld S ?_ | refine quiet_ld8 S ?_ | refine quiet_ld0 ?_ | refine quiet_ldA S ?_ | refine quiet_b2sB S ?_ | refine quiet_b2sR S ?_ | refine quiet_ldc S ?_); go_big_quiet_on))); refine wpQuiet_nil ?_; clear S; intro wq S) | go_big_skip | (refine wpList_ld S ?_) | (refine wpList_ld8 S ?_) | (refine wpList_ld0 ?_) | (refine wpList_ldA S ?_) | (refine wpList_st8 S ?_; (clear S; intro ws S)) | (refine wpList_st S ?_; (clear S; intro ws S)) | (refine wpList_box S ?_; (clear S; intro nb wb hnb S)) | (refine wpList_alloc S ?_; (clear S; intro nb wb hnb S)) | (refine wpList_mk8 S ?_; (clear S; intro nb wb hnb S)) | (refine wpList_mk S ?_; (clear S; intro nb wb hnb S)) | (refine wpList_bs S ?_; (clear S; intro nb wb hnb S)) | (refine wpList_stA S ?_; (clear S; intro ws S; simp only [splice, List.take_zero, List.take_succ_cons, List.drop_succ_cons, List.drop_zero, List.drop_nil, List.length_cons, List.length_nil, Nat.reduceAdd, Nat.zero_add, List.nil_append, List.cons_append, List.append_nil] at S)) | (refine wpList_b2sB S ?_) | (refine wpList_b2sR S ?_) | (refine wpList_ldc S ?_))
  refine ret_of (results_ttc S) ?_
  refine hR.out _ _ ?_
  exact ⟨rfl, S.sel (by repeat (first | exact Sel.nil | (apply Sel.cons; (repeat (first | exact Pull.head | apply Pull.tail)))))⟩

theorem zzAfter (q m hb : Nat) (x : Qu) (arr sl : List UInt8) (need : Nat) (w : World)
    (hM : Mem w [qHead q m hb x.full arr sl x.cap x.max x.head x.tail x.count x.right]) (h1 : x.cap ≤ 4294967296) (h2 : x.head ≤ 4294967296) (h3 : x.tail ≤ 4294967296) (h4 : need ≤ 4294967296) :
    Calls Try.prog 65 #[.pointer (some ⟨q, 0, none⟩), .int .i64 need] w fun e w' => e = .returned (.bool (x.after need)) ∧ St w [q] w' [qHead q m hb x.full arr sl x.cap x.max x.head x.tail x.count x.right] := by
  have S : St w [q] w _ := St.start hM
  clear hM
  refine Calls.cps ?_; intro R hR
  go_enter Try.func65, Try.ntmps65
  go_wp2_with (first | go_big_skip | ((with_reducible show Code.wp _ (Code.region _ _ true) _ _ _); refine St.regionLast S ?_; (repeat (first | (go_big_quiet_step (fail)) | (go_big_quiet_want; (first | refine quiet_ld S ?_ | refine quiet_ld8 S ?_ | refine quiet_ld0 ?_ | refine quiet_ldA S ?_ | refine quiet_b2sB S ?_ | refine quiet_b2sR S ?_ | refine quiet_ldc S ?_); go_big_quiet_on))); refine wpQuiet_nil ?_; clear S; intro wq S) | go_big_skip | (refine wpList_ld S ?_) | (refine wpList_ld8 S ?_) | (refine wpList_ld0 ?_) | (refine wpList_ldA S ?_) | (refine wpList_st8 S ?_; (clear S; intro ws S)) | (refine wpList_st S ?_; (clear S; intro ws S)) | (refine wpList_box S ?_; (clear S; intro nb wb hnb S)) | (refine wpList_alloc S ?_; (clear S; intro nb wb hnb S)) | (refine wpList_mk8 S ?_; (clear S; intro nb wb hnb S)) | (refine wpList_mk S ?_; (clear S; intro nb wb hnb S)) | (refine wpList_bs S ?_; (clear S; intro nb wb hnb S)) | (refine wpList_stA S ?_; (clear S; intro ws S; simp only [splice, List.take_zero, List.take_succ_cons, List.drop_succ_cons, List.drop_zero, List.drop_nil, List.length_cons, List.length_nil, Nat.reduceAdd, Nat.zero_add, List.nil_append, List.cons_append, List.append_nil] at S)) | (refine wpList_b2sB S ?_) | (refine wpList_b2sR S ?_) | (refine wpList_ldc S ?_))
  refine Calls.mono (quAfterQ q m hb x arr sl need _ S.sel1 h1 h2 h3 h4) ?_
  rintro e w3 ⟨rfl, C⟩
  have S2 := S.call C; clear S C; simp only [List.cons_append, List.nil_append] at S2; have S := S2; clear S2
  go_wp2_with (first | go_big_skip | ((with_reducible show Code.wp _ (Code.region _ _ true) _ _ _); refine St.regionLast S ?_; (repeat (first | (go_big_quiet_step (fail)) | (go_big_quiet_want; (first | refine quiet_ld S ?_ | refine quiet_ld8 S ?_ | refine quiet_ld0 ?_ | refine quiet_ldA S ?_ | refine quiet_b2sB S ?_ | refine quiet_b2sR S ?_ | refine quiet_ldc S ?_); go_big_quiet_on))); refine wpQuiet_nil ?_; clear S; intro wq S) | go_big_skip | (refine wpList_ld S ?_) | (refine wpList_ld8 S ?_) | (refine wpList_ld0 ?_) | (refine wpList_ldA S ?_) | (refine wpList_st8 S ?_; (clear S; intro ws S)) | (refine wpList_st S ?_; (clear S; intro ws S)) | (refine wpList_box S ?_; (clear S; intro nb wb hnb S)) | (refine wpList_alloc S ?_; (clear S; intro nb wb hnb S)) | (refine wpList_mk8 S ?_; (clear S; intro nb wb hnb S)) | (refine wpList_mk S ?_; (clear S; intro nb wb hnb S)) | (refine wpList_bs S ?_; (clear S; intro nb wb hnb S)) | (refine wpList_stA S ?_; (clear S; intro ws S; simp only [splice, List.take_zero, List.take_succ_cons, List.drop_succ_cons, List.drop_zero, List.drop_nil, List.length_cons, List.length_nil, Nat.reduceAdd, Nat.zero_add, List.nil_append, List.cons_append, List.append_nil] at S)) | (refine wpList_b2sB S ?_) | (refine wpList_b2sR S ?_) | (refine wpList_ldc S ?_))
  ((first | go_ret | go_ret2 | go_ret3 | go_end0 | skip); refine hR.out _ _ ?_)
  exact ⟨rfl, S⟩
theorem zzBefore (q m hb : Nat) (x : Qu) (arr sl : List UInt8) (need : Nat) (w : World)
    (hM : Mem w [qHead q m hb x.full arr sl x.cap x.max x.head x.tail x.count x.right]) (h1 : x.cap ≤ 4294967296) (h2 : x.head ≤ 4294967296) (h3 : x.tail ≤ 4294967296) (h4 : need ≤ 4294967296) :
    Calls Try.prog 66 #[.pointer (some ⟨q, 0, none⟩), .int .i64 need] w fun e w' => e = .returned (.bool (x.before need)) ∧ St w [q] w' [qHead q m hb x.full arr sl x.cap x.max x.head x.tail x.count x.right] := by
  have S : St w [q] w _ := St.start hM
  clear hM
  refine Calls.cps ?_; intro R hR
  go_enter Try.func66, Try.ntmps66
  go_wp2_with (first | go_big_skip | ((with_reducible show Code.wp _ (Code.region _ _ true) _ _ _); refine St.regionLast S ?_; (repeat (first | (go_big_quiet_step (fail)) | (go_big_quiet_want; (first | refine quiet_ld S ?_ | refine quiet_ld8 S ?_ | refine quiet_ld0 ?_ | refine quiet_ldA S ?_ | refine quiet_b2sB S ?_ | refine quiet_b2sR S ?_ | refine quiet_ldc S ?_); go_big_quiet_on))); refine wpQuiet_nil ?_; clear S; intro wq S) | go_big_skip | (refine wpList_ld S ?_) | (refine wpList_ld8 S ?_) | (refine wpList_ld0 ?_) | (refine wpList_ldA S ?_) | (refine wpList_st8 S ?_; (clear S; intro ws S)) | (refine wpList_st S ?_; (clear S; intro ws S)) | (refine wpList_box S ?_; (clear S; intro nb wb hnb S)) | (refine wpList_alloc S ?_; (clear S; intro nb wb hnb S)) | (refine wpList_mk8 S ?_; (clear S; intro nb wb hnb S)) | (refine wpList_mk S ?_; (clear S; intro nb wb hnb S)) | (refine wpList_bs S ?_; (clear S; intro nb wb hnb S)) | (refine wpList_stA S ?_; (clear S; intro ws S; simp only [splice, List.take_zero, List.take_succ_cons, List.drop_succ_cons, List.drop_zero, List.drop_nil, List.length_cons, List.length_nil, Nat.reduceAdd, Nat.zero_add, List.nil_append, List.cons_append, List.append_nil] at S)) | (refine wpList_b2sB S ?_) | (refine wpList_b2sR S ?_) | (refine wpList_ldc S ?_))
  refine Calls.mono (quBeforeQ q m hb x arr sl need _ S.sel1 h1 h2 h3 h4) ?_
  rintro e w3 ⟨rfl, C⟩
  have S2 := S.call C; clear S C; simp only [List.cons_append, List.nil_append] at S2; have S := S2; clear S2
  go_wp2_with (first | go_big_skip | ((with_reducible show Code.wp _ (Code.region _ _ true) _ _ _); refine St.regionLast S ?_; (repeat (first | (go_big_quiet_step (fail)) | (go_big_quiet_want; (first | refine quiet_ld S ?_ | refine quiet_ld8 S ?_ | refine quiet_ld0 ?_ | refine quiet_ldA S ?_ | refine quiet_b2sB S ?_ | refine quiet_b2sR S ?_ | refine quiet_ldc S ?_); go_big_quiet_on))); refine wpQuiet_nil ?_; clear S; intro wq S) | go_big_skip | (refine wpList_ld S ?_) | (refine wpList_ld8 S ?_) | (refine wpList_ld0 ?_) | (refine wpList_ldA S ?_) | (refine wpList_st8 S ?_; (clear S; intro ws S)) | (refine wpList_st S ?_; (clear S; intro ws S)) | (refine wpList_box S ?_; (clear S; intro nb wb hnb S)) | (refine wpList_alloc S ?_; (clear S; intro nb wb hnb S)) | (refine wpList_mk8 S ?_; (clear S; intro nb wb hnb S)) | (refine wpList_mk S ?_; (clear S; intro nb wb hnb S)) | (refine wpList_bs S ?_; (clear S; intro nb wb hnb S)) | (refine wpList_stA S ?_; (clear S; intro ws S; simp only [splice, List.take_zero, List.take_succ_cons, List.drop_succ_cons, List.drop_zero, List.drop_nil, List.length_cons, List.length_nil, Nat.reduceAdd, Nat.zero_add, List.nil_append, List.cons_append, List.append_nil] at S)) | (refine wpList_b2sB S ?_) | (refine wpList_b2sR S ?_) | (refine wpList_ldc S ?_))
  ((first | go_ret | go_ret2 | go_ret3 | go_end0 | skip); refine hR.out _ _ ?_)
  exact ⟨rfl, S⟩

/-- An operation of a queue, and its answer. -/
structure QOp where
  kind : Int
  data : List UInt8
  index : Int
structure QAns where
  fault : Int
  number : Int
  data : List UInt8
/-- What an operation does. -/
def qStep (x : Qu) (op : QOp) : Qu × QAns :=
  if op.kind = 0 then
    match x.push op.data with
    | (x', some i) => (x', ⟨0, i, []⟩)
    | (x', none) => (x', ⟨1, -1, []⟩)
  else if op.kind = 1 then (match x.old with | [] => (x, ⟨1, 0, []⟩) | b :: _ => (x.pop, ⟨0, 0, b.p⟩))
  else if op.kind = 2 then (match x.old with | [] => (x, ⟨1, 0, []⟩) | b :: _ => (x, ⟨0, 0, b.p⟩))
  else if op.kind = 3 then (match x.items.find? (fun p => (p.1 : Int) == op.index) with | some p => (x, ⟨0, 0, p.2⟩) | none => (x, ⟨1, 0, []⟩))
  else if op.kind = 4 then (match x.items.find? (fun p => (p.1 : Int) == op.index) with | some p => (x, ⟨0, 0, []⟩) | none => (x, ⟨1, 0, []⟩))
  else if op.kind = 5 then (x, ⟨0, x.count, []⟩)
  else if op.kind = 6 then (x, ⟨0, x.cap, []⟩)
  else if op.kind = 7 then (x.reset, ⟨0, 0, []⟩)
  else if op.kind = 8 then (x, ⟨0, if x.after op.index.toNat then 1 else 0, []⟩)
  else (x, ⟨0, if x.before op.index.toNat then 1 else 0, []⟩)
/-- The operations of which something is said. -/
def qLegal (x : Qu) (op : QOp) : Prop :=
  0 ≤ op.kind ∧ op.kind ≤ 9 ∧ (op.kind = 0 → op.data.length < 16382 ∧ x.newCap (needs op.data.length) ≤ 1073741824) ∧
  (op.kind = 3 ∨ op.kind = 4 → op.index ≤ 0 ∨ ∃ p ∈ x.items, (p.1 : Int) = op.index) ∧ (op.kind = 8 ∨ op.kind = 9 → 0 ≤ op.index ∧ op.index ≤ 1073741824)

theorem items_block {x : Qu} {arr : List UInt8} (hr : x.Rep arr) {p : Nat × List UInt8} (hp : p ∈ x.items) : (∃ b : Blk, b.ok ∧ b.p = p.2 ∧ Lies arr p.1 b.bytes) ∧ 1 ≤ p.1 ∧ p.1 < arr.length ∧ x.count ≠ 0 := by
  unfold Qu.items at hp
  rcases List.mem_append.1 hp with h | h
  · have ho : x.old ≠ [] := fun e => by rw [e] at h; cases h
    obtain ⟨b, h1, h2, h3, h4, h5⟩ := Lies.block hr.okO (hr.old ho) h
    have h6 := h3.1
    rw [h1.len] at h6
    have h7 := h1.pos
    have h8 := hr.head
    refine ⟨⟨b, h1, h2, h3⟩, by omega, by omega, ?_⟩
    unfold Qu.count
    cases hx : x.old with
    | nil => exact absurd hx ho
    | cons => simp
  · have hy : x.young ≠ [] := fun e => by rw [e] at h; cases h
    obtain ⟨b, h1, h2, h3, h4, h5⟩ := Lies.block hr.okY (hr.young hy).1 h
    have h6 := h3.1
    rw [h1.len] at h6
    have h7 := h1.pos
    refine ⟨⟨b, h1, h2, h3⟩, by omega, by omega, ?_⟩
    unfold Qu.count
    cases hx : x.young with
    | nil => exact absurd hx hy
    | cons => simp
theorem items_none {x : Qu} {arr : List UInt8} (hr : x.Rep arr) {i : Int} (h : i ≤ 0) : x.items.find? (fun p => (p.1 : Int) == i) = none := by
  rw [List.find?_eq_none]
  intro p hp
  have := (items_block hr hp).2.1
  simp; omega
theorem idleQ (p : Option Addr) : Idle Try.prog 54 #[.pointer p] := by
  intro w
  refine callsD_of_wpS Try.func54 rfl fun c₀ cs hu => ?_
  apply wpS_seq
  apply wpS_region
  simp [wpOpsS, go_sem, recoverD, hu, Try.ntmps54, Exit.thenS]
  refine wpS_cond (t := false) (by simp [Act.eval, Array.replicate]) ?_
  simp only [Bool.false_eq_true, if_false]
  refine wpS_of_wp (wp_skip ?_)
  cases c₀
  simp_all [bodyPostS, results, Try.results54]
end Go.Proofs.Ytkfkcinkkgdebaa
