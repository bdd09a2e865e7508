/- A queue that is laid out in any way. -/
import Derived.Test.YtkfkcinkkgdebaaDc
namespace Go.Vil
open Go Go.RowKit
section
variable {P : Program} {ops : Array Oper} {Q : Exit → Act → World → Prop} {rest : List Oper} {o : Oper} {a : Act} {w w' : World}
/-- A load of an element of a slice of the call's own. -/
theorem wpList_ldOk {w0 : World} {bs : List Nat} {L F : List Res} (S : St w0 bs w L) {a' : Act} {ty e : TypeId} {x : Operand} {ad : Addr} {n c size : Nat} {xs cs : List Value} (kk : Nat)
    (k : wpList P ops Q rest a' w) (hcs : cs.length = size) (hx : ∀ j v, cs[j]? = some v → xs[kk * size + j]? = some v) (ha : slot a x = some (.pointer (some (ad.add (kk * size)))))
    (hw : Region.wanted o (yielded ops a.tmps) = true := by rfl) (ho : o.op = .load ty x := by rfl) (hT0 : TAgg P ty size := by infer_instance)
    (hp : Pull (.orow e size (.slice (some ad) n c) n xs) L F := by repeat (first | exact Pull.head | apply Pull.tail))
    (hput : Put a o.dst (.agg cs.toArray) a' := by exact put_of (by conv => lhs; simp only [List.set_cons_succ, List.set_cons_zero])) : wpList P ops Q (o :: rest) a w := by
  obtain ⟨g, of, hg⟩ : ∃ g of, ad = ⟨g, of, none⟩ := by
    rcases (S.mem.2 _ hp.mem : hasRow w e size (.slice (some ad) n c) n xs).2 with ⟨h5, _⟩ | ⟨g, of, cap, cur, h5, _⟩
    · cases h5
    · cases h5; exact ⟨g, of, rfl⟩
  subst hg
  have hcell := hasRow.cells (S.mem.2 _ hp.mem : hasRow w e size (.slice (some ⟨g, of, none⟩) n c) n xs)
  exact wpList_run hw (run_ldA ty x ho (eval_slot ha) hcs fun j v hv => by rw [Go.Vil.add_add]; exact hcell _ v (hx j v hv)) (hput.is ▸ k)
end
end Go.Vil
namespace Go.Vil
theorem St.toORow {w0 : World} {bs : List Nat} {w : World} {L F : List Res} (S : St w0 bs w L) {e : TypeId} {size n : Nat} {v : Value} {xs : List Value} (hp : Pull (.row e size v n xs) L F) : St w0 bs w (.orow e size v n xs :: F) := by
  have S' := S.perm hp.perm
  refine ⟨⟨?_, fun r hr => ?_⟩, S'.chg, fun r hr b hb => ?_⟩
  · have := S'.mem.1
    rw [List.filterMap_cons] at this ⊢
    exact this
  · cases hr with
    | head => exact hasRow.of_own (S'.mem.2 _ List.mem_cons_self)
    | tail _ hr => exact S'.mem.2 r (List.mem_cons_of_mem _ hr)
  · cases hr with
    | head => exact S'.org (.row e size v n xs) List.mem_cons_self b hb
    | tail _ hr => exact S'.org r (List.mem_cons_of_mem _ hr) b hb
end Go.Vil
namespace Go.Vil
section
variable {P : Program} {ops : Array Oper} {Q : Exit → Act → World → Prop} {rest : List Oper} {o : Oper} {a : Act} {w w' : World}
/-- A load of a cell of a slice of the call's own, in a region that draws. -/
theorem quiet_ldO {w0 : World} {bs : List Nat} {L F : List Res} (S : St w0 bs w L) {K : Act → Prop} {a' : Act} {ty e : TypeId} {x : Operand} {ad : Addr} {n c size : Nat} {xs : List Value} {v : Value} (j : Nat)
    (k : K a') (hx : xs[j]? = some v) (ha : slot a x = some (.pointer (some (ad.add j)))) (ho : o.op = .load ty x := by rfl) (hT0 : TOne P ty := by infer_instance)
    (hp : Pull (.orow e size (.slice (some ad) n c) n xs) L F := by repeat (first | exact Pull.head | apply Pull.tail))
    (hput : Put a o.dst v a' := by exact put_of (by conv => lhs; simp only [List.set_cons_succ, List.set_cons_zero])) : o.quiet P a (fun w' => ∃ p : StW w w0 bs L, w' = p.w) K := by
  obtain ⟨g, of, hg⟩ : ∃ g of, ad = ⟨g, of, none⟩ := by
    rcases (S.mem.2 _ hp.mem : hasRow w e size (.slice (some ad) n c) n xs).2 with ⟨h5, _⟩ | ⟨g, of, cap, cur, h5, _⟩
    · cases h5
    · cases h5; exact ⟨g, of, rfl⟩
  subst hg
  exact quiet_run (fun w' hS => run_ld ty x ho (eval_slot ha) (hasRow.cells ((S.of hS).mem.2 _ hp.mem : hasRow w' e size (.slice (some ⟨g, of, none⟩) n c) n xs) j v hx)) (hput.is ▸ k)
end
theorem St.slcOR {w0 : World} {bs : List Nat} {w : World} {L F : List Res} (S : St w0 bs w L) {e : TypeId} {size n c : Nat} {ad : Addr} {xs : List Value} (lN : Nat) (hp : Pull (.orow e size (.slice (some ad) n c) n xs) L F) (h1 : lN ≤ n) :
    St w0 bs w (.orow e size (.slice (some (cutAt ad lN c size)) (n - lN) (c - lN)) (n - lN) (xs.drop (lN * size)) :: F) := by
  have hown : hasRow w e size (.slice (some ad) n c) n xs := S.mem.2 _ hp.mem
  rcases hown.2 with ⟨h3, _⟩ | ⟨g, of, cap, cur, h0, hg, h3, h4, h5, h6⟩
  · cases h3
  cases h0
  have hcs : lN * size + (c - lN) * size = c * size := by rw [← Nat.add_mul]; congr 1; omega
  have hns : n * size ≤ c * size := Nat.mul_le_mul_right _ h3
  have hnl : n * size - lN * size = (n - lN) * size := (Nat.sub_mul n lN size).symm
  have hle2 : lN * size ≤ n * size := Nat.mul_le_mul_right _ h1
  have hrow : hasRow w e size (.slice (some (cutAt ⟨g, of, none⟩ lN c size)) (n - lN) (c - lN)) (n - lN) (xs.drop (lN * size)) := by
    unfold cutAt
    by_cases hc : c = lN
    · rw [if_pos hc]
      refine ⟨by rw [List.length_drop, hown.1, hnl], .inr ⟨g, of, _, cur, rfl, hg, by omega, by omega, by omega, ?_⟩⟩
      have hz : (n - lN) * size = 0 := by rw [show n - lN = 0 by omega, Nat.zero_mul]
      rw [hz, List.take_zero, List.drop_eq_nil_of_le (by rw [hown.1, ← hc]; exact hns)]
    · rw [if_neg hc, Addr.add_lit]
      refine ⟨by rw [List.length_drop, hown.1, hnl], .inr ⟨g, of + lN * size, _, cur, rfl, hg, by omega, by omega, by omega, ?_⟩⟩
      rw [← h6, List.drop_take, List.drop_drop, hnl]
  have hfoot : (Res.orow e size (.slice (some (cutAt ⟨g, of, none⟩ lN c size)) (n - lN) (c - lN)) (n - lN) (xs.drop (lN * size))).foot = some g := by
    unfold cutAt
    by_cases hc : c = lN
    · rw [if_pos hc]; rfl
    · rw [if_neg hc, Addr.add_lit]; rfl
  have S2 := S.perm hp.perm
  refine ⟨⟨?_, fun r hr => ?_⟩, S2.chg, fun r hr b hb => ?_⟩
  · have := S2.mem.1
    rw [List.filterMap_cons, hfoot]
    rw [List.filterMap_cons] at this
    exact this
  · cases hr with
    | head => exact hrow
    | tail _ hr => exact S2.mem.2 r (List.mem_cons_of_mem _ hr)
  · cases hr with
    | head => exact S2.org _ List.mem_cons_self b (by rw [hfoot] at hb; exact hb)
    | tail _ hr => exact S2.org r (List.mem_cons_of_mem _ hr) b hb
end Go.Vil
namespace Go.Proofs.Ytkfkcinkkgdebaa
open Go Go.RowKit Go.ChangeShapes Go.WideShapes Go.ChangeAt Go.Deep Go.Vil
set_option linter.unusedSimpArgs false
set_option linter.unusedVariables false
set_option maxRecDepth 100000

/-- The cells of a queue's parts, with its array as a slice. -/
def sParts (av : Value) (x : Qu) : List Value := [av, .bool x.full, .int .i64 x.cap, .int .i64 x.max, .int .i64 x.head, .int .i64 x.tail, .int .i64 x.count, .int .i64 x.right]
theorem find_item {x : Qu} {arr : List UInt8} (hr : x.Rep arr) {p : Nat × List UInt8} (hp : p ∈ x.items) : x.items.find? (fun q => (q.1 : Int) == (p.1 : Int)) = some p := by
  cases hf : x.items.find? (fun q => (q.1 : Int) == (p.1 : Int)) with
  | none => have := List.find?_eq_none.1 hf p hp; simp at this
  | some q =>
    have g1 := List.mem_of_find?_eq_some hf
    have g2 := List.find?_some hf
    simp only [beq_iff_eq] at g2
    have hk : q.1 = p.1 := by omega
    obtain ⟨qk, qp⟩ := q
    obtain ⟨pk, pp⟩ := p
    simp only at hk
    subst hk
    rw [item_one hr g1 hp]
theorem step_three {x : Qu} {arr : List UInt8} (hr : x.Rep arr) {p : Nat × List UInt8} (hp : p ∈ x.items) : qStep x ⟨3, [], (p.1 : Nat)⟩ = (x, ⟨0, 0, p.2⟩) := by
  unfold qStep
  simp only
  rw [if_neg (by decide), if_neg (by decide), if_neg (by decide), if_pos trivial, find_item hr hp]
theorem step_five (x : Qu) : qStep x ⟨5, [], 0⟩ = (x, ⟨0, x.count, []⟩) := by unfold qStep; simp
theorem items_count (x : Qu) : x.items.length = x.count := by unfold Qu.items Qu.count; simp
theorem step_peek {x : Qu} (hg : x.Good) {e : Nat × List UInt8} {l : List (Nat × List UInt8)} (h : x.items = e :: l) : qStep x ⟨2, [], 0⟩ = (x, ⟨0, 0, e.2⟩) ∧ qStep x ⟨1, [], 0⟩ = (x.pop, ⟨0, 0, e.2⟩) ∧ x.pop.items = l := by
  cases ho : x.old with
  | nil => rw [(items_nil hg).2 ho] at h; cases h
  | cons b m =>
    rw [items_cons ho] at h
    cases h
    exact ⟨by unfold qStep; simp [ho], by unfold qStep; simp [ho], rfl⟩
/-- A thing out of which a slice is read as bytes. -/
def Holds (r : Res) (av : Value) (arr : List UInt8) : Prop := (∃ oa c, av = .slice oa arr.length c) ∧ ∀ w, r.holds w → Src w 1 av arr.length (u8s arr)
theorem holds_blk (m : Nat) (arr sl : List UInt8) : Holds (.blk m (.cells (u8s (arr ++ sl)).toArray 5 (0, 0))) (.slice (some ⟨m, 0, none⟩) arr.length (arr.length + sl.length)) arr := by
  refine ⟨⟨_, _, rfl⟩, fun w h => ?_⟩
  have hM : Mem w [.blk m (.cells (u8s (arr ++ sl)).toArray 5 (0, 0))] := (Mem.nil w).cons h (by simp)
  have := (St.start hM).src8 (b := m) (o := 0) (m := arr.length) (c := arr.length + sl.length) (l := arr ++ sl) .head (by simp)
  rw [List.drop_zero, List.take_left] at this
  exact this
theorem holds_row {e : TypeId} {av : Value} {arr : List UInt8} {w : World} (h0 : (Res.row e 1 av arr.length (u8s arr)).holds w) : Holds (.row e 1 av arr.length (u8s arr)) av arr := by
  obtain ⟨oa, c, h, _⟩ := row_shape (by decide) h0
  exact ⟨⟨oa, c, h⟩, fun w' h' => Src.row h' (u8s_one _)⟩
/-- A step, with the array out of a thing. -/
theorem stepRow {x : Qu} {arr : List UInt8} {av : Value} {r : Res} (op : QOp) (oo : Option Addr) (n c : Nat) (w : World) (hH : Holds r av arr) (hw : r.holds w) (hr : x.Rep arr) (hc : x.cap ≤ 65536) (hm : x.max ≤ 262144)
    (ho : Src w 1 (.slice oo n c) n (u8s op.data)) (hoc : n ≤ c) (hn : n ≤ 65536) (hk : op.kind ≤ 9) (hl : qLegal x op) :
    Calls Try.prog 24 #[.agg (sParts av x).toArray, .agg #[.int .i64 op.kind, .slice oo n c, .int .i64 op.index]] w fun e w' =>
      ∃ (r2 : Res) (arr2 : List UInt8) (av2 dv : Value), e = .returned (.tuple #[.agg (sParts av2 (qStep x op).1).toArray, .agg #[.int .i64 (qStep x op).2.fault, .int .i64 (qStep x op).2.number, dv]]) ∧ Holds r2 av2 arr2 ∧ (qStep x op).1.Rep arr2 ∧
        St w [] w' [r2, .row 5 1 dv (qStep x op).2.data.length (u8s (qStep x op).2.data)] := by
  obtain ⟨⟨oa, ca, rfl⟩, hsrc⟩ := hH
  refine Calls.mono (quStep x arr oa oo ca n c op w hr hc hm (hsrc w hw) ho hoc hn hk hl) ?_
  rintro e w' ⟨m, arr2, sl2, dv, rfl, hr2, C⟩
  exact ⟨_, arr2, .slice (some ⟨m, 0, none⟩) arr2.length (arr2.length + sl2.length), dv, rfl, holds_blk m arr2 sl2, hr2, C⟩
def IsSl (v : Value) : Prop := ∃ oa n c, v = .slice oa n c
/-- The steps that the statement takes. -/
structure Steps (x : Qu) (av : Value) (r : Res) (e : Nat × List UInt8) (l : List (Nat × List UInt8)) : Prop where
  five : ∀ w, r.holds w → Calls Try.prog 24 #[.agg (sParts av x).toArray, .agg #[.int .i64 5, .slice none 0 0, .int .i64 0]] w fun en w' => ∃ (r2 : Res) (av2 dv : Value), en = .returned (.tuple #[.agg (sParts av2 x).toArray, .agg #[.int .i64 0, .int .i64 (e :: l).length, dv]]) ∧ IsSl av2 ∧ St w [] w' [r2, .row 5 1 dv 0 (u8s [])]
  two : ∀ w, r.holds w → Calls Try.prog 24 #[.agg (sParts av x).toArray, .agg #[.int .i64 2, .slice none 0 0, .int .i64 0]] w fun en w' => ∃ (r2 : Res) (av2 dv : Value), en = .returned (.tuple #[.agg (sParts av2 x).toArray, .agg #[.int .i64 0, .int .i64 0, dv]]) ∧ IsSl av2 ∧ St w [] w' [r2, .row 5 1 dv e.2.length (u8s e.2)]
  three : ∀ p ∈ e :: l, ∀ w, r.holds w → Calls Try.prog 24 #[.agg (sParts av x).toArray, .agg #[.int .i64 3, .slice none 0 0, .int .i64 (p.1 : Nat)]] w fun en w' => ∃ (r2 : Res) (av2 dv : Value), en = .returned (.tuple #[.agg (sParts av2 x).toArray, .agg #[.int .i64 0, .int .i64 0, dv]]) ∧ IsSl av2 ∧ St w [] w' [r2, .row 5 1 dv p.2.length (u8s p.2)]
  one : ∀ w, r.holds w → Calls Try.prog 24 #[.agg (sParts av x).toArray, .agg #[.int .i64 1, .slice none 0 0, .int .i64 0]] w fun en w' => ∃ (r2 : Res) (arr2 : List UInt8) (av2 dv : Value), en = .returned (.tuple #[.agg (sParts av2 x.pop).toArray, .agg #[.int .i64 0, .int .i64 0, dv]]) ∧ IsSl av2 ∧ Holds r2 av2 arr2 ∧ x.pop.Rep arr2 ∧ x.pop.items = l ∧ St w [] w' [r2, .row 5 1 dv e.2.length (u8s e.2)]
theorem legal_k {x : Qu} {k : Int} {i : Int} (h : k = 1 ∨ k = 2 ∨ k = 5) : qLegal x ⟨k, [], i⟩ := by
  refine ⟨by show 0 ≤ k; omega, by show k ≤ 9; omega, fun h => ?_, fun h => ?_, fun h => ?_⟩ <;> (exfalso; simp at h; omega)
theorem steps_of {x : Qu} {arr : List UInt8} {av : Value} {r : Res} {e : Nat × List UInt8} {l : List (Nat × List UInt8)} (hH : Holds r av arr) (hr : x.Rep arr) (hc : x.cap ≤ 65536) (hm : x.max ≤ 262144) (hi : x.items = e :: l) : Steps x av r e l := by
  obtain ⟨s2, s1, hp⟩ := step_peek ⟨arr, hr⟩ hi
  have hs5 := step_five x
  rw [← items_count, hi] at hs5
  refine ⟨fun w hw => ?_, fun w hw => ?_, fun p hp w hw => ?_, fun w hw => ?_⟩
  · have := stepRow ⟨5, [], 0⟩ none 0 0 w hH hw hr hc hm (Src.nil w 1 0) (Nat.le_refl _) (by omega) (by show (5 : Int) ≤ 9; omega) (legal_k (by omega))
    rw [hs5] at this
    refine Calls.mono this ?_
    rintro en w' ⟨r2, arr2, av2, dv, rfl, ⟨⟨q1, q2, rfl⟩, _⟩, _, C⟩
    exact ⟨r2, _, dv, rfl, ⟨_, _, _, rfl⟩, C⟩
  · have := stepRow ⟨2, [], 0⟩ none 0 0 w hH hw hr hc hm (Src.nil w 1 0) (Nat.le_refl _) (by omega) (by show (2 : Int) ≤ 9; omega) (legal_k (by omega))
    rw [s2] at this
    refine Calls.mono this ?_
    rintro en w' ⟨r2, arr2, av2, dv, rfl, ⟨⟨q1, q2, rfl⟩, _⟩, _, C⟩
    exact ⟨r2, _, dv, rfl, ⟨_, _, _, rfl⟩, C⟩
  · have hpx : p ∈ x.items := by rw [hi]; exact hp
    have := stepRow ⟨3, [], (p.1 : Nat)⟩ none 0 0 w hH hw hr hc hm (Src.nil w 1 0) (Nat.le_refl _) (by omega) (by show (3 : Int) ≤ 9; omega)
      ⟨by show (0 : Int) ≤ 3; omega, by show (3 : Int) ≤ 9; omega, fun h => (by exfalso; simp at h), fun _ => .inr ⟨p, hpx, rfl⟩, fun h => (by exfalso; simp at h)⟩
    rw [step_three hr hpx] at this
    refine Calls.mono this ?_
    rintro en w' ⟨r2, arr2, av2, dv, rfl, ⟨⟨q1, q2, rfl⟩, _⟩, _, C⟩
    exact ⟨r2, _, dv, rfl, ⟨_, _, _, rfl⟩, C⟩
  · have := stepRow ⟨1, [], 0⟩ none 0 0 w hH hw hr hc hm (Src.nil w 1 0) (Nat.le_refl _) (by omega) (by show (1 : Int) ≤ 9; omega) (legal_k (by omega))
    rw [s1] at this
    refine Calls.mono this ?_
    rintro en w' ⟨r2, arr2, av2, dv, rfl, hH2, hr2, C⟩
    have hsl : IsSl av2 := by obtain ⟨⟨q1, q2, h⟩, _⟩ := hH2; exact ⟨_, _, _, h⟩
    exact ⟨r2, arr2, av2, dv, rfl, hsl, hH2, hr2, hp, C⟩
/-- The step at the end. -/
theorem step_last {x : Qu} {arr : List UInt8} {av : Value} {r : Res} (hH : Holds r av arr) (hr : x.Rep arr) (hc : x.cap ≤ 65536) (hm : x.max ≤ 262144) (hi : x.items = []) (w : World) (hw : r.holds w) :
    Calls Try.prog 24 #[.agg (sParts av x).toArray, .agg #[.int .i64 1, .slice none 0 0, .int .i64 0]] w fun en w' => ∃ (r2 : Res) (av2 dv : Value), en = .returned (.tuple #[.agg (sParts av2 x).toArray, .agg #[.int .i64 1, .int .i64 0, dv]]) ∧ IsSl av2 ∧ St w [] w' [r2, .row 5 1 dv 0 (u8s [])] := by
  have := stepRow ⟨1, [], 0⟩ none 0 0 w hH hw hr hc hm (Src.nil w 1 0) (Nat.le_refl _) (by omega) (by show (1 : Int) ≤ 9; omega) (legal_k (by omega))
  have hs : qStep x ⟨1, [], 0⟩ = (x, ⟨1, 0, []⟩) := by
    have ho := (items_nil ⟨arr, hr⟩).1 hi
    unfold qStep; simp [ho]
  rw [hs] at this
  refine Calls.mono this ?_
  rintro en w' ⟨r2, arr2, av2, dv, rfl, ⟨⟨q1, q2, rfl⟩, _⟩, _, C⟩
  exact ⟨r2, _, dv, rfl, ⟨_, _, _, rfl⟩, C⟩

theorem pop_cap (x : Qu) : x.pop.cap = x.cap := by
  unfold Qu.pop
  split
  · rfl
  · split <;> rfl
theorem pop_max0 (x : Qu) : x.pop.max = x.max := by
  unfold Qu.pop
  split
  · rfl
  · split <;> rfl
set_option maxHeartbeats 12800000 in
theorem lawQueueLaid (gap spare : Int) (v u : Value) (lo ly : List (List UInt8)) (w : World) (h : Arr BytesV 1 w v lo) (h' : Arr BytesV 1 w u ly) :
    Calls Try.prog 8 #[v, u, .int .i64 gap, .int .i64 spare] w fun e w' => e = .returned (.bool true) ∧ Chg [] w w' := by
  have S := St.begin w
  replace h := hidden h
  replace h' := hidden h'
  refine Calls.cps ?_; intro R hR
  go_enter Try.func8, Try.ntmps8
  go_wp2_with (first | go_big_skip | ((with_reducible show Code.wp _ (Code.region _ _ true) _ _ _); refine St.regionLast S ?_; (repeat (first | (go_big_quiet_step (fail)) | (go_big_quiet_want; (first | refine quiet_ld S ?_ | refine quiet_ld8 S ?_ | refine quiet_ld0 ?_ | refine quiet_ldA S ?_ | refine quiet_b2sB S ?_ | refine quiet_b2sR S ?_ | refine quiet_ldc S ?_); go_big_quiet_on))); refine wpQuiet_nil ?_; clear S; intro wq S) | go_big_skip | (refine wpList_ld S ?_) | (refine wpList_ld8 S ?_) | (refine wpList_ld0 ?_) | (refine wpList_ldA S ?_) | (refine wpList_st8 S ?_; (clear S; intro ws S)) | (refine wpList_st S ?_; (clear S; intro ws S)) | (refine wpList_box S ?_; (clear S; intro nb wb hnb S)) | (refine wpList_alloc S ?_; (clear S; intro nb wb hnb S)) | (refine wpList_mk8 S ?_; (clear S; intro nb wb hnb S)) | (refine wpList_mk S ?_; (clear S; intro nb wb hnb S)) | (refine wpList_bs S ?_; (clear S; intro nb wb hnb S)) | (refine wpList_stA S ?_; (clear S; intro ws S; simp only [splice, List.take_zero, List.take_succ_cons, List.drop_succ_cons, List.drop_zero, List.drop_nil, List.length_cons, List.length_nil, Nat.reduceAdd, Nat.zero_add, List.nil_append, List.cons_append, List.append_nil] at S)) | (refine wpList_b2sB S ?_) | (refine wpList_b2sR S ?_) | (refine wpList_ldc S ?_))
  refine Calls.mono (fits3 v lo _ (h.out.on S.chg fun _ _ h => h.on S.chg)) ?_
  rintro e w2 ⟨b, rfl, hb, C⟩
  have S2 := S.call C; clear S C; simp only [List.cons_append, List.nil_append] at S2; have S := S2; clear S2
  cases b with
  | false =>
    go_wp2_with (first | go_big_skip | ((with_reducible show Code.wp _ (Code.region _ _ true) _ _ _); refine St.regionLast S ?_; (repeat (first | (go_big_quiet_step (fail)) | (go_big_quiet_want; (first | refine quiet_ld S ?_ | refine quiet_ld8 S ?_ | refine quiet_ld0 ?_ | refine quiet_ldA S ?_ | refine quiet_b2sB S ?_ | refine quiet_b2sR S ?_ | refine quiet_ldc S ?_); go_big_quiet_on))); refine wpQuiet_nil ?_; clear S; intro wq S) | go_big_skip | (refine wpList_ld S ?_) | (refine wpList_ld8 S ?_) | (refine wpList_ld0 ?_) | (refine wpList_ldA S ?_) | (refine wpList_st8 S ?_; (clear S; intro ws S)) | (refine wpList_st S ?_; (clear S; intro ws S)) | (refine wpList_box S ?_; (clear S; intro nb wb hnb S)) | (refine wpList_alloc S ?_; (clear S; intro nb wb hnb S)) | (refine wpList_mk8 S ?_; (clear S; intro nb wb hnb S)) | (refine wpList_mk S ?_; (clear S; intro nb wb hnb S)) | (refine wpList_bs S ?_; (clear S; intro nb wb hnb S)) | (refine wpList_stA S ?_; (clear S; intro ws S; simp only [splice, List.take_zero, List.take_succ_cons, List.drop_succ_cons, List.drop_zero, List.drop_nil, List.length_cons, List.length_nil, Nat.reduceAdd, Nat.zero_add, List.nil_append, List.cons_append, List.append_nil] at S)) | (refine wpList_b2sB S ?_) | (refine wpList_b2sR S ?_) | (refine wpList_ldc S ?_))
    ((first | go_ret | go_ret2 | go_ret3 | go_end0 | skip); refine hR.out _ _ ?_)
    exact ⟨rfl, S.chg⟩
  | true =>
    obtain ⟨hf1, hf2⟩ := hb rfl
    replace hf2 := hidden hf2
    clear hb
    go_wp2_with (first | go_big_skip | ((with_reducible show Code.wp _ (Code.region _ _ true) _ _ _); refine St.regionLast S ?_; (repeat (first | (go_big_quiet_step (fail)) | (go_big_quiet_want; (first | refine quiet_ld S ?_ | refine quiet_ld8 S ?_ | refine quiet_ld0 ?_ | refine quiet_ldA S ?_ | refine quiet_b2sB S ?_ | refine quiet_b2sR S ?_ | refine quiet_ldc S ?_); go_big_quiet_on))); refine wpQuiet_nil ?_; clear S; intro wq S) | go_big_skip | (refine wpList_ld S ?_) | (refine wpList_ld8 S ?_) | (refine wpList_ld0 ?_) | (refine wpList_ldA S ?_) | (refine wpList_st8 S ?_; (clear S; intro ws S)) | (refine wpList_st S ?_; (clear S; intro ws S)) | (refine wpList_box S ?_; (clear S; intro nb wb hnb S)) | (refine wpList_alloc S ?_; (clear S; intro nb wb hnb S)) | (refine wpList_mk8 S ?_; (clear S; intro nb wb hnb S)) | (refine wpList_mk S ?_; (clear S; intro nb wb hnb S)) | (refine wpList_bs S ?_; (clear S; intro nb wb hnb S)) | (refine wpList_stA S ?_; (clear S; intro ws S; simp only [splice, List.take_zero, List.take_succ_cons, List.drop_succ_cons, List.drop_zero, List.drop_nil, List.length_cons, List.length_nil, Nat.reduceAdd, Nat.zero_add, List.nil_append, List.cons_append, List.append_nil] at S)) | (refine wpList_b2sB S ?_) | (refine wpList_b2sR S ?_) | (refine wpList_ldc S ?_))
    refine Calls.mono (fits3 u ly _ (h'.out.on S.chg fun _ _ h => h.on S.chg)) ?_
    rintro e w2 ⟨b, rfl, hb, C⟩
    have S2 := S.call C; clear S C; simp only [List.cons_append, List.nil_append] at S2; have S := S2; clear S2
    cases b with
    | false =>
      go_wp2_with (first | go_big_skip | ((with_reducible show Code.wp _ (Code.region _ _ true) _ _ _); refine St.regionLast S ?_; (repeat (first | (go_big_quiet_step (fail)) | (go_big_quiet_want; (first | refine quiet_ld S ?_ | refine quiet_ld8 S ?_ | refine quiet_ld0 ?_ | refine quiet_ldA S ?_ | refine quiet_b2sB S ?_ | refine quiet_b2sR S ?_ | refine quiet_ldc S ?_); go_big_quiet_on))); refine wpQuiet_nil ?_; clear S; intro wq S) | go_big_skip | (refine wpList_ld S ?_) | (refine wpList_ld8 S ?_) | (refine wpList_ld0 ?_) | (refine wpList_ldA S ?_) | (refine wpList_st8 S ?_; (clear S; intro ws S)) | (refine wpList_st S ?_; (clear S; intro ws S)) | (refine wpList_box S ?_; (clear S; intro nb wb hnb S)) | (refine wpList_alloc S ?_; (clear S; intro nb wb hnb S)) | (refine wpList_mk8 S ?_; (clear S; intro nb wb hnb S)) | (refine wpList_mk S ?_; (clear S; intro nb wb hnb S)) | (refine wpList_bs S ?_; (clear S; intro nb wb hnb S)) | (refine wpList_stA S ?_; (clear S; intro ws S; simp only [splice, List.take_zero, List.take_succ_cons, List.drop_succ_cons, List.drop_zero, List.drop_nil, List.length_cons, List.length_nil, Nat.reduceAdd, Nat.zero_add, List.nil_append, List.cons_append, List.append_nil] at S)) | (refine wpList_b2sB S ?_) | (refine wpList_b2sR S ?_) | (refine wpList_ldc S ?_))
      ((first | go_ret | go_ret2 | go_ret3 | go_end0 | skip); refine hR.out _ _ ?_)
      exact ⟨rfl, S.chg⟩
    | true =>
      obtain ⟨hg1, hg2⟩ := hb rfl
      replace hg2 := hidden hg2
      clear hb
      go_wp2_with (first | go_big_skip | ((with_reducible show Code.wp _ (Code.region _ _ true) _ _ _); refine St.regionLast S ?_; (repeat (first | (go_big_quiet_step (fail)) | (go_big_quiet_want; (first | refine quiet_ld S ?_ | refine quiet_ld8 S ?_ | refine quiet_ld0 ?_ | refine quiet_ldA S ?_ | refine quiet_b2sB S ?_ | refine quiet_b2sR S ?_ | refine quiet_ldc S ?_); go_big_quiet_on))); refine wpQuiet_nil ?_; clear S; intro wq S) | go_big_skip | (refine wpList_ld S ?_) | (refine wpList_ld8 S ?_) | (refine wpList_ld0 ?_) | (refine wpList_ldA S ?_) | (refine wpList_st8 S ?_; (clear S; intro ws S)) | (refine wpList_st S ?_; (clear S; intro ws S)) | (refine wpList_box S ?_; (clear S; intro nb wb hnb S)) | (refine wpList_alloc S ?_; (clear S; intro nb wb hnb S)) | (refine wpList_mk8 S ?_; (clear S; intro nb wb hnb S)) | (refine wpList_mk S ?_; (clear S; intro nb wb hnb S)) | (refine wpList_bs S ?_; (clear S; intro nb wb hnb S)) | (refine wpList_stA S ?_; (clear S; intro ws S; simp only [splice, List.take_zero, List.take_succ_cons, List.drop_succ_cons, List.drop_zero, List.drop_nil, List.length_cons, List.length_nil, Nat.reduceAdd, Nat.zero_add, List.nil_append, List.cons_append, List.append_nil] at S)) | (refine wpList_b2sB S ?_) | (refine wpList_b2sR S ?_) | (refine wpList_ldc S ?_))
      refine Calls.mono (quFew v lo _ (h.out.on S.chg fun _ _ h => h.on S.chg) hf1 hf2.out) ?_
      rintro e w3 ⟨ov, rfl, hov, C⟩
      have S2 := S.call C; clear S C; simp only [List.cons_append, List.nil_append] at S2; have S := S2; clear S2
      replace hov := hidden hov
      go_wp2_with (first | go_big_skip | ((with_reducible show Code.wp _ (Code.region _ _ true) _ _ _); refine St.regionLast S ?_; (repeat (first | (go_big_quiet_step (fail)) | (go_big_quiet_want; (first | refine quiet_ld S ?_ | refine quiet_ld8 S ?_ | refine quiet_ld0 ?_ | refine quiet_ldA S ?_ | refine quiet_b2sB S ?_ | refine quiet_b2sR S ?_ | refine quiet_ldc S ?_); go_big_quiet_on))); refine wpQuiet_nil ?_; clear S; intro wq S) | go_big_skip | (refine wpList_ld S ?_) | (refine wpList_ld8 S ?_) | (refine wpList_ld0 ?_) | (refine wpList_ldA S ?_) | (refine wpList_st8 S ?_; (clear S; intro ws S)) | (refine wpList_st S ?_; (clear S; intro ws S)) | (refine wpList_box S ?_; (clear S; intro nb wb hnb S)) | (refine wpList_alloc S ?_; (clear S; intro nb wb hnb S)) | (refine wpList_mk8 S ?_; (clear S; intro nb wb hnb S)) | (refine wpList_mk S ?_; (clear S; intro nb wb hnb S)) | (refine wpList_bs S ?_; (clear S; intro nb wb hnb S)) | (refine wpList_stA S ?_; (clear S; intro ws S; simp only [splice, List.take_zero, List.take_succ_cons, List.drop_succ_cons, List.drop_zero, List.drop_nil, List.length_cons, List.length_nil, Nat.reduceAdd, Nat.zero_add, List.nil_append, List.cons_append, List.append_nil] at S)) | (refine wpList_b2sB S ?_) | (refine wpList_b2sR S ?_) | (refine wpList_ldc S ?_))
      refine Calls.mono (quFew u ly _ (h'.out.on S.chg fun _ _ h => h.on S.chg) hg1 hg2.out) ?_
      rintro e w4 ⟨yv, rfl, hyv, C⟩
      have hov2 := hidden (hov.out.on C.chg fun _ _ h => h.on C.chg)
      have S2 := S.call C; clear S C; simp only [List.cons_append, List.nil_append] at S2; have S := S2; clear S2
      replace hyv := hidden hyv
      have l1 := few_length lo
      have l2 := few_length ly
      have l3 := few_each lo
      have l4 := few_each ly
      clear h h' hov hf1 hf2 hg1 hg2
      generalize few lo = older at *
      generalize few ly = younger at *
      replace l3 := hidden l3
      replace l4 := hidden l4
      obtain ⟨oo, co, rfl, _⟩ := hov2.out.shape
      obtain ⟨oy, cy, rfl, _⟩ := hyv.out.shape
      have hchg := hidden S.chg
      clear S
      have S := St.begin w4
      by_cases hz : gap < 0 ∨ 100 < gap ∨ spare < 0 ∨ 100 < spare ∨ older.length = 0
      · replace hz := hidden hz
        go_upto_region 6 with (first | go_big_skip | go_big_skip | (refine wpList_ld S ?_) | (refine wpList_ld8 S ?_) | (refine wpList_ld0 ?_) | (refine wpList_ldA S ?_) | (refine wpList_st8 S ?_; (clear S; intro ws S)) | (refine wpList_st S ?_; (clear S; intro ws S)) | (refine wpList_box S ?_; (clear S; intro nb wb hnb S)) | (refine wpList_alloc S ?_; (clear S; intro nb wb hnb S)) | (refine wpList_mk8 S ?_; (clear S; intro nb wb hnb S)) | (refine wpList_mk S ?_; (clear S; intro nb wb hnb S)) | (refine wpList_bs S ?_; (clear S; intro nb wb hnb S)) | (refine wpList_stA S ?_; (clear S; intro ws S; simp only [splice, List.take_zero, List.take_succ_cons, List.drop_succ_cons, List.drop_zero, List.drop_nil, List.length_cons, List.length_nil, Nat.reduceAdd, Nat.zero_add, List.nil_append, List.cons_append, List.append_nil] at S)) | (refine wpList_b2sB S ?_) | (refine wpList_b2sR S ?_) | (refine wpList_ldc S ?_))
        all_goals first
          | (((first | go_ret | go_ret2 | go_ret3 | go_end0 | skip); refine hR.out _ _ ?_); exact ⟨rfl, hchg.out.trans S.chg⟩)
          | (exfalso; have hh : (((0 ≤ gap ∧ gap ≤ 100) ∧ 0 ≤ spare) ∧ spare ≤ 100) ∧ ((older.length : Int) == 0) = false := (by assumption); have h4 := hz.out; have h5 : (older.length : Int) ≠ 0 := (by simpa only [beq_eq_false_iff_ne, ne_eq] using hh.2); omega)
      · obtain ⟨gap, rfl⟩ := Int.eq_ofNat_of_zero_le (show 0 ≤ gap by omega)
        obtain ⟨spare, rfl⟩ := Int.eq_ofNat_of_zero_le (show 0 ≤ spare by omega)
        simp only [Int.ofNat_eq_natCast] at *
        have hgp : gap ≤ 100 := by omega
        have hsp : spare ≤ 100 := by omega
        have hne : older ≠ [] := fun h => hz (by rw [h]; simp)
        have hl0 : ((older.length : Int) == 0) = false := by (simp only [beq_eq_false_iff_ne, ne_eq]; omega)
        clear hz
        replace hne := hidden hne
        go_wp2_with (first | go_big_skip | go_big_skip | (refine wpList_ld S ?_) | (refine wpList_ld8 S ?_) | (refine wpList_ld0 ?_) | (refine wpList_ldA S ?_) | (refine wpList_st8 S ?_; (clear S; intro ws S)) | (refine wpList_st S ?_; (clear S; intro ws S)) | (refine wpList_box S ?_; (clear S; intro nb wb hnb S)) | (refine wpList_alloc S ?_; (clear S; intro nb wb hnb S)) | (refine wpList_mk8 S ?_; (clear S; intro nb wb hnb S)) | (refine wpList_mk S ?_; (clear S; intro nb wb hnb S)) | (refine wpList_bs S ?_; (clear S; intro nb wb hnb S)) | (refine wpList_stA S ?_; (clear S; intro ws S; simp only [splice, List.take_zero, List.take_succ_cons, List.drop_succ_cons, List.drop_zero, List.drop_nil, List.length_cons, List.length_nil, Nat.reduceAdd, Nat.zero_add, List.nil_append, List.cons_append, List.append_nil] at S)) | (refine wpList_b2sB S ?_) | (refine wpList_b2sR S ?_) | (refine wpList_ldc S ?_))
        refine Calls.mono (laid older younger oo oy co cy gap spare _ (hov2.out.on S.chg fun _ _ h => h.on S.chg) (hyv.out.on S.chg fun _ _ h => h.on S.chg) l1 l2 l3.out l4.out hgp hsp hne.out) ?_
        rintro e w5 ⟨av, ev, css, rfl, hE, C⟩
        have hrep := laid_rep l3.out l4.out gap spare hne.out
        have hcap : (laidQ older younger gap spare).cap ≤ 65536 := by
          have h1 := sz_es l3.out
          have h2 := sz_es l4.out
          show 1 + sz (es younger) + gap + sz (es older) + spare ≤ 65536
          omega
        have hmax : (laidQ older younger gap spare).max = 0 := rfl
        have hit : (laidQ older younger gap spare).items.length ≤ 24 := by rw [items_count]; show (es older).length + (es younger).length ≤ 24; simp [es]; omega
        have hid : ∀ p ∈ (laidQ older younger gap spare).items, p.2.length ≤ 200 := by
          intro p hp
          have hes : ∀ (l : List (List UInt8)), (∀ d ∈ l, d.length ≤ 200) → ∀ i, p ∈ places i (es l) → p.2.length ≤ 200 := by
            intro l hl i hp
            obtain ⟨_, b, hb, hb2, _⟩ := places_le hp
            obtain ⟨d, hd, rfl⟩ := List.mem_map.1 hb
            rw [← hb2]
            exact hl d hd
          rcases List.mem_append.1 hp with hp | hp
          · exact hes _ l3.out _ hp
          · exact hes _ l4.out _ hp
        generalize laidQ older younger gap spare = x0 at *
        generalize laidA older younger gap spare = arr0 at *
        replace hmax := hidden hmax
        have hH := hidden (holds_row (C.mem.2 _ List.mem_cons_self))
        replace hE := hidden hE
        replace hrep := hidden hrep
        replace hid := hidden hid
        have hchg2 := hidden (hchg.out.trans S.chg)
        obtain ⟨oA, cA, rfl, _, _⟩ := C.rowSlice (hp := .head)
        obtain ⟨ol, cl, rfl, hcl, _⟩ := row_shape (by decide) (C.mem.2 _ (List.mem_cons_of_mem _ List.mem_cons_self))
        clear S
        have S := C.toORow (.tail .head)
        clear C
        generalize hr0 : Res.row 5 1 (.slice oA arr0.length cA) arr0.length (u8s arr0) = r0 at *
        clear hr0
        go_wp2_with (first | go_big_skip | go_big_skip | (refine wpList_ld S ?_) | (refine wpList_ld8 S ?_) | (refine wpList_ld0 ?_) | (refine wpList_ldA S ?_) | (refine wpList_st8 S ?_; (clear S; intro ws S)) | (refine wpList_st S ?_; (clear S; intro ws S)) | (refine wpList_box S ?_; (clear S; intro nb wb hnb S)) | (refine wpList_alloc S ?_; (clear S; intro nb wb hnb S)) | (refine wpList_mk8 S ?_; (clear S; intro nb wb hnb S)) | (refine wpList_mk S ?_; (clear S; intro nb wb hnb S)) | (refine wpList_bs S ?_; (clear S; intro nb wb hnb S)) | (refine wpList_stA S ?_; (clear S; intro ws S; simp only [splice, List.take_zero, List.take_succ_cons, List.drop_succ_cons, List.drop_zero, List.drop_nil, List.length_cons, List.length_nil, Nat.reduceAdd, Nat.zero_add, List.nil_append, List.cons_append, List.append_nil] at S)) | (refine wpList_b2sB S ?_) | (refine wpList_b2sR S ?_) | (refine wpList_ldc S ?_))
        rename Nat => b9
        go_loopg [10] x0.items.length (fun g lv wr => ∃ (x : Qu) (arr : List UInt8) (av : Value) (r : Res) (css : List (List Value)), Hid (x.items.length = g) ∧ IsSl av ∧ Hid (Holds r av arr ∧ x.Rep arr ∧ x.cap ≤ 65536 ∧ x.max = 0 ∧ ∀ p ∈ x.items, p.2.length ≤ 200) ∧ x.items.length ≤ 24 ∧
          Hid (Ents w4 x.items css) ∧ St w4 [] wr [.orow 41 2 lv x.items.length css.flatten, .blk b9 (.cells [av, .bool x.full, .int .i64 x.cap, .int .i64 x.max, .int .i64 x.head, .int .i64 x.tail, .int .i64 x.count, .int .i64 x.right].toArray 51 (0, 0)), r])
        case atStart =>
          refine ⟨x0, arr0, .slice oA arr0.length cA, r0, css, hidden rfl, ⟨_, _, _, rfl⟩, hidden ⟨hH.out, hrep.out, hcap, hmax.out, hid.out⟩, hit, hE, ?_⟩
          rw [hmax.out]
          exact S.sel (by repeat (first | exact Sel.nil | (apply Sel.cons; (repeat (first | exact Pull.head | apply Pull.tail)))))
        case round =>
          clear S hE hrep hH hid hmax hcap
          obtain ⟨x, arr, av, r, css, hg, ⟨q1, q2, q3, rfl⟩, hinv, hit, hE, S⟩ := hrel
          obtain ⟨ol, cl, rfl, hcl⟩ := S.orowShape .head
          obtain ⟨hH, hrep, hcap, hmax, hid⟩ := hinv.out
          have hchg3 := hidden S.chg
          cases hi : x.items with
          | nil =>
            have hlast := hidden (step_last hH hrep hcap (by omega) hi)
            rw [hi] at S
            clear hinv hH hrep hcap hmax hid hE hg hit hcl
            simp only [List.length_nil] at S
            go_wp2_with (first | go_big_skip | go_big_skip | (refine wpList_ld S ?_) | (refine wpList_ld8 S ?_) | (refine wpList_ld0 ?_) | (refine wpList_ldA S ?_) | (refine wpList_st8 S ?_; (clear S; intro ws S)) | (refine wpList_st S ?_; (clear S; intro ws S)) | (refine wpList_box S ?_; (clear S; intro nb wb hnb S)) | (refine wpList_alloc S ?_; (clear S; intro nb wb hnb S)) | (refine wpList_mk8 S ?_; (clear S; intro nb wb hnb S)) | (refine wpList_mk S ?_; (clear S; intro nb wb hnb S)) | (refine wpList_bs S ?_; (clear S; intro nb wb hnb S)) | (refine wpList_stA S ?_; (clear S; intro ws S; simp only [splice, List.take_zero, List.take_succ_cons, List.drop_succ_cons, List.drop_zero, List.drop_nil, List.length_cons, List.length_nil, Nat.reduceAdd, Nat.zero_add, List.nil_append, List.cons_append, List.append_nil] at S)) | (refine wpList_b2sB S ?_) | (refine wpList_b2sR S ?_) | (refine wpList_ldc S ?_))
            refine Calls.mono (hlast.out _ (S.mem.2 r (by repeat (first | exact List.mem_cons_self | apply List.mem_cons_of_mem)))) ?_
            rintro e w6 ⟨r2, av2, dv, rfl, ⟨s1, s2, s3, rfl⟩, C⟩
            have S2 := S.call C; clear S C; simp only [List.cons_append, List.nil_append] at S2; have S := S2; clear S2
            obtain ⟨a3, c3, rfl, _, _⟩ := S.rowSlice (hp := Pull.tail Pull.head)
            unfold sParts
            go_wp2_with (first | go_big_skip | go_big_skip | (refine wpList_ld S ?_) | (refine wpList_ld8 S ?_) | (refine wpList_ld0 ?_) | (refine wpList_ldA S ?_) | (refine wpList_st8 S ?_; (clear S; intro ws S)) | (refine wpList_st S ?_; (clear S; intro ws S)) | (refine wpList_box S ?_; (clear S; intro nb wb hnb S)) | (refine wpList_alloc S ?_; (clear S; intro nb wb hnb S)) | (refine wpList_mk8 S ?_; (clear S; intro nb wb hnb S)) | (refine wpList_mk S ?_; (clear S; intro nb wb hnb S)) | (refine wpList_bs S ?_; (clear S; intro nb wb hnb S)) | (refine wpList_stA S ?_; (clear S; intro ws S; simp only [splice, List.take_zero, List.take_succ_cons, List.drop_succ_cons, List.drop_zero, List.drop_nil, List.length_cons, List.length_nil, Nat.reduceAdd, Nat.zero_add, List.nil_append, List.cons_append, List.append_nil] at S)) | (refine wpList_b2sB S ?_) | (refine wpList_b2sR S ?_) | (refine wpList_ldc S ?_))
            refine Calls.mono (quLives _) ?_
            rintro e w7 ⟨rfl, C⟩
            have S2 := S.call C; clear S C; simp only [List.cons_append, List.nil_append] at S2; have S := S2; clear S2
            go_wp2_with (first | go_big_skip | ((with_reducible show Code.wp _ (Code.region _ _ true) _ _ _); refine St.regionLast S ?_; (repeat (first | (go_big_quiet_step (fail)) | (go_big_quiet_want; (first | refine quiet_ld S ?_ | refine quiet_ld8 S ?_ | refine quiet_ld0 ?_ | refine quiet_ldA S ?_ | refine quiet_b2sB S ?_ | refine quiet_b2sR S ?_ | refine quiet_ldc S ?_); go_big_quiet_on))); refine wpQuiet_nil ?_; clear S; intro wq S) | go_big_skip | (refine wpList_ld S ?_) | (refine wpList_ld8 S ?_) | (refine wpList_ld0 ?_) | (refine wpList_ldA S ?_) | (refine wpList_st8 S ?_; (clear S; intro ws S)) | (refine wpList_st S ?_; (clear S; intro ws S)) | (refine wpList_box S ?_; (clear S; intro nb wb hnb S)) | (refine wpList_alloc S ?_; (clear S; intro nb wb hnb S)) | (refine wpList_mk8 S ?_; (clear S; intro nb wb hnb S)) | (refine wpList_mk S ?_; (clear S; intro nb wb hnb S)) | (refine wpList_bs S ?_; (clear S; intro nb wb hnb S)) | (refine wpList_stA S ?_; (clear S; intro ws S; simp only [splice, List.take_zero, List.take_succ_cons, List.drop_succ_cons, List.drop_zero, List.drop_nil, List.length_cons, List.length_nil, Nat.reduceAdd, Nat.zero_add, List.nil_append, List.cons_append, List.append_nil] at S)) | (refine wpList_b2sB S ?_) | (refine wpList_b2sR S ?_) | (refine wpList_ldc S ?_))
            ((first | go_ret | go_ret2 | go_ret3 | go_end0 | skip); refine hR.out _ _ ?_)
            exact ⟨rfl, hchg2.out.trans S.chg⟩
          | cons p l =>
            have hst := hidden (steps_of hH hrep hcap (by omega) hi)
            have hmax2 := hidden hmax
            rw [hi] at S hE hit hid hg hcl
            clear hinv hH hrep hmax
            obtain ⟨N, hN⟩ : ∃ N, (p :: l).length = N := ⟨_, rfl⟩
            have hN1 : 1 ≤ N := by rw [← hN]; simp
            obtain ⟨h5, h2, h3, h1⟩ := hst.out
            rw [hN] at S hcl hit hg h5 ⊢
            have hbN : ((N : Int) != (N : Int)) = false := bne_self_eq_false _
            clear hst
            replace h5 := hidden h5
            replace h2 := hidden h2
            replace h3 := hidden h3
            replace h1 := hidden h1
            replace hN := hidden hN
            replace hid := hidden hid
            replace hi := hidden hi
            have hp200 : p.2.length ≤ 200 := hid.out p List.mem_cons_self
            have hone := hidden hE.out.one
            obtain ⟨ob, cb, csm, rfl, hsb, hcb, hEm⟩ : ∃ ob cb csm, css = [.int .i64 (p.1 : Nat), .slice ob p.2.length cb] :: csm ∧ Src w4 1 (.slice ob p.2.length cb) p.2.length (u8s p.2) ∧ p.2.length ≤ cb ∧ Ents w4 l csm := by
              have h := hE.out
              unfold Ents at h
              cases css with
              | nil => exact absurd h (by simp [Each])
              | cons cs csm =>
                obtain ⟨⟨⟨oa, c, rfl, e1, e2⟩, _⟩, e4⟩ := h
                exact ⟨oa, c, csm, rfl, e1, e2, e4⟩
            obtain ⟨ad, rfl⟩ : ∃ ad, ol = some ad := by
              cases ol with
              | some ad => exact ⟨ad, rfl⟩
              | none => have := ((S.orowSrc .head hone.out).2.2 : _ ∧ _).2; simp at this
            replace hsb := hidden hsb
            replace hEm := hidden hEm
            go_wp2_with (first | go_big_skip | go_big_skip | (refine wpList_ld S ?_) | (refine wpList_ld8 S ?_) | (refine wpList_ld0 ?_) | (refine wpList_ldA S ?_) | (refine wpList_st8 S ?_; (clear S; intro ws S)) | (refine wpList_st S ?_; (clear S; intro ws S)) | (refine wpList_box S ?_; (clear S; intro nb wb hnb S)) | (refine wpList_alloc S ?_; (clear S; intro nb wb hnb S)) | (refine wpList_mk8 S ?_; (clear S; intro nb wb hnb S)) | (refine wpList_mk S ?_; (clear S; intro nb wb hnb S)) | (refine wpList_bs S ?_; (clear S; intro nb wb hnb S)) | (refine wpList_stA S ?_; (clear S; intro ws S; simp only [splice, List.take_zero, List.take_succ_cons, List.drop_succ_cons, List.drop_zero, List.drop_nil, List.length_cons, List.length_nil, Nat.reduceAdd, Nat.zero_add, List.nil_append, List.cons_append, List.append_nil] at S)) | (refine wpList_b2sB S ?_) | (refine wpList_b2sR S ?_) | (refine wpList_ldc S ?_))
            refine Calls.mono (h5.out _ (S.mem.2 r (by repeat (first | exact List.mem_cons_self | apply List.mem_cons_of_mem)))) ?_
            rintro e w6 ⟨r5, av5, dv5, rfl, ⟨s1, s2, s3, rfl⟩, C⟩
            have S2 := S.call C; clear S C; simp only [List.cons_append, List.nil_append] at S2; have S := S2; clear S2
            obtain ⟨a5, c5, rfl, _, _⟩ := S.rowSlice (hp := Pull.tail Pull.head)
            unfold sParts
            go_wp2_with (first | go_big_skip | go_big_skip | (refine wpList_ld S ?_) | (refine wpList_ld8 S ?_) | (refine wpList_ld0 ?_) | (refine wpList_ldA S ?_) | (refine wpList_st8 S ?_; (clear S; intro ws S)) | (refine wpList_st S ?_; (clear S; intro ws S)) | (refine wpList_box S ?_; (clear S; intro nb wb hnb S)) | (refine wpList_alloc S ?_; (clear S; intro nb wb hnb S)) | (refine wpList_mk8 S ?_; (clear S; intro nb wb hnb S)) | (refine wpList_mk S ?_; (clear S; intro nb wb hnb S)) | (refine wpList_bs S ?_; (clear S; intro nb wb hnb S)) | (refine wpList_stA S ?_; (clear S; intro ws S; simp only [splice, List.take_zero, List.take_succ_cons, List.drop_succ_cons, List.drop_zero, List.drop_nil, List.length_cons, List.length_nil, Nat.reduceAdd, Nat.zero_add, List.nil_append, List.cons_append, List.append_nil] at S)) | (refine wpList_b2sB S ?_) | (refine wpList_b2sR S ?_) | (refine wpList_ldc S ?_))
            refine Calls.mono (h2.out _ (S.mem.2 r (by repeat (first | exact List.mem_cons_self | apply List.mem_cons_of_mem)))) ?_
            rintro e w6 ⟨r6, av6, dv6, rfl, ⟨s4, s5, s6, rfl⟩, C⟩
            have S2 := S.call C; clear S C; simp only [List.cons_append, List.nil_append] at S2; have S := S2; clear S2
            obtain ⟨a6, c6, rfl, _, _⟩ := S.rowSlice (hp := Pull.tail Pull.head)
            unfold sParts
            go_upto_region 10 with (first | go_big_skip | go_big_skip | (refine wpList_ld S ?_) | (refine wpList_ld8 S ?_) | (refine wpList_ld0 ?_) | (refine wpList_ldA S ?_) | (refine wpList_st8 S ?_; (clear S; intro ws S)) | (refine wpList_st S ?_; (clear S; intro ws S)) | (refine wpList_box S ?_; (clear S; intro nb wb hnb S)) | (refine wpList_alloc S ?_; (clear S; intro nb wb hnb S)) | (refine wpList_mk8 S ?_; (clear S; intro nb wb hnb S)) | (refine wpList_mk S ?_; (clear S; intro nb wb hnb S)) | (refine wpList_bs S ?_; (clear S; intro nb wb hnb S)) | (refine wpList_stA S ?_; (clear S; intro ws S; simp only [splice, List.take_zero, List.take_succ_cons, List.drop_succ_cons, List.drop_zero, List.drop_nil, List.length_cons, List.length_nil, Nat.reduceAdd, Nat.zero_add, List.nil_append, List.cons_append, List.append_nil] at S)) | (refine wpList_b2sB S ?_) | (refine wpList_b2sR S ?_) | (refine wpList_ldc S ?_))
            have hs6 := hidden (S.rowSrc (v := .slice a6 p.2.length c6) (l := p.2))
            refine St.regionG S 25 [([0, 1, 2, 3, 4, 5, 6, 7, 8, 9, 10, 11, 12, 13, 14, 15, 16, 17, 18, 19, 20, 21], 22)] [23, 24] ?_
            clear S; intro wr2 S; simp only [walkSt, pick, List.getElem?_cons_succ, List.getElem?_cons_zero, List.drop_succ_cons, List.drop_zero]
            (repeat (first | (go_big_quiet_want; (refine quiet_ldO S 1 ?_ (v := .slice ob p.2.length cb) rfl rfl); go_big_quiet_on) | (first | (go_big_quiet_step (fail)) | (go_big_quiet_want; (first | refine quiet_ld S ?_ | refine quiet_ld8 S ?_ | refine quiet_ld0 ?_ | refine quiet_ldA S ?_ | refine quiet_b2sB S ?_ | refine quiet_b2sR S ?_ | refine quiet_ldc S ?_); go_big_quiet_on))))
            refine wpQuiet_nil ?_
            go_wp2_with fail
            refine Calls.mono (sameBytes (.bool true) (.bool true) p.2 p.2 a6 ob c6 cb _ (S.rowSrc (v := .slice a6 p.2.length c6) (l := p.2)) (hsb.out.on S.chg) (by omega)) ?_
            clear hs6
            rintro e2 w7 ⟨rfl, C⟩
            have hbt : decide (p.2 = p.2) = true := by simp
            rw [hbt]
            clear hbt
            have S2 := S.call C; clear S C; simp only [List.cons_append, List.nil_append] at S2; have S := S2; clear S2
            go_wp2_with fail
            refine ⟨_, S, Sel.refl _, ?_⟩; (repeat (first | (go_big_quiet_step (fail)) | (go_big_quiet_want; (first | refine quiet_ld S ?_ | refine quiet_ld8 S ?_ | refine quiet_ld0 ?_ | refine quiet_ldA S ?_ | refine quiet_b2sB S ?_ | refine quiet_b2sR S ?_ | refine quiet_ldc S ?_); go_big_quiet_on))); refine wpQuiet_nil ?_
            go_wp2_with (first | go_big_skip | go_big_skip | (refine wpList_ld S ?_) | (refine wpList_ld8 S ?_) | (refine wpList_ld0 ?_) | (refine wpList_ldA S ?_) | (refine wpList_st8 S ?_; (clear S; intro ws S)) | (refine wpList_st S ?_; (clear S; intro ws S)) | (refine wpList_box S ?_; (clear S; intro nb wb hnb S)) | (refine wpList_alloc S ?_; (clear S; intro nb wb hnb S)) | (refine wpList_mk8 S ?_; (clear S; intro nb wb hnb S)) | (refine wpList_mk S ?_; (clear S; intro nb wb hnb S)) | (refine wpList_bs S ?_; (clear S; intro nb wb hnb S)) | (refine wpList_stA S ?_; (clear S; intro ws S; simp only [splice, List.take_zero, List.take_succ_cons, List.drop_succ_cons, List.drop_zero, List.drop_nil, List.length_cons, List.length_nil, Nat.reduceAdd, Nat.zero_add, List.nil_append, List.cons_append, List.append_nil] at S)) | (refine wpList_b2sB S ?_) | (refine wpList_b2sR S ?_) | (refine wpList_ldc S ?_))
            have S := S.sel (rs := [.orow 41 2 (.slice (some ad) N cl) N ([Value.int .i64 (p.1 : Nat), .slice ob p.2.length cb] :: csm).flatten, .blk b9 (.cells [.slice q1 q2 q3, .bool x.full, .int .i64 x.cap, .int .i64 x.max, .int .i64 x.head, .int .i64 x.tail, .int .i64 x.count, .int .i64 x.right].toArray 51 (0, 0)), r]) (by repeat (first | exact Sel.nil | (apply Sel.cons; (repeat (first | exact Pull.head | apply Pull.tail)))))
            go_loopg [16, 17, 18, 104] N (fun g x16 x17 x18 i wr => ∃ k : Nat, Hid (k + g = N) ∧ i = .int .i64 k ∧ k ≤ N ∧
              St w4 [] wr [.orow 41 2 (.slice (some ad) N cl) N ([Value.int .i64 (p.1 : Nat), .slice ob p.2.length cb] :: csm).flatten, .blk b9 (.cells [.slice q1 q2 q3, .bool x.full, .int .i64 x.cap, .int .i64 x.max, .int .i64 x.head, .int .i64 x.tail, .int .i64 x.count, .int .i64 x.right].toArray 51 (0, 0)), r])
            case atStart => exact ⟨0, hidden (by omega), rfl, Nat.zero_le _, S⟩
            case round =>
              clear S
              obtain ⟨k, hg2, rfl, hkN, S⟩ := hrel
              by_cases hlt : k < N
              · obtain ⟨e, he⟩ : ∃ e, (p :: l)[k]? = some e := ⟨_, List.getElem?_eq_getElem (by rw [hN.out]; exact hlt)⟩
                have hmem := List.mem_of_getElem? he
                have he200 := hid.out e hmem
                obtain ⟨cs, hcs, ⟨oe, ce, rfl, hse, hce⟩, _⟩ := hE.out.get k e he
                have hx := hidden (fun (j : Nat) v (hv : [Value.int .i64 (e.1 : Nat), .slice oe e.2.length ce][j]? = some v) => (show ([Value.int .i64 (p.1 : Nat), .slice ob p.2.length cb] :: csm).flatten[k * 2 + j]? = some v by
                  rw [flat_get (Each.sizes hE.out) k _ j hcs (by have := (List.getElem?_eq_some_iff.1 hv).1; simpa using this)]
                  exact hv))
                have h3e := hidden (h3.out e hmem)
                replace hse := hidden hse
                clear he hcs hmem
                go_wp2_with (first | go_big_skip | (refine wpList_ldOk S k ?_ (cs := [.int .i64 (e.1 : Nat), .slice oe e.2.length ce]) rfl hx.out rfl) | go_big_skip | (refine wpList_ld S ?_) | (refine wpList_ld8 S ?_) | (refine wpList_ld0 ?_) | (refine wpList_ldA S ?_) | (refine wpList_st8 S ?_; (clear S; intro ws S)) | (refine wpList_st S ?_; (clear S; intro ws S)) | (refine wpList_box S ?_; (clear S; intro nb wb hnb S)) | (refine wpList_alloc S ?_; (clear S; intro nb wb hnb S)) | (refine wpList_mk8 S ?_; (clear S; intro nb wb hnb S)) | (refine wpList_mk S ?_; (clear S; intro nb wb hnb S)) | (refine wpList_bs S ?_; (clear S; intro nb wb hnb S)) | (refine wpList_stA S ?_; (clear S; intro ws S; simp only [splice, List.take_zero, List.take_succ_cons, List.drop_succ_cons, List.drop_zero, List.drop_nil, List.length_cons, List.length_nil, Nat.reduceAdd, Nat.zero_add, List.nil_append, List.cons_append, List.append_nil] at S)) | (refine wpList_b2sB S ?_) | (refine wpList_b2sR S ?_) | (refine wpList_ldc S ?_))
                refine Calls.mono (h3e.out _ (S.mem.2 r (by repeat (first | exact List.mem_cons_self | apply List.mem_cons_of_mem)))) ?_
                rintro en w6 ⟨r7, av7, dv7, rfl, ⟨t4, t5, t6, rfl⟩, C⟩
                have S2 := S.call C; clear S C; simp only [List.cons_append, List.nil_append] at S2; have S := S2; clear S2
                obtain ⟨a7, c7, rfl, _, _⟩ := S.rowSlice (hp := Pull.tail Pull.head)
                unfold sParts
                go_wp2_with (first | go_big_skip | go_big_skip | (refine wpList_ld S ?_) | (refine wpList_ld8 S ?_) | (refine wpList_ld0 ?_) | (refine wpList_ldA S ?_) | (refine wpList_st8 S ?_; (clear S; intro ws S)) | (refine wpList_st S ?_; (clear S; intro ws S)) | (refine wpList_box S ?_; (clear S; intro nb wb hnb S)) | (refine wpList_alloc S ?_; (clear S; intro nb wb hnb S)) | (refine wpList_mk8 S ?_; (clear S; intro nb wb hnb S)) | (refine wpList_mk S ?_; (clear S; intro nb wb hnb S)) | (refine wpList_bs S ?_; (clear S; intro nb wb hnb S)) | (refine wpList_stA S ?_; (clear S; intro ws S; simp only [splice, List.take_zero, List.take_succ_cons, List.drop_succ_cons, List.drop_zero, List.drop_nil, List.length_cons, List.length_nil, Nat.reduceAdd, Nat.zero_add, List.nil_append, List.cons_append, List.append_nil] at S)) | (refine wpList_b2sB S ?_) | (refine wpList_b2sR S ?_) | (refine wpList_ldc S ?_))
                refine Calls.mono (sameBytes (.bool true) (.bool true) e.2 e.2 a7 oe c7 ce _ (S.rowSrc (v := .slice a7 e.2.length c7) (l := e.2)) (hse.out.on S.chg) (by omega)) ?_
                rintro e2 w7 ⟨rfl, C⟩
                have hbt : decide (e.2 = e.2) = true := by simp
                rw [hbt]
                clear hbt
                have S2 := S.call C; clear S C; simp only [List.cons_append, List.nil_append] at S2; have S := S2; clear S2
                go_wp2_with (first | go_big_skip | go_big_skip | (refine wpList_ld S ?_) | (refine wpList_ld8 S ?_) | (refine wpList_ld0 ?_) | (refine wpList_ldA S ?_) | (refine wpList_st8 S ?_; (clear S; intro ws S)) | (refine wpList_st S ?_; (clear S; intro ws S)) | (refine wpList_box S ?_; (clear S; intro nb wb hnb S)) | (refine wpList_alloc S ?_; (clear S; intro nb wb hnb S)) | (refine wpList_mk8 S ?_; (clear S; intro nb wb hnb S)) | (refine wpList_mk S ?_; (clear S; intro nb wb hnb S)) | (refine wpList_bs S ?_; (clear S; intro nb wb hnb S)) | (refine wpList_stA S ?_; (clear S; intro ws S; simp only [splice, List.take_zero, List.take_succ_cons, List.drop_succ_cons, List.drop_zero, List.drop_nil, List.length_cons, List.length_nil, Nat.reduceAdd, Nat.zero_add, List.nil_append, List.cons_append, List.append_nil] at S)) | (refine wpList_b2sB S ?_) | (refine wpList_b2sR S ?_) | (refine wpList_ldc S ?_))
                go_roundg (gk - 1)
                case measure => have := hg2.out; omega
                case rel => exact ⟨k + 1, hidden (by have := hg2.out; omega), by go_num, by omega, S.sel (by repeat (first | exact Sel.nil | (apply Sel.cons; (repeat (first | exact Pull.head | apply Pull.tail)))))⟩
              · have hkl : k = N := by omega
                subst hkl
                clear hlt hkN hg2
                go_wp2_with (first | go_big_skip | go_big_skip | (refine wpList_ld S ?_) | (refine wpList_ld8 S ?_) | (refine wpList_ld0 ?_) | (refine wpList_ldA S ?_) | (refine wpList_st8 S ?_; (clear S; intro ws S)) | (refine wpList_st S ?_; (clear S; intro ws S)) | (refine wpList_box S ?_; (clear S; intro nb wb hnb S)) | (refine wpList_alloc S ?_; (clear S; intro nb wb hnb S)) | (refine wpList_mk8 S ?_; (clear S; intro nb wb hnb S)) | (refine wpList_mk S ?_; (clear S; intro nb wb hnb S)) | (refine wpList_bs S ?_; (clear S; intro nb wb hnb S)) | (refine wpList_stA S ?_; (clear S; intro ws S; simp only [splice, List.take_zero, List.take_succ_cons, List.drop_succ_cons, List.drop_zero, List.drop_nil, List.length_cons, List.length_nil, Nat.reduceAdd, Nat.zero_add, List.nil_append, List.cons_append, List.append_nil] at S)) | (refine wpList_b2sB S ?_) | (refine wpList_b2sR S ?_) | (refine wpList_ldc S ?_))
                refine Calls.mono (h1.out _ (S.mem.2 r (by repeat (first | exact List.mem_cons_self | apply List.mem_cons_of_mem)))) ?_
                rintro en w6 ⟨r8, arr8, av8, dv8, rfl, ⟨t4, t5, t6, rfl⟩, hH8, hr8, hi8, C⟩
                have S2 := S.call C; clear S C; simp only [List.cons_append, List.nil_append] at S2; have S := S2; clear S2
                obtain ⟨a8, c8, rfl, _, _⟩ := S.rowSlice (hp := Pull.tail Pull.head)
                have hcap8 : x.pop.cap ≤ 65536 := by rw [pop_cap]; exact hcap
                have hmax8 := hidden (show x.pop.max = 0 by rw [pop_max0]; exact hmax2.out)
                generalize x.pop = x8 at *
                replace hH8 := hidden hH8
                replace hr8 := hidden hr8
                replace hi8 := hidden hi8
                unfold sParts
                go_upto_region 20 with (first | go_big_skip | go_big_skip | (refine wpList_ld S ?_) | (refine wpList_ld8 S ?_) | (refine wpList_ld0 ?_) | (refine wpList_ldA S ?_) | (refine wpList_st8 S ?_; (clear S; intro ws S)) | (refine wpList_st S ?_; (clear S; intro ws S)) | (refine wpList_box S ?_; (clear S; intro nb wb hnb S)) | (refine wpList_alloc S ?_; (clear S; intro nb wb hnb S)) | (refine wpList_mk8 S ?_; (clear S; intro nb wb hnb S)) | (refine wpList_mk S ?_; (clear S; intro nb wb hnb S)) | (refine wpList_bs S ?_; (clear S; intro nb wb hnb S)) | (refine wpList_stA S ?_; (clear S; intro ws S; simp only [splice, List.take_zero, List.take_succ_cons, List.drop_succ_cons, List.drop_zero, List.drop_nil, List.length_cons, List.length_nil, Nat.reduceAdd, Nat.zero_add, List.nil_append, List.cons_append, List.append_nil] at S)) | (refine wpList_b2sB S ?_) | (refine wpList_b2sR S ?_) | (refine wpList_ldc S ?_))
                rename Nat => b20
                refine St.regionG S 13 [([0, 1, 2, 3, 4, 5, 6, 7, 8, 9], 10)] [11, 12] ?_
                clear S; intro wr2 S; simp only [walkSt, pick, List.getElem?_cons_succ, List.getElem?_cons_zero, List.drop_succ_cons, List.drop_zero]
                (repeat (first | (go_big_quiet_want; (refine quiet_ldO S 1 ?_ (v := .slice ob p.2.length cb) rfl rfl); go_big_quiet_on) | (first | (go_big_quiet_step (fail)) | (go_big_quiet_want; (first | refine quiet_ld S ?_ | refine quiet_ld8 S ?_ | refine quiet_ld0 ?_ | refine quiet_ldA S ?_ | refine quiet_b2sB S ?_ | refine quiet_b2sR S ?_ | refine quiet_ldc S ?_); go_big_quiet_on))))
                refine wpQuiet_nil ?_
                go_wp2_with fail
                refine Calls.mono (sameBytes (.bool true) (.bool true) p.2 p.2 a8 ob c8 cb _ (S.rowSrc (v := .slice a8 p.2.length c8) (l := p.2)) (hsb.out.on S.chg) (by omega)) ?_
                rintro e2 w7 ⟨rfl, C⟩
                have hbt : decide (p.2 = p.2) = true := by simp
                rw [hbt]
                clear hbt
                have S2 := S.call C; clear S C; simp only [List.cons_append, List.nil_append] at S2; have S := S2; clear S2
                go_wp2_with fail
                refine ⟨_, S, Sel.refl _, ?_⟩; (repeat (first | (go_big_quiet_step (fail)) | (go_big_quiet_want; (first | refine quiet_ld S ?_ | refine quiet_ld8 S ?_ | refine quiet_ld0 ?_ | refine quiet_ldA S ?_ | refine quiet_b2sB S ?_ | refine quiet_b2sR S ?_ | refine quiet_ldc S ?_); go_big_quiet_on))); refine wpQuiet_nil ?_
                go_upto_region 22 with (first | go_big_skip | go_big_skip | (refine wpList_ld S ?_) | (refine wpList_ld8 S ?_) | (refine wpList_ld0 ?_) | (refine wpList_ldA S ?_) | (refine wpList_st8 S ?_; (clear S; intro ws S)) | (refine wpList_st S ?_; (clear S; intro ws S)) | (refine wpList_box S ?_; (clear S; intro nb wb hnb S)) | (refine wpList_alloc S ?_; (clear S; intro nb wb hnb S)) | (refine wpList_mk8 S ?_; (clear S; intro nb wb hnb S)) | (refine wpList_mk S ?_; (clear S; intro nb wb hnb S)) | (refine wpList_bs S ?_; (clear S; intro nb wb hnb S)) | (refine wpList_stA S ?_; (clear S; intro ws S; simp only [splice, List.take_zero, List.take_succ_cons, List.drop_succ_cons, List.drop_zero, List.drop_nil, List.length_cons, List.length_nil, Nat.reduceAdd, Nat.zero_add, List.nil_append, List.cons_append, List.append_nil] at S)) | (refine wpList_b2sB S ?_) | (refine wpList_b2sR S ?_) | (refine wpList_ldc S ?_))
                refine St.regionC S [.blk nb _] 4 [([0, 1, 2], 3)] [] ?_
                clear S; intro wr3 Cr S Sc; simp only [walkC, pick, List.getElem?_cons_succ, List.getElem?_cons_zero, List.drop_succ_cons, List.drop_zero]
                (repeat (first | (go_big_quiet_want; (refine quiet_slcT (size := 2) 1 ?_); go_big_quiet_on) | (first | (go_big_quiet_step (fail)) | (go_big_quiet_want; (first | refine quiet_ld Sc ?_ | refine quiet_ld8 Sc ?_ | refine quiet_ld0 ?_ | refine quiet_ldA Sc ?_ | refine quiet_b2sB Sc ?_ | refine quiet_b2sR Sc ?_ | refine quiet_ldc Sc ?_); go_big_quiet_on))))
                refine wpQuiet_nil ?_
                go_wp2_with (first | go_big_skip | (refine wpList_ld S ?_) | (refine wpList_ld8 S ?_) | (refine wpList_ld0 ?_) | (refine wpList_ldA S ?_) | (refine wpList_st8 S ?_; (clear S; intro ws S)) | (refine wpList_st S ?_; (clear S; intro ws S)) | (refine wpList_box S ?_; (clear S; intro nb wb hnb S)) | (refine wpList_alloc S ?_; (clear S; intro nb wb hnb S)) | (refine wpList_mk8 S ?_; (clear S; intro nb wb hnb S)) | (refine wpList_mk S ?_; (clear S; intro nb wb hnb S)) | (refine wpList_bs S ?_; (clear S; intro nb wb hnb S)) | (refine wpList_stA S ?_; (clear S; intro ws S; simp only [splice, List.take_zero, List.take_succ_cons, List.drop_succ_cons, List.drop_zero, List.drop_nil, List.length_cons, List.length_nil, Nat.reduceAdd, Nat.zero_add, List.nil_append, List.cons_append, List.append_nil] at S)) | (refine wpList_b2sB S ?_) | (refine wpList_b2sR S ?_) | (refine wpList_ldc S ?_))
                refine ⟨(S.sel (by repeat (first | exact Sel.nil | (apply Sel.cons; (repeat (first | exact Pull.head | apply Pull.tail)))))).inSt _, ?_⟩; (repeat (first | (go_big_quiet_step (fail)) | (go_big_quiet_want; (first | refine quiet_ld Sc ?_ | refine quiet_ld8 Sc ?_ | refine quiet_ld0 ?_ | refine quiet_ldA Sc ?_ | refine quiet_b2sB Sc ?_ | refine quiet_b2sR Sc ?_ | refine quiet_ldc Sc ?_); go_big_quiet_on))); refine wpQuiet_nil ?_
                go_wp2_with (first | go_big_skip | go_big_skip | (refine wpList_ld S ?_) | (refine wpList_ld8 S ?_) | (refine wpList_ld0 ?_) | (refine wpList_ldA S ?_) | (refine wpList_st8 S ?_; (clear S; intro ws S)) | (refine wpList_st S ?_; (clear S; intro ws S)) | (refine wpList_box S ?_; (clear S; intro nb wb hnb S)) | (refine wpList_alloc S ?_; (clear S; intro nb wb hnb S)) | (refine wpList_mk8 S ?_; (clear S; intro nb wb hnb S)) | (refine wpList_mk S ?_; (clear S; intro nb wb hnb S)) | (refine wpList_bs S ?_; (clear S; intro nb wb hnb S)) | (refine wpList_stA S ?_; (clear S; intro ws S; simp only [splice, List.take_zero, List.take_succ_cons, List.drop_succ_cons, List.drop_zero, List.drop_nil, List.length_cons, List.length_nil, Nat.reduceAdd, Nat.zero_add, List.nil_append, List.cons_append, List.append_nil] at S)) | (refine wpList_b2sB S ?_) | (refine wpList_b2sR S ?_) | (refine wpList_ldc S ?_))
                have S := S.slcOR (ad := ad) (n := k) (c := cl) (xs := ([Value.int .i64 (p.1 : Nat), .slice ob p.2.length cb] :: csm).flatten) (e := 41) (size := 2) 1 (by repeat (first | exact Pull.head | apply Pull.tail)) hN1
                go_roundg (k - 1)
                case measure => have := hg.out; omega
                case rel =>
                  have e8 : x8.items.length = k - 1 := by rw [hi8.out]; have := hN.out; simp at this; omega
                  refine ⟨x8, arr8, .slice t4 t5 t6, r8, csm, hidden e8, ⟨_, _, _, rfl⟩, hidden ⟨hH8.out, hr8.out, hcap8, hmax8.out, fun q hq => hid.out q (by rw [hi8.out] at hq; exact List.mem_cons_of_mem _ hq)⟩, by omega, hidden (by rw [hi8.out]; exact hEm.out), ?_⟩
                  rw [e8]
                  exact S.sel (rs := [.orow 41 2 (.slice (some (cutAt ad 1 cl 2)) (k - 1) (cl - 1)) (k - 1) csm.flatten, .blk b9 (.cells [.slice t4 t5 t6, .bool x8.full, .int .i64 x8.cap, .int .i64 x8.max, .int .i64 x8.head, .int .i64 x8.tail, .int .i64 x8.count, .int .i64 x8.right].toArray 51 (0, 0)), r8]) (by repeat (first | exact Sel.nil | (apply Sel.cons; (repeat (first | exact Pull.head | apply Pull.tail)))))
theorem rowQueueLaid {H : Type} {enc : TypeId × Value → H} {base base' base2 base2' : Nat} {spare spare2 : Nat → Bool} {held held2 : Bool} {r r2 : Reach} {d d2 : DataW H} {ps ps2 : List MemPlace} {X0 X1 X2 X3 : Prop} (v u : Value) (a2 a3 : Int) (W : World)
    (hval : Value.okWide Try.prog W r base' 47 v) (hd : DataW.Trod enc Try.prog W base spare held 47 v d ps) (_ : X2)
    (hval2 : Value.okWide Try.prog W r2 base2' 47 u) (hd2 : DataW.Trod enc Try.prog W base2 spare2 held2 47 u d2 ps2) (_ : X3) (_ : X0) (_ : X1) :
    Calls Try.prog 8 #[v, u, .int .i64 a2, .int .i64 a3] W fun e w' => e = .returned (.bool true) ∧ Below W.heap.size W w' := by
  obtain ⟨lo, h⟩ := open_bss hval hd
  obtain ⟨ly, h2⟩ := open_bss hval2 hd2
  exact Calls.mono (lawQueueLaid a2 a3 v u lo ly W h h2) fun e w' ⟨h1, h2⟩ => ⟨h1, h2.below⟩
end Go.Proofs.Ytkfkcinkkgdebaa
