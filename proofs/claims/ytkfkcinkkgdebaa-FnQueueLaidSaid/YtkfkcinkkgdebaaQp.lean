/- A queue of its parts, and the parts of one; one operation to the parts. -/
import Derived.Test.YtkfkcinkkgdebaaQm
namespace Go.Vil
open Go Go.RowKit
set_option linter.unusedSimpArgs false
set_option linter.unusedVariables false

theorem zeroCells_u8 (n : Nat) : (Builtin.zeroCells (Value.int .u8 0).cells n) = (u8s (List.replicate n 0)).toArray := by
  apply Array.ext'
  simp [Builtin.zeroCells, Value.cells, u8s]
  apply List.ext_getElem
  · simp
  · intro i h1 h2
    simp
    have : i % 1 = 0 := Nat.mod_one i
    rw [this]; rfl
section
variable {P : Program} {ops : Array Oper} {Q : Exit → Act → World → Prop} {rest : List Oper} {o : Oper} {a : Act} {w w' : World}
theorem run_append_zero {t tx ty e : TypeId} {bytes : Nat} [ht : TSlice P t e] [hx : TRow P tx] [he : TElem P e (.int .u8 0) 1 bytes] {w0 : World} {bs : List Nat} {L F : List Res} (S : St w0 bs w L) {b : Nat} (hp : Pull (.blk b (.cells ([] : List Value).toArray e (0, 0))) L F)
    {sv : Value} {m : Nat} {news : List UInt8} (hs : Src w 1 sv m (u8s news)) (h63 : m ≤ maxLen) (hbytes : m * bytes ≤ 140737488355328) :
    ∃ m' kz w', (Builtin.append_ #[t, tx] ty #[.slice (some ⟨b, 0, none⟩) 0 0, sv]).run P w = .ok (.slice (some ⟨m', 0, none⟩) m (m + kz)) w' ∧ St w0 bs w' (.blk m' (.cells (u8s (news ++ List.replicate kz 0)).toArray e (0, 0)) :: F) := by
  obtain ⟨i, hi, hz, hsize, hby, hzs⟩ := he.is
  obtain ⟨d, hd, hdi⟩ := hx.is
  have hsmall : m ≤ 9223372036854775807 := by simp only [maxLen] at h63; omega
  have hnl : (Builtin.lenOf sv).run P w = .ok m w := hs.lenOf (w' := w) rfl
  have hzero : (match d with | .int _ => true | _ => false) = false := by
    cases d <;> first | rfl | exact absurd rfl (hdi _)
  have hnf : ∀ w', (∀ ad x, w.cell? ad = some x → w'.cell? ad = some x) → (Builtin.firstCells 1 m sv).run P w' = .ok (u8s news).toArray w' := fun w' hc => by
    have := hs.first (P := P) hc m (Nat.le_refl _)
    rwa [List.take_of_length_le (by rw [hs.1]; exact Nat.le_refl _)] at this
  have hn1 := hnf w (fun _ _ h => h)
  have hn2 := hnf w.drew (fun _ _ h => h)
  have hl := hs.len8
  rw [← hsize] at hn1 hn2
  rw [← hby] at hbytes
  by_cases h0 : m = 0
  · subst h0
    have hnil : news = [] := List.eq_nil_of_length_eq_zero hl
    subst hnil
    refine ⟨b, 0, w, ?_, S.perm hp.perm⟩
    simp [Builtin.append_, run_underlying ht.is, run_underlying hd, sizeOf, typeInfo, hi, hnl, hn1, hzero, u8s, storeCells]
  · have hnr : ¬ (0 + m ≤ 0) := by omega
    have h63' : ¬ (9223372036854775807 < (m : Int)) := by omega
    have h48' : ¬ (281474976710656 < Builtin.nextslicecap m 0 * i.bytes) := by
      have := growslice_fits (bytes := i.bytes) (show 0 < m by omega) hbytes; omega
    have hge := grownCap_ge w m 0 e
    have hold : (Builtin.firstCells i.size 0 (.slice (some ⟨b, 0, none⟩) 0 0)).run P w.drew = .ok #[] w.drew := by
      have := run_firstCells_some (P := P) w.drew i.size 0 ⟨b, 0, none⟩ 0 0 [] (by simp) (by simp)
      simpa using this
    refine ⟨w.heap.size, grownCap w m 0 e - m, w.drew.alloc (.cells (#[] ++ (u8s news).toArray ++ Builtin.zeroCells (Value.int .u8 0).cells (grownCap w m 0 e - m)) e), ?_, ?_⟩
    · rw [show m + (grownCap w m 0 e - m) = grownCap w m 0 e by omega]
      simp [Builtin.append_, run_underlying ht.is, run_underlying hd, sizeOf, typeInfo, zeroValue, hi, hz, hnl, h0, h63', h48', hzero, Question.forced, hn2, hold, newRow, grownCap]
    · have := (S.perm hp.perm).drew.alloc (.cells (#[] ++ (u8s news).toArray ++ Builtin.zeroCells (Value.int .u8 0).cells (grownCap w m 0 e - m)) e)
      have e1 : (#[] ++ (u8s news).toArray ++ Builtin.zeroCells (Value.int .u8 0).cells (grownCap w m 0 e - m)) = (u8s (news ++ List.replicate (grownCap w m 0 e - m) 0)).toArray := by
        rw [zeroCells_u8, u8s_append]; simp
      rw [e1] at this ⊢
      exact this.sel (.cons .head (.weaken (.refl _)))
/-- append([]byte{}, y...): the bytes, and zeros behind them. -/
theorem wpList_appZ {w0 : World} {bs : List Nat} {L F : List Res} (S : St w0 bs w L) {sv : Value} {m b : Nat} {news : List UInt8} (hs : Src w 1 sv m (u8s news)) {a' : Nat → Nat → Act} {x y : Operand} {t tx e : TypeId} {bytes : Nat}
    (k : ∀ m' kz w', St w0 bs w' (.blk m' (.cells (u8s (news ++ List.replicate kz 0)).toArray e (0, 0)) :: F) → wpList P ops Q rest (a' m' kz) w')
    (hw : Region.wanted o (yielded ops a.tmps) = true := by rfl) (ho : o.op = .call { callee := .builtin .append, args := #[x, y], argTypes := #[t, tx] } := by rfl)
    (ht : TSlice P t e := by infer_instance) (htx : TRow P tx := by infer_instance) (he : TElem P e (.int .u8 0) 1 bytes := by infer_instance)
    (hx : slot a x = some (.slice (some ⟨b, 0, none⟩) 0 0) := by rfl) (hy : slot a y = some sv := by rfl)
    (hp : Pull (.blk b (.cells ([] : List Value).toArray e (0, 0))) L F := by repeat (first | exact Pull.head | apply Pull.tail))
    (h63 : m ≤ maxLen := by (unfold maxLen; first | omega | (simp; omega))) (hb : m * bytes ≤ 140737488355328 := by first | omega | (simp; omega))
    (hput : ∀ m' kz, Put a o.dst (.slice (some ⟨m', 0, none⟩) m (m + kz)) (a' m' kz) := by (intro _ _; exact put_of (by conv => lhs; simp only [List.set_cons_succ, List.set_cons_zero]))) : wpList P ops Q (o :: rest) a w := by
  obtain ⟨m', kz, w', hr, S'⟩ := run_append_zero (P := P) (t := t) (tx := tx) (ty := o.type) S hp hs h63 hb
  refine wpList_run hw (w' := w') (v := .slice (some ⟨m', 0, none⟩) m (m + kz)) ?_ (by rw [(hput _ _).is]; exact k _ _ _ S')
  simp [execOp, ho, resolve, invoke, builtin, eval_slot hx, eval_slot hy, hr]
/-- x[i] of an array that is a value. -/
theorem wpList_ix {a' : Act} {ty e : TypeId} {len : Nat} {x y : Operand} {k : IntKind} {cs : List Value} {i : Int} {v : Value} (ht : P.underlying ty = some (.array len e))
    (kk : wpList P ops Q rest a' w)
    (hw : Region.wanted o (yielded ops a.tmps) = true := by rfl) (ho : o.op = .index ty x y := by rfl) (he : TOne P e := by infer_instance)
    (hx : slot a x = some (.agg cs.toArray) := by rfl) (hy : slot a y = some (.int k i) := by rfl) (h0 : 0 ≤ i := by omega) (h1 : i < len := by omega) (hv : cs[i.toNat]? = some v := by rfl)
    (hput : Put a o.dst v a' := by exact put_of (by conv => lhs; simp only [List.set_cons_succ, List.set_cons_zero])) : wpList P ops Q (o :: rest) a w := by
  refine wpList_run hw (v := v) (w' := w) ?_ (hput.is ▸ kk)
  simp [execOp, ho, eval_slot hx, eval_slot hy, Instr.index, asIntOf, run_underlying ht, h0, h1, he.size, part, he.agg, hv]
end
end Go.Vil
namespace Go.Proofs.Ytkfkcinkkgdebaa
open Go Go.RowKit Go.Vil
set_option linter.unusedSimpArgs false
set_option linter.unusedVariables false
set_option maxRecDepth 100000

/-- The cells of a queue's parts. -/
def qParts (m : Nat) (x : Qu) (arr sl : List UInt8) : List Value := [.slice (some ⟨m, 0, none⟩) arr.length (arr.length + sl.length), .bool x.full, .int .i64 x.cap, .int .i64 x.max, .int .i64 x.head, .int .i64 x.tail, .int .i64 x.count, .int .i64 x.right]

set_option maxHeartbeats 1600000 in
theorem quNew (cap most : Nat) (w : World) (h1 : cap ≤ 1073741824) : Calls Try.prog 26 #[.int .i64 cap, .int .i64 most] w fun e w' => ∃ m, e = .returned (.agg (qParts m (Qu.fresh cap most) (Qu.zeros cap) []).toArray) ∧ St w [] w' [.blk m (.cells (u8s (Qu.zeros cap ++ [])).toArray 5 (0, 0))] := by
  have S := St.begin w
  refine Calls.cps ?_; intro R hR
  go_enter Try.func26, Try.ntmps26
  go_wp2_with (first | go_big_skip | go_big_skip | (refine wpList_ld S ?_) | (refine wpList_ld8 S ?_) | (refine wpList_ld0 ?_) | (refine wpList_ldA S ?_) | (refine wpList_st8 S ?_; (clear S; intro ws S)) | (refine wpList_st S ?_; (clear S; intro ws S)) | (refine wpList_box S ?_; (clear S; intro nb wb hnb S)) | (refine wpList_alloc S ?_; (clear S; intro nb wb hnb S)) | (refine wpList_mk8 S ?_; (clear S; intro nb wb hnb S)) | (refine wpList_mk S ?_; (clear S; intro nb wb hnb S)) | (refine wpList_bs S ?_; (clear S; intro nb wb hnb S)) | (refine wpList_stA S ?_; (clear S; intro ws S; simp only [splice, List.take_zero, List.take_succ_cons, List.drop_succ_cons, List.drop_zero, List.drop_nil, List.length_cons, List.length_nil, Nat.reduceAdd, Nat.zero_add, List.nil_append, List.cons_append, List.append_nil] at S)) | (refine wpList_b2sB S ?_) | (refine wpList_b2sR S ?_) | (refine wpList_ldc S ?_))
  refine ret_of (results_c S) ?_
  refine hR.out _ _ ?_
  have e : qParts nb (Qu.fresh cap most) (Qu.zeros cap) [] = [.slice (some ⟨nb, 0, none⟩) cap cap, .bool false, .int .i64 cap, .int .i64 most, .int .i64 1, .int .i64 1, .int .i64 0, .int .i64 1] := by
    simp [qParts, Qu.fresh, Qu.full, Qu.tail, Qu.right, Qu.count]
  refine ⟨nb, by rw [e], ?_⟩
  rw [List.append_nil]
  exact S.sel (by repeat (first | exact Sel.nil | (apply Sel.cons; (repeat (first | exact Pull.head | apply Pull.tail)))))

/-- The numbers of a queue's parts are those of which something is said. -/
theorem parts_small {x : Qu} {arr : List UInt8} (hr : x.Rep arr) (hc : x.cap ≤ 65536) (hm : x.max ≤ 262144) : (x.head : Int) ≤ 262144 ∧ (x.tail : Int) ≤ 262144 ∧ (x.count : Int) ≤ 262144 ∧ (x.right : Int) ≤ 262144 := by
  have ht := hr.tail_le
  by_cases ho : x.old = []
  · obtain ⟨h1, h2⟩ := hr.none ho
    have e1 : x.right = 1 := by unfold Qu.right; rw [ho, h1]; rfl
    have e2 : x.count = 0 := by unfold Qu.count; rw [ho, h2]; rfl
    omega
  · obtain ⟨h1, h2⟩ := hr.right_le ho
    have h3 := length_le_sz hr.okO
    have h4 := length_le_sz hr.okY
    have e1 : x.right = x.head + sz x.old := rfl
    have e2 : x.count = x.old.length + x.young.length := rfl
    by_cases hy : x.young = []
    · have h5 : x.young.length = 0 := by rw [hy]; rfl
      omega
    · have h5 := hr.tail_young hy
      have h6 := Qu.tail_wrapped hy
      omega

set_option maxHeartbeats 3200000 in
theorem quStep (x : Qu) (arr : List UInt8) (oa oo : Option Addr) (ca n c : Nat) (op : QOp) (w : World) (hr : x.Rep arr) (hc : x.cap ≤ 65536) (hm : x.max ≤ 262144) (hs : Src w 1 (.slice oa arr.length ca) arr.length (u8s arr))
    (ho : Src w 1 (.slice oo n c) n (u8s op.data)) (hoc : n ≤ c) (hn : n ≤ 65536) (hk : op.kind ≤ 9) (hl : qLegal x op) :
    Calls Try.prog 24 #[.agg #[.slice oa arr.length ca, .bool x.full, .int .i64 x.cap, .int .i64 x.max, .int .i64 x.head, .int .i64 x.tail, .int .i64 x.count, .int .i64 x.right], .agg #[.int .i64 op.kind, .slice oo n c, .int .i64 op.index]] w fun e w' =>
      ∃ (m : Nat) (arr2 sl2 : List UInt8) (dv : Value), e = .returned (.tuple #[.agg (qParts m (qStep x op).1 arr2 sl2).toArray, .agg #[.int .i64 (qStep x op).2.fault, .int .i64 (qStep x op).2.number, dv]]) ∧ (qStep x op).1.Rep arr2 ∧
        St w [] w' [.blk m (.cells (u8s (arr2 ++ sl2)).toArray 5 (0, 0)), .row 5 1 dv (qStep x op).2.data.length (u8s (qStep x op).2.data)] := by
  have S := St.begin w
  obtain ⟨b1, b2, b3, b4⟩ := parts_small hr hc hm
  have hal : arr.length ≤ 65536 := by have := hr.len; omega
  replace hr := hidden hr
  replace hs := hidden hs
  replace ho := hidden ho
  replace hl := hidden hl
  have hkb : decide (op.kind = 10) = false := by simp; omega
  have hkb2 : (op.kind == 10) = false := by simp; omega
  refine Calls.cps ?_; intro R hR
  go_enter Try.func24, Try.ntmps24
  go_wp2_with (first | go_big_skip | ((with_reducible show Code.wp _ (Code.region _ _ true) _ _ _); refine St.regionLast S ?_; (repeat (first | (go_big_quiet_step (fail)) | (go_big_quiet_want; (first | refine quiet_ld S ?_ | refine quiet_ld8 S ?_ | refine quiet_ld0 ?_ | refine quiet_ldA S ?_ | refine quiet_b2sB S ?_ | refine quiet_b2sR S ?_ | refine quiet_ldc S ?_); go_big_quiet_on))); refine wpQuiet_nil ?_; clear S; intro wq S) | go_big_skip | (refine wpList_ld S ?_) | (refine wpList_ld8 S ?_) | (refine wpList_ld0 ?_) | (refine wpList_ldA S ?_) | (refine wpList_st8 S ?_; (clear S; intro ws S)) | (refine wpList_st S ?_; (clear S; intro ws S)) | (refine wpList_box S ?_; (clear S; intro nb wb hnb S)) | (refine wpList_alloc S ?_; (clear S; intro nb wb hnb S)) | (refine wpList_mk8 S ?_; (clear S; intro nb wb hnb S)) | (refine wpList_mk S ?_; (clear S; intro nb wb hnb S)) | (refine wpList_bs S ?_; (clear S; intro nb wb hnb S)) | (refine wpList_stA S ?_; (clear S; intro ws S; simp only [splice, List.take_zero, List.take_succ_cons, List.drop_succ_cons, List.drop_zero, List.drop_nil, List.length_cons, List.length_nil, Nat.reduceAdd, Nat.zero_add, List.nil_append, List.cons_append, List.append_nil] at S)) | (refine wpList_b2sB S ?_) | (refine wpList_b2sR S ?_) | (refine wpList_ldc S ?_))
  rename_i b2 w2 hb2 b3 w3 hb3 b4 w4 hb4 b5 w5 hb5 x6 x7
  go_loopg [8, 28] 6 (fun g v8 i wr => ∃ k : Nat, Hid (k + g = 6) ∧ i = .int .i64 k ∧ k ≤ 6 ∧ wr = ws)
  case atStart => exact ⟨0, hidden rfl, rfl, by omega, rfl⟩
  case round =>
    obtain ⟨k, hg, rfl, hk6, rfl⟩ := hrel
    have b7 : (x.cap : Int) ≤ 262144 := by omega
    have b6 : (x.max : Int) ≤ 262144 := by omega
    by_cases hlt : k < 6
    · obtain rfl | rfl | rfl | rfl | rfl | rfl : k = 0 ∨ k = 1 ∨ k = 2 ∨ k = 3 ∨ k = 4 ∨ k = 5 := by omega
      all_goals
        clear hlt hk6
        go_wp2_with (first | go_big_skip | (refine wpList_ix Try.underlying78 ?_) | ((with_reducible show Code.wp _ (Code.region _ _ true) _ _ _); refine St.regionLast S ?_; (repeat (first | (go_big_quiet_step (fail)) | (go_big_quiet_want; (first | refine quiet_ld S ?_ | refine quiet_ld8 S ?_ | refine quiet_ld0 ?_ | refine quiet_ldA S ?_ | refine quiet_b2sB S ?_ | refine quiet_b2sR S ?_ | refine quiet_ldc S ?_); go_big_quiet_on))); refine wpQuiet_nil ?_; clear S; intro wq S) | go_big_skip | (refine wpList_ld S ?_) | (refine wpList_ld8 S ?_) | (refine wpList_ld0 ?_) | (refine wpList_ldA S ?_) | (refine wpList_st8 S ?_; (clear S; intro ws S)) | (refine wpList_st S ?_; (clear S; intro ws S)) | (refine wpList_box S ?_; (clear S; intro nb wb hnb S)) | (refine wpList_alloc S ?_; (clear S; intro nb wb hnb S)) | (refine wpList_mk8 S ?_; (clear S; intro nb wb hnb S)) | (refine wpList_mk S ?_; (clear S; intro nb wb hnb S)) | (refine wpList_bs S ?_; (clear S; intro nb wb hnb S)) | (refine wpList_stA S ?_; (clear S; intro ws S; simp only [splice, List.take_zero, List.take_succ_cons, List.drop_succ_cons, List.drop_zero, List.drop_nil, List.length_cons, List.length_nil, Nat.reduceAdd, Nat.zero_add, List.nil_append, List.cons_append, List.append_nil] at S)) | (refine wpList_b2sB S ?_) | (refine wpList_b2sR S ?_) | (refine wpList_ldc S ?_))
        go_roundg (gk - 1)
        case measure => have := hg.out; omega
        case rel => first | exact ⟨1, hidden (by have := hg.out; omega), rfl, by omega, rfl⟩ | exact ⟨2, hidden (by have := hg.out; omega), rfl, by omega, rfl⟩ | exact ⟨3, hidden (by have := hg.out; omega), rfl, by omega, rfl⟩ | exact ⟨4, hidden (by have := hg.out; omega), rfl, by omega, rfl⟩ | exact ⟨5, hidden (by have := hg.out; omega), rfl, by omega, rfl⟩ | exact ⟨6, hidden (by have := hg.out; omega), rfl, by omega, rfl⟩
    · have hk : k = 6 := by omega
      subst hk
      clear hlt hk6 hg
      have hn0 : ¬ (n : Int) > 65536 := by omega
      have hal0 : ¬ (arr.length : Int) > 65536 := by omega
      go_upto_region 10 with (first | go_big_skip | ((with_reducible show Code.wp _ (Code.region _ _ true) _ _ _); refine St.regionLast S ?_; (repeat (first | (go_big_quiet_step (fail)) | (go_big_quiet_want; (first | refine quiet_ld S ?_ | refine quiet_ld8 S ?_ | refine quiet_ld0 ?_ | refine quiet_ldA S ?_ | refine quiet_b2sB S ?_ | refine quiet_b2sR S ?_ | refine quiet_ldc S ?_); go_big_quiet_on))); refine wpQuiet_nil ?_; clear S; intro wq S) | go_big_skip | (refine wpList_ld S ?_) | (refine wpList_ld8 S ?_) | (refine wpList_ld0 ?_) | (refine wpList_ldA S ?_) | (refine wpList_st8 S ?_; (clear S; intro ws S)) | (refine wpList_st S ?_; (clear S; intro ws S)) | (refine wpList_box S ?_; (clear S; intro nb wb hnb S)) | (refine wpList_alloc S ?_; (clear S; intro nb wb hnb S)) | (refine wpList_mk8 S ?_; (clear S; intro nb wb hnb S)) | (refine wpList_mk S ?_; (clear S; intro nb wb hnb S)) | (refine wpList_bs S ?_; (clear S; intro nb wb hnb S)) | (refine wpList_stA S ?_; (clear S; intro ws S; simp only [splice, List.take_zero, List.take_succ_cons, List.drop_succ_cons, List.drop_zero, List.drop_nil, List.length_cons, List.length_nil, Nat.reduceAdd, Nat.zero_add, List.nil_append, List.cons_append, List.append_nil] at S)) | (refine wpList_b2sB S ?_) | (refine wpList_b2sR S ?_) | (refine wpList_ldc S ?_))
      refine St.regionC S [.blk b2 _, .blk nb _] 9 [([1, 2, 4, 5, 6], 0), ([], 3), ([], 7)] [8] ?_
      clear S; intro wr Cr S Sc; simp only [walkC, pick, List.getElem?_cons_succ, List.getElem?_cons_zero, List.drop_succ_cons, List.drop_zero]; (repeat (first | (go_big_quiet_step (fail)) | (go_big_quiet_want; (first | refine quiet_ld Sc ?_ | refine quiet_ld8 Sc ?_ | refine quiet_ld0 ?_ | refine quiet_ldA Sc ?_ | refine quiet_b2sB Sc ?_ | refine quiet_b2sR Sc ?_ | refine quiet_ldc Sc ?_); go_big_quiet_on))); refine wpQuiet_nil ?_
      refine wpList_bs (len := 0) (parts := []) (size := 1) S ?_
      clear S; intro bz wz hbz S
      refine ⟨(S.sel (by repeat (first | exact Sel.nil | (apply Sel.cons; (repeat (first | exact Pull.head | apply Pull.tail)))))).inSt _, ?_⟩; (repeat (first | (go_big_quiet_step (fail)) | (go_big_quiet_want; (first | refine quiet_ld Sc ?_ | refine quiet_ld8 Sc ?_ | refine quiet_ld0 ?_ | refine quiet_ldA Sc ?_ | refine quiet_b2sB Sc ?_ | refine quiet_b2sR Sc ?_ | refine quiet_ldc Sc ?_); go_big_quiet_on))); refine wpQuiet_nil ?_
      refine wpList_appZ S (hs.out.on S.chg) ?_
      clear S; intro m kz wa S
      obtain ⟨sl, hsl, rfl⟩ : ∃ sl : List UInt8, List.replicate kz 0 = sl ∧ kz = sl.length := ⟨_, rfl, by simp⟩
      rw [hsl] at S
      clear hsl
      refine ⟨(S.sel (by repeat (first | exact Sel.nil | (apply Sel.cons; (repeat (first | exact Pull.head | apply Pull.tail)))))).inSt _, ?_⟩; (repeat (first | (go_big_quiet_step (fail)) | (go_big_quiet_want; (first | refine quiet_ld Sc ?_ | refine quiet_ld8 Sc ?_ | refine quiet_ld0 ?_ | refine quiet_ldA Sc ?_ | refine quiet_b2sB Sc ?_ | refine quiet_b2sR Sc ?_ | refine quiet_ldc Sc ?_); go_big_quiet_on))); refine wpQuiet_nil ?_
      go_wp2_with fail
      refine Calls.mono (zzOf _ _ _ _ _ _ _ _ _ _ _) ?_
      rintro e w5 ⟨q, hb, rfl, C⟩
      have S2 := S.call C; clear S C; simp only [List.cons_append, List.nil_append] at S2; have S := S2; clear S2
      go_wp2_with fail
      refine ⟨(S.sel (by repeat (first | exact Sel.nil | (apply Sel.cons; (repeat (first | exact Pull.head | apply Pull.tail)))))).inSt _, ?_⟩; (repeat (first | (go_big_quiet_step (fail)) | (go_big_quiet_want; (first | refine quiet_ld Sc ?_ | refine quiet_ld8 Sc ?_ | refine quiet_ld0 ?_ | refine quiet_ldA Sc ?_ | refine quiet_b2sB Sc ?_ | refine quiet_b2sR Sc ?_ | refine quiet_ldc Sc ?_); go_big_quiet_on))); refine wpQuiet_nil ?_
      go_wp2_with (first | go_big_skip | ((with_reducible show Code.wp _ (Code.region _ _ true) _ _ _); refine St.regionLast S ?_; (repeat (first | (go_big_quiet_step (fail)) | (go_big_quiet_want; (first | refine quiet_ld S ?_ | refine quiet_ld8 S ?_ | refine quiet_ld0 ?_ | refine quiet_ldA S ?_ | refine quiet_b2sB S ?_ | refine quiet_b2sR S ?_ | refine quiet_ldc S ?_); go_big_quiet_on))); refine wpQuiet_nil ?_; clear S; intro wq S) | go_big_skip | (refine wpList_ld S ?_) | (refine wpList_ld8 S ?_) | (refine wpList_ld0 ?_) | (refine wpList_ldA S ?_) | (refine wpList_st8 S ?_; (clear S; intro ws S)) | (refine wpList_st S ?_; (clear S; intro ws S)) | (refine wpList_box S ?_; (clear S; intro nb wb hnb S)) | (refine wpList_alloc S ?_; (clear S; intro nb wb hnb S)) | (refine wpList_mk8 S ?_; (clear S; intro nb wb hnb S)) | (refine wpList_mk S ?_; (clear S; intro nb wb hnb S)) | (refine wpList_bs S ?_; (clear S; intro nb wb hnb S)) | (refine wpList_stA S ?_; (clear S; intro ws S; simp only [splice, List.take_zero, List.take_succ_cons, List.drop_succ_cons, List.drop_zero, List.drop_nil, List.length_cons, List.length_nil, Nat.reduceAdd, Nat.zero_add, List.nil_append, List.cons_append, List.append_nil] at S)) | (refine wpList_b2sB S ?_) | (refine wpList_b2sR S ?_) | (refine wpList_ldc S ?_))
      refine Calls.mono (queueDo q m hb x arr sl (List.replicate 5 0) n c oo op _ S.sel3 (by simp) hr.out (ho.out.on S.chg) (S.off ho.out) hoc (by omega) (by omega) hl.out) ?_
      rintro e w6 ⟨dv, m2, arr2, sl2, h2, rfl, hh2, hr2, C⟩
      have S2 := S.call C; clear S C; simp only [List.cons_append, List.nil_append] at S2; have S := S2; clear S2
      generalize qStep x op = st at *
      obtain ⟨x2, an⟩ := st
      simp only at *
      obtain ⟨a3, c3, rfl, hc3, hc4⟩ := S.rowSlice (hp := Pull.head)
      replace hr2 := hidden hr2
      go_wp2_with (first | go_big_skip | ((with_reducible show Code.wp _ (Code.region _ _ true) _ _ _); refine St.regionLast S ?_; (repeat (first | (go_big_quiet_step (fail)) | (go_big_quiet_want; (first | refine quiet_ld S ?_ | refine quiet_ld8 S ?_ | refine quiet_ld0 ?_ | refine quiet_ldA S ?_ | refine quiet_b2sB S ?_ | refine quiet_b2sR S ?_ | refine quiet_ldc S ?_); go_big_quiet_on))); refine wpQuiet_nil ?_; clear S; intro wq S) | go_big_skip | (refine wpList_ld S ?_) | (refine wpList_ld8 S ?_) | (refine wpList_ld0 ?_) | (refine wpList_ldA S ?_) | (refine wpList_st8 S ?_; (clear S; intro ws S)) | (refine wpList_st S ?_; (clear S; intro ws S)) | (refine wpList_box S ?_; (clear S; intro nb wb hnb S)) | (refine wpList_alloc S ?_; (clear S; intro nb wb hnb S)) | (refine wpList_mk8 S ?_; (clear S; intro nb wb hnb S)) | (refine wpList_mk S ?_; (clear S; intro nb wb hnb S)) | (refine wpList_bs S ?_; (clear S; intro nb wb hnb S)) | (refine wpList_stA S ?_; (clear S; intro ws S; simp only [splice, List.take_zero, List.take_succ_cons, List.drop_succ_cons, List.drop_zero, List.drop_nil, List.length_cons, List.length_nil, Nat.reduceAdd, Nat.zero_add, List.nil_append, List.cons_append, List.append_nil] at S)) | (refine wpList_b2sB S ?_) | (refine wpList_b2sR S ?_) | (refine wpList_ldc S ?_))
      rename Nat => b10
      refine Calls.mono (zzParts q _ _ _ _ _ _ _ _ _ _ S.sel1) ?_
      rintro e w7 ⟨rfl, C⟩
      have S2 := S.call C; clear S C; simp only [List.cons_append, List.nil_append] at S2; have S := S2; clear S2
      go_upto_region 13 with (first | go_big_skip | ((with_reducible show Code.wp _ (Code.region _ _ true) _ _ _); refine St.regionLast S ?_; (repeat (first | (go_big_quiet_step (fail)) | (go_big_quiet_want; (first | refine quiet_ld S ?_ | refine quiet_ld8 S ?_ | refine quiet_ld0 ?_ | refine quiet_ldA S ?_ | refine quiet_b2sB S ?_ | refine quiet_b2sR S ?_ | refine quiet_ldc S ?_); go_big_quiet_on))); refine wpQuiet_nil ?_; clear S; intro wq S) | go_big_skip | (refine wpList_ld S ?_) | (refine wpList_ld8 S ?_) | (refine wpList_ld0 ?_) | (refine wpList_ldA S ?_) | (refine wpList_st8 S ?_; (clear S; intro ws S)) | (refine wpList_st S ?_; (clear S; intro ws S)) | (refine wpList_box S ?_; (clear S; intro nb wb hnb S)) | (refine wpList_alloc S ?_; (clear S; intro nb wb hnb S)) | (refine wpList_mk8 S ?_; (clear S; intro nb wb hnb S)) | (refine wpList_mk S ?_; (clear S; intro nb wb hnb S)) | (refine wpList_bs S ?_; (clear S; intro nb wb hnb S)) | (refine wpList_stA S ?_; (clear S; intro ws S; simp only [splice, List.take_zero, List.take_succ_cons, List.drop_succ_cons, List.drop_zero, List.drop_nil, List.length_cons, List.length_nil, Nat.reduceAdd, Nat.zero_add, List.nil_append, List.cons_append, List.append_nil] at S)) | (refine wpList_b2sB S ?_) | (refine wpList_b2sR S ?_) | (refine wpList_ldc S ?_))
      rename Nat => b13
      refine St.regionC S [.blk b10 _, .blk b13 _] 17 [([0, 1, 2, 3, 4, 5, 6, 7, 8, 9, 10, 11, 12, 13, 14, 15], 16)] [] ?_
      clear S; intro wr Cr S Sc; simp only [walkC, pick, List.getElem?_cons_succ, List.getElem?_cons_zero, List.drop_succ_cons, List.drop_zero]; (repeat (first | (go_big_quiet_step (fail)) | (go_big_quiet_want; (first | refine quiet_ld Sc ?_ | refine quiet_ld8 Sc ?_ | refine quiet_ld0 ?_ | refine quiet_ldA Sc ?_ | refine quiet_b2sB Sc ?_ | refine quiet_b2sR Sc ?_ | refine quiet_ldc Sc ?_); go_big_quiet_on))); refine wpQuiet_nil ?_
      go_wp2_with (first | go_big_skip | (refine wpList_ld S ?_) | (refine wpList_ld8 S ?_) | (refine wpList_ld0 ?_) | (refine wpList_ldA S ?_) | (refine wpList_st8 S ?_; (clear S; intro ws S)) | (refine wpList_st S ?_; (clear S; intro ws S)) | (refine wpList_box S ?_; (clear S; intro nb wb hnb S)) | (refine wpList_alloc S ?_; (clear S; intro nb wb hnb S)) | (refine wpList_mk8 S ?_; (clear S; intro nb wb hnb S)) | (refine wpList_mk S ?_; (clear S; intro nb wb hnb S)) | (refine wpList_bs S ?_; (clear S; intro nb wb hnb S)) | (refine wpList_stA S ?_; (clear S; intro ws S; simp only [splice, List.take_zero, List.take_succ_cons, List.drop_succ_cons, List.drop_zero, List.drop_nil, List.length_cons, List.length_nil, Nat.reduceAdd, Nat.zero_add, List.nil_append, List.cons_append, List.append_nil] at S)) | (refine wpList_b2sB S ?_) | (refine wpList_b2sR S ?_) | (refine wpList_ldc S ?_))
      refine ⟨(S.sel (by repeat (first | exact Sel.nil | (apply Sel.cons; (repeat (first | exact Pull.head | apply Pull.tail)))))).inSt _, ?_⟩; (repeat (first | (go_big_quiet_step (fail)) | (go_big_quiet_want; (first | refine quiet_ld Sc ?_ | refine quiet_ld8 Sc ?_ | refine quiet_ld0 ?_ | refine quiet_ldA Sc ?_ | refine quiet_b2sB Sc ?_ | refine quiet_b2sR Sc ?_ | refine quiet_ldc Sc ?_); go_big_quiet_on))); refine wpQuiet_nil ?_
      go_wp2_with (first | go_big_skip | go_big_skip | (refine wpList_ld S ?_) | (refine wpList_ld8 S ?_) | (refine wpList_ld0 ?_) | (refine wpList_ldA S ?_) | (refine wpList_st8 S ?_; (clear S; intro ws S)) | (refine wpList_st S ?_; (clear S; intro ws S)) | (refine wpList_box S ?_; (clear S; intro nb wb hnb S)) | (refine wpList_alloc S ?_; (clear S; intro nb wb hnb S)) | (refine wpList_mk8 S ?_; (clear S; intro nb wb hnb S)) | (refine wpList_mk S ?_; (clear S; intro nb wb hnb S)) | (refine wpList_bs S ?_; (clear S; intro nb wb hnb S)) | (refine wpList_stA S ?_; (clear S; intro ws S; simp only [splice, List.take_zero, List.take_succ_cons, List.drop_succ_cons, List.drop_zero, List.drop_nil, List.length_cons, List.length_nil, Nat.reduceAdd, Nat.zero_add, List.nil_append, List.cons_append, List.append_nil] at S)) | (refine wpList_b2sB S ?_) | (refine wpList_b2sR S ?_) | (refine wpList_ldc S ?_))
      refine ret_of (results_cc S) ?_
      refine hR.out _ _ ?_
      exact ⟨m2, arr2, sl2, _, rfl, hr2.out, S.sel (by repeat (first | exact Sel.nil | (apply Sel.cons; (repeat (first | exact Pull.head | apply Pull.tail)))))⟩
end Go.Proofs.Ytkfkcinkkgdebaa
