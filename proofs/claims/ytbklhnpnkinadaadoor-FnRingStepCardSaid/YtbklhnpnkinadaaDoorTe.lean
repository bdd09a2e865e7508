/- The tape of the reference: bytes moved. -/
import Derived.Test.YtbklhnpnkinadaaDoorTc
namespace Go.Vil
open Go.RowKit
section
variable {P : Program} {ops : Array Oper} {Q : Exit → Act → World → Prop} {rest : List Oper} {o : Oper} {a : Act} {w w' : World}
theorem row_cell {w : World} {e : TypeId} {n c i : Nat} {xs : List Value} {ad : Addr} {u : Value} (h : (Res.row e 1 (.slice (some ad) n c) n xs).holds w) (h1 : ∀ u ∈ xs, u.oneCell' = true) (hi : xs[i]? = some u) : w.cell? (ad.add i) = some u :=
  (Src.row h h1).2.2.2 _ _ hi
/-- A load of an element of a row. -/
theorem quiet_ldR {w0 : World} {bs : List Nat} {L F : List Res} (S : St w0 bs w L) {K : Act → Prop} {a' : Act} {ty e : TypeId} {x : Operand} {ad : Addr} {n c i : Nat} {xs : List Value} {u : Value} (h1 : ∀ u ∈ xs, u.oneCell' = true) (hi : xs[i]? = some u)
    (k : K a')
    (ho : o.op = .load ty x := by rfl) (hT0 : TOne P ty := by infer_instance) (ha : slot a x = some (.pointer (some (ad.add i))) := by rfl)
    (hp : Pull (.row e 1 (.slice (some ad) n c) n xs) L F := by repeat (first | exact Pull.head | apply Pull.tail)) (hput : Put a o.dst u a' := by exact put_of (by conv => lhs; simp only [List.set_cons_succ, List.set_cons_zero])) : o.quiet P a (fun w' => ∃ p : StW w w0 bs L, w' = p.w) K :=
  quiet_run (fun _ hS => have S := S.of hS; run_ld ty x ho (eval_slot ha) (row_cell (S.mem.2 _ hp.mem) h1 hi)) (hput.is ▸ k)
theorem wpList_ldR {w0 : World} {bs : List Nat} {L F : List Res} (S : St w0 bs w L) {a' : Act} {ty e : TypeId} {x : Operand} {ad : Addr} {n c i : Nat} {xs : List Value} {u : Value} (h1 : ∀ u ∈ xs, u.oneCell' = true) (hi : xs[i]? = some u)
    (k : wpList P ops Q rest a' w)
    (hw : Region.wanted o (yielded ops a.tmps) = true := by rfl) (ho : o.op = .load ty x := by rfl) (hT0 : TOne P ty := by infer_instance) (ha : slot a x = some (.pointer (some (ad.add i))) := by rfl)
    (hp : Pull (.row e 1 (.slice (some ad) n c) n xs) L F := by repeat (first | exact Pull.head | apply Pull.tail)) (hput : Put a o.dst u a' := by exact put_of (by conv => lhs; simp only [List.set_cons_succ, List.set_cons_zero])) : wpList P ops Q (o :: rest) a w :=
  wpList_run hw (run_ld ty x ho (eval_slot ha) (row_cell (S.mem.2 _ hp.mem) h1 hi)) (hput.is ▸ k)
end
end Go.Vil
namespace Go.Proofs.YtbklhnpnkinadaaDoor
open Go Go.RowKit Go.Vil
set_option linter.unusedSimpArgs false
set_option linter.unusedVariables false
set_option maxRecDepth 100000

/-- The rows of a tape on which something stands. -/
theorem TapeSt.rows {w0 w : World} {bs : List Nat} {tp : Nat} {t : Ta} {F : List Res} (h : TapeSt w0 bs w tp t F) (hb : 0 < t.bytes.length) (hk : 0 < t.known.length) :
    ∃ ad ca bd cb, St w0 bs w (tHead tp t.size t.b t.e t.o (.slice (some ad) t.bytes.length ca) (.slice (some bd) t.known.length cb) :: .row 5 1 (.slice (some ad) t.bytes.length ca) t.bytes.length (u8s t.bytes) :: .row 4 1 (.slice (some bd) t.known.length cb) t.known.length (bls t.known) :: F) := by
  obtain ⟨vb, vk, S⟩ := h
  have hr1 : (Res.row 5 1 vb t.bytes.length (u8s t.bytes)).holds w := S.mem.2 _ (List.mem_cons_of_mem _ List.mem_cons_self)
  have hr2 : (Res.row 4 1 vk t.known.length (bls t.known)).holds w := S.mem.2 _ (List.mem_cons_of_mem _ (List.mem_cons_of_mem _ List.mem_cons_self))
  obtain ⟨oa, ca, hva, hca, _⟩ := row_shape (by decide) hr1
  obtain ⟨ob, cb, hvb, hcb, _⟩ := row_shape (by decide) hr2
  have hs1 := Src.row hr1 (u8s_one _)
  have hs2 := Src.row hr2 (bls_one _)
  subst hva hvb
  cases oa with
  | none =>
    have h := (hs1.2.2 : _ ∧ u8s t.bytes = []).2
    have := congrArg List.length h
    rw [length_u8s, List.length_nil] at this; omega
  | some ad =>
    cases ob with
    | none =>
      have h := (hs2.2.2 : _ ∧ bls t.known = []).2
      have := congrArg List.length h
      rw [length_bls, List.length_nil] at this; omega
    | some bd => exact ⟨ad, ca, bd, cb, S⟩

set_option maxHeartbeats 3200000 in
theorem tapeMove (tp : Nat) (t : Ta) (z : Int) (n : Nat) (F : List Res) (w0 : World) (bs : List Nat) (w : World) (hS : TapeSt w0 bs w tp t F)
    (ht : Mild t) (hz0 : -1152921504606846976 ≤ z ∧ z ≤ 1152921504606846976) (hn : n ≤ 1048576) :
    Calls Tryd.prog 30 #[.pointer (some ⟨tp, 0, none⟩), .int .i64 z, .int .i64 n] w fun e w' => e = .returned (.int .i64 (if t.there z n then (t.e : Int) else -1)) ∧ TapeSt w0 bs w' tp (if t.there z n then t.puts (t.piece (z - t.b).toNat n) else t) F := by
  have hT := hidden hS
  obtain ⟨vb, vk, S⟩ := hS
  have h1 := ht.fine.ob
  have h2 := ht.fine.be
  have h3 := ht.fine.len
  have h4 := ht.fine.klen
  have h5 := ht.e
  have h6 := ht.len
  replace ht := hidden ht
  have hbt := hidden (show decide ((t.b : Int) ≤ z ∧ z ≤ (t.e : Int) ∧ (n : Int) ≤ t.e - z) = t.there z n from rfl)
  refine Calls.cps ?_; intro R hR
  go_enter Tryd.func30, Tryd.ntmps30
  go_wp2_with (first | go_big_skip | ((with_reducible show Code.wp _ (Code.region _ _ true) _ _ _); refine St.regionLast S ?_; (repeat (first | (go_big_quiet_step (fail)) | (go_big_quiet_want; (first | refine quiet_ld S ?_ | refine quiet_ld8 S ?_ | refine quiet_ld0 ?_ | refine quiet_ldA S ?_ | refine quiet_b2sB S ?_ | refine quiet_b2sR S ?_ | refine quiet_ldc S ?_); go_big_quiet_on))); refine wpQuiet_nil ?_; clear S; intro wq S) | go_big_skip | (refine wpList_ld S ?_) | (refine wpList_ld8 S ?_) | (refine wpList_ld0 ?_) | (refine wpList_ldA S ?_) | (refine wpList_st8 S ?_; (clear S; intro ws S)) | (refine wpList_st S ?_; (clear S; intro ws S)) | (refine wpList_box S ?_; (clear S; intro nb wb hnb S)) | (refine wpList_alloc S ?_; (clear S; intro nb wb hnb S)) | (refine wpList_mk8 S ?_; (clear S; intro nb wb hnb S)) | (refine wpList_mk S ?_; (clear S; intro nb wb hnb S)) | (refine wpList_bs S ?_; (clear S; intro nb wb hnb S)) | (refine wpList_stA S ?_; (clear S; intro ws S; simp only [splice, List.take_zero, List.take_succ_cons, List.drop_succ_cons, List.drop_zero, List.drop_nil, List.length_cons, List.length_nil, Nat.reduceAdd, Nat.zero_add, List.nil_append, List.cons_append, List.append_nil] at S)) | (refine wpList_b2sB S ?_) | (refine wpList_b2sR S ?_) | (refine wpList_ldc S ?_))
  refine Calls.mono (tapeThere tp t.size t.b t.e t.o _ _ z n w S.sel1 (by omega) hz0) ?_
  rintro e w2 ⟨rfl, C⟩
  have S2 := S.call C; clear S C; simp only [List.cons_append, List.nil_append] at S2; have S := S2; clear S2
  rw [hbt.out]
  cases hth : t.there z n with
  | false =>
    simp only [hth, Bool.false_eq_true, if_false] at hR
    go_wp2_with (first | go_big_skip | ((with_reducible show Code.wp _ (Code.region _ _ true) _ _ _); refine St.regionLast S ?_; (repeat (first | (go_big_quiet_step (fail)) | (go_big_quiet_want; (first | refine quiet_ld S ?_ | refine quiet_ld8 S ?_ | refine quiet_ld0 ?_ | refine quiet_ldA S ?_ | refine quiet_b2sB S ?_ | refine quiet_b2sR S ?_ | refine quiet_ldc S ?_); go_big_quiet_on))); refine wpQuiet_nil ?_; clear S; intro wq S) | go_big_skip | (refine wpList_ld S ?_) | (refine wpList_ld8 S ?_) | (refine wpList_ld0 ?_) | (refine wpList_ldA S ?_) | (refine wpList_st8 S ?_; (clear S; intro ws S)) | (refine wpList_st S ?_; (clear S; intro ws S)) | (refine wpList_box S ?_; (clear S; intro nb wb hnb S)) | (refine wpList_alloc S ?_; (clear S; intro nb wb hnb S)) | (refine wpList_mk8 S ?_; (clear S; intro nb wb hnb S)) | (refine wpList_mk S ?_; (clear S; intro nb wb hnb S)) | (refine wpList_bs S ?_; (clear S; intro nb wb hnb S)) | (refine wpList_stA S ?_; (clear S; intro ws S; simp only [splice, List.take_zero, List.take_succ_cons, List.drop_succ_cons, List.drop_zero, List.drop_nil, List.length_cons, List.length_nil, Nat.reduceAdd, Nat.zero_add, List.nil_append, List.cons_append, List.append_nil] at S)) | (refine wpList_b2sB S ?_) | (refine wpList_b2sR S ?_) | (refine wpList_ldc S ?_))
    ((first | go_ret | go_ret2 | go_ret3 | go_end0 | skip); refine hR.out _ _ ?_)
    exact ⟨rfl, vb, vk, S⟩
  | true =>
    simp only [hth, if_true] at hR
    have hzz : (t.b : Int) ≤ z ∧ z ≤ (t.e : Int) ∧ (n : Int) ≤ t.e - z := of_decide_eq_true hth
    obtain ⟨fr, hfr⟩ : ∃ fr : Nat, z = t.o + fr := ⟨(z - t.o).toNat, by omega⟩
    have hfr1 : (fr : Int) ≤ z - t.o := by omega
    have hfr2 : z - t.o ≤ (fr : Int) := by omega
    have hpi : t.piece (z - t.b).toNat n = ((t.bytes.zip t.known).drop fr).take n := by
      unfold Ta.piece
      rw [show t.b - t.o + (z - t.b).toNat = fr by omega]
    obtain ⟨hz1, hz2, hz3⟩ := hzz
    rw [hpi] at hR
    have hT2 : Hid (TapeSt w0 bs w2 tp t F) := hidden ⟨vb, vk, S⟩
    clear hfr hpi hth hbt hT
    go_upto_region 4 with (first | ((with_reducible show Code.wp _ (Code.region _ _ true) _ _ _); refine St.regionLast S ?_; (repeat (first | (go_big_quiet_step (fail)) | (go_big_quiet_want; (first | refine quiet_ld S ?_ | refine quiet_ld8 S ?_ | refine quiet_ld0 ?_ | refine quiet_ldA S ?_ | refine quiet_b2sB S ?_ | refine quiet_b2sR S ?_ | refine quiet_ldc S ?_); go_big_quiet_on))); refine wpQuiet_nil ?_; clear S; intro wq S) | go_big_skip | (refine wpList_ld S ?_) | (refine wpList_ld8 S ?_) | (refine wpList_ld0 ?_) | (refine wpList_ldA S ?_) | (refine wpList_st8 S ?_; (clear S; intro ws S)) | (refine wpList_st S ?_; (clear S; intro ws S)) | (refine wpList_box S ?_; (clear S; intro nb wb hnb S)) | (refine wpList_alloc S ?_; (clear S; intro nb wb hnb S)) | (refine wpList_mk8 S ?_; (clear S; intro nb wb hnb S)) | (refine wpList_mk S ?_; (clear S; intro nb wb hnb S)) | (refine wpList_bs S ?_; (clear S; intro nb wb hnb S)) | (refine wpList_stA S ?_; (clear S; intro ws S; simp only [splice, List.take_zero, List.take_succ_cons, List.drop_succ_cons, List.drop_zero, List.drop_nil, List.length_cons, List.length_nil, Nat.reduceAdd, Nat.zero_add, List.nil_append, List.cons_append, List.append_nil] at S)) | (refine wpList_b2sB S ?_) | (refine wpList_b2sR S ?_) | (refine wpList_ldc S ?_))
    go_cut [8] (fun f w' => f = .int .i64 (fr : Nat) ∧ Hid (TapeSt w0 bs w' tp t F))
    case first =>
      go_wp2_with (first | go_big_skip | ((with_reducible show Code.wp _ (Code.region _ _ true) _ _ _); refine St.regionLast S ?_; (repeat (first | (go_big_quiet_step (fail)) | (go_big_quiet_want; (first | refine quiet_ld S ?_ | refine quiet_ld8 S ?_ | refine quiet_ld0 ?_ | refine quiet_ldA S ?_ | refine quiet_b2sB S ?_ | refine quiet_b2sR S ?_ | refine quiet_ldc S ?_); go_big_quiet_on))); refine wpQuiet_nil ?_; clear S; intro wq S) | go_big_skip | (refine wpList_ld S ?_) | (refine wpList_ld8 S ?_) | (refine wpList_ld0 ?_) | (refine wpList_ldA S ?_) | (refine wpList_st8 S ?_; (clear S; intro ws S)) | (refine wpList_st S ?_; (clear S; intro ws S)) | (refine wpList_box S ?_; (clear S; intro nb wb hnb S)) | (refine wpList_alloc S ?_; (clear S; intro nb wb hnb S)) | (refine wpList_mk8 S ?_; (clear S; intro nb wb hnb S)) | (refine wpList_mk S ?_; (clear S; intro nb wb hnb S)) | (refine wpList_bs S ?_; (clear S; intro nb wb hnb S)) | (refine wpList_stA S ?_; (clear S; intro ws S; simp only [splice, List.take_zero, List.take_succ_cons, List.drop_succ_cons, List.drop_zero, List.drop_nil, List.length_cons, List.length_nil, Nat.reduceAdd, Nat.zero_add, List.nil_append, List.cons_append, List.append_nil] at S)) | (refine wpList_b2sB S ?_) | (refine wpList_b2sR S ?_) | (refine wpList_ldc S ?_))
      go_meet
      exact ⟨congrArg (Value.int .i64) (by omega), hidden ⟨vb, vk, S⟩⟩
    case rest =>
    obtain ⟨rfl, hT3⟩ := hcut
    clear S hT2
    have hfl : fr + n ≤ t.bytes.length := by omega
    have hfk : fr + n ≤ t.known.length := by omega
    have hzl := hidden (show ((t.bytes.zip t.known).drop fr).length = t.bytes.length - fr by rw [List.length_drop, List.length_zip]; omega)
    go_wp2_with (first | go_big_skip | (refine wpList_ld S ?_) | (refine wpList_ld8 S ?_) | (refine wpList_ld0 ?_) | (refine wpList_ldA S ?_) | (refine wpList_st8 S ?_; (clear S; intro ws S)) | (refine wpList_st S ?_; (clear S; intro ws S)) | (refine wpList_box S ?_; (clear S; intro nb wb hnb S)) | (refine wpList_alloc S ?_; (clear S; intro nb wb hnb S)) | (refine wpList_mk8 S ?_; (clear S; intro nb wb hnb S)) | (refine wpList_mk S ?_; (clear S; intro nb wb hnb S)) | (refine wpList_bs S ?_; (clear S; intro nb wb hnb S)) | (refine wpList_stA S ?_; (clear S; intro ws S; simp only [splice, List.take_zero, List.take_succ_cons, List.drop_succ_cons, List.drop_zero, List.drop_nil, List.length_cons, List.length_nil, Nat.reduceAdd, Nat.zero_add, List.nil_append, List.cons_append, List.append_nil] at S)) | (refine wpList_b2sB S ?_) | (refine wpList_b2sR S ?_) | (refine wpList_ldc S ?_))
    go_loopg [9] n (fun g i wr => ∃ k : Nat, Hid (k + g = n) ∧ i = .int .i64 k ∧ k ≤ n ∧ Hid (TapeSt w0 bs wr tp (t.puts (((t.bytes.zip t.known).drop fr).take k)) F))
    case atStart => exact ⟨0, hidden (by omega), rfl, Nat.zero_le _, hT3⟩
    case round =>
      obtain ⟨k, hg, rfl, hkn, hT2⟩ := hrel
      by_cases hlt : k < n
      · have hlen : (((t.bytes.zip t.known).drop fr).take k).length = k := by rw [List.length_take]; have := hzl.out; omega
        have hcalm := hidden (ht.out.puts (((t.bytes.zip t.known).drop fr).take k) (by omega))
        have hkb : ((t.bytes.zip t.known).drop fr)[k]? = some (t.bytes.getD (fr + k) 0, t.known.getD (fr + k) false) := by
          rw [List.getElem?_drop, List.getElem?_eq_getElem (by rw [List.length_zip]; omega), List.getElem_zip]
          simp [List.getD, List.getElem?_eq_getElem (show fr + k < t.bytes.length by omega), List.getElem?_eq_getElem (show fr + k < t.known.length by omega)]
        have hnext := hidden (show ((t.bytes.zip t.known).drop fr).take (k + 1) = ((t.bytes.zip t.known).drop fr).take k ++ [(t.bytes.getD (fr + k) 0, t.known.getD (fr + k) false)] by rw [List.take_add_one, hkb]; rfl)
        have hgb := hidden (show (u8s (t.puts (((t.bytes.zip t.known).drop fr).take k)).bytes)[fr + k]? = some (.int .u8 ((t.bytes.getD (fr + k) 0).toNat : Int)) by
          rw [Ta.puts_bytes, u8s_append, List.getElem?_append_left (by rw [length_u8s]; omega), u8s_get?, List.getElem?_eq_getElem (show fr + k < t.bytes.length by omega)]
          simp [List.getD, List.getElem?_eq_getElem (show fr + k < t.bytes.length by omega)])
        have hgk := hidden (show (bls (t.puts (((t.bytes.zip t.known).drop fr).take k)).known)[fr + k]? = some (.bool (t.known.getD (fr + k) false)) by
          rw [Ta.puts_known, bls_append, List.getElem?_append_left (by rw [length_bls]; omega)]
          simp [bls, List.getD, List.getElem?_eq_getElem (show fr + k < t.known.length by omega)])
        clear hkb
        have hlb : (t.puts (((t.bytes.zip t.known).drop fr).take k)).bytes.length = t.bytes.length + k := by rw [Ta.puts_bytes, List.length_append, List.length_map, hlen]
        have hlk : (t.puts (((t.bytes.zip t.known).drop fr).take k)).known.length = t.known.length + k := by rw [Ta.puts_known, List.length_append, List.length_map, hlen]
        generalize t.bytes.getD (fr + k) 0 = x at *
        generalize t.known.getD (fr + k) false = kn at *
        obtain ⟨ad, ca, bd, cb, S⟩ := hT2.out.rows (by omega) (by omega)
        have hT4 := hT2
        generalize hst : t.puts (((t.bytes.zip t.known).drop fr).take k) = st at *
        rw [hlb, hlk] at S
        replace hst := hidden hst
        replace hlb := hidden hlb
        replace hlk := hidden hlk
        replace hlen := hidden hlen
        go_upto_region 8 with (first | ((with_reducible show Code.wp _ (Code.region _ _ true) _ _ _); refine St.regionLast S ?_; (repeat (first | (go_big_quiet_step (fail)) | (go_big_quiet_want; (first | refine quiet_ld S ?_ | refine quiet_ld8 S ?_ | refine quiet_ld0 ?_ | refine quiet_ldA S ?_ | refine quiet_b2sB S ?_ | refine quiet_b2sR S ?_ | refine quiet_ldc S ?_); go_big_quiet_on))); refine wpQuiet_nil ?_; clear S; intro wq S) | go_big_skip | (refine wpList_ld S ?_) | (refine wpList_ld8 S ?_) | (refine wpList_ld0 ?_) | (refine wpList_ldA S ?_) | (refine wpList_st8 S ?_; (clear S; intro ws S)) | (refine wpList_st S ?_; (clear S; intro ws S)) | (refine wpList_box S ?_; (clear S; intro nb wb hnb S)) | (refine wpList_alloc S ?_; (clear S; intro nb wb hnb S)) | (refine wpList_mk8 S ?_; (clear S; intro nb wb hnb S)) | (refine wpList_mk S ?_; (clear S; intro nb wb hnb S)) | (refine wpList_bs S ?_; (clear S; intro nb wb hnb S)) | (refine wpList_stA S ?_; (clear S; intro ws S; simp only [splice, List.take_zero, List.take_succ_cons, List.drop_succ_cons, List.drop_zero, List.drop_nil, List.length_cons, List.length_nil, Nat.reduceAdd, Nat.zero_add, List.nil_append, List.cons_append, List.append_nil] at S)) | (refine wpList_b2sB S ?_) | (refine wpList_b2sR S ?_) | (refine wpList_ldc S ?_))
        refine St.regionLast S ?_
        (repeat (first | (go_big_quiet_want; (first | (refine quiet_ldR S (u8s_one _) hgb.out ?_) | (refine quiet_ldR S (bls_one _) hgk.out ?_)); go_big_quiet_on) | (first | (go_big_quiet_step (fail)) | (go_big_quiet_want; (first | refine quiet_ld S ?_ | refine quiet_ld8 S ?_ | refine quiet_ld0 ?_ | refine quiet_ldA S ?_ | refine quiet_b2sB S ?_ | refine quiet_b2sR S ?_ | refine quiet_ldc S ?_); go_big_quiet_on))))
        refine wpQuiet_nil ?_
        clear S; intro wr2 S
        go_wp2_with fail
        have hT5 : TapeSt w0 bs wr2 tp st F := ⟨_, _, by rw [hlb.out, hlk.out]; exact S⟩
        refine Calls.mono (tapePut tp st x kn F w0 bs _ hT5 hcalm.out) ?_
        rintro e w3 ⟨rfl, hT6⟩
        replace hT6 := hidden hT6
        clear S hT5 hT4 hT2
        go_wp2_with (first | go_big_skip | (refine wpList_ld S ?_) | (refine wpList_ld8 S ?_) | (refine wpList_ld0 ?_) | (refine wpList_ldA S ?_) | (refine wpList_st8 S ?_; (clear S; intro ws S)) | (refine wpList_st S ?_; (clear S; intro ws S)) | (refine wpList_box S ?_; (clear S; intro nb wb hnb S)) | (refine wpList_alloc S ?_; (clear S; intro nb wb hnb S)) | (refine wpList_mk8 S ?_; (clear S; intro nb wb hnb S)) | (refine wpList_mk S ?_; (clear S; intro nb wb hnb S)) | (refine wpList_bs S ?_; (clear S; intro nb wb hnb S)) | (refine wpList_stA S ?_; (clear S; intro ws S; simp only [splice, List.take_zero, List.take_succ_cons, List.drop_succ_cons, List.drop_zero, List.drop_nil, List.length_cons, List.length_nil, Nat.reduceAdd, Nat.zero_add, List.nil_append, List.cons_append, List.append_nil] at S)) | (refine wpList_b2sB S ?_) | (refine wpList_b2sR S ?_) | (refine wpList_ldc S ?_))
        go_roundg (gk - 1)
        case measure => have := hg.out; omega
        case rel =>
          refine ⟨k + 1, hidden (by have := hg.out; omega), by go_num, by omega, hidden ?_⟩
          rw [hnext.out, Ta.puts_snoc, hst.out]
          exact hT6.out
      · have hkl : k = n := by omega
        subst hkl
        go_wp2_with (first | go_big_skip | (refine wpList_ld S ?_) | (refine wpList_ld8 S ?_) | (refine wpList_ld0 ?_) | (refine wpList_ldA S ?_) | (refine wpList_st8 S ?_; (clear S; intro ws S)) | (refine wpList_st S ?_; (clear S; intro ws S)) | (refine wpList_box S ?_; (clear S; intro nb wb hnb S)) | (refine wpList_alloc S ?_; (clear S; intro nb wb hnb S)) | (refine wpList_mk8 S ?_; (clear S; intro nb wb hnb S)) | (refine wpList_mk S ?_; (clear S; intro nb wb hnb S)) | (refine wpList_bs S ?_; (clear S; intro nb wb hnb S)) | (refine wpList_stA S ?_; (clear S; intro ws S; simp only [splice, List.take_zero, List.take_succ_cons, List.drop_succ_cons, List.drop_zero, List.drop_nil, List.length_cons, List.length_nil, Nat.reduceAdd, Nat.zero_add, List.nil_append, List.cons_append, List.append_nil] at S)) | (refine wpList_b2sB S ?_) | (refine wpList_b2sR S ?_) | (refine wpList_ldc S ?_))
        ((first | go_ret | go_ret2 | go_ret3 | go_end0 | skip); refine hR.out _ _ ?_)
        exact ⟨rfl, hT2.out⟩
end Go.Proofs.YtbklhnpnkinadaaDoor
