/- The tape of the reference: what is read of it. -/
import Derived.Test.YtbklhnpnkinadaaDoorTc
namespace Go.Vil
open Go.RowKit
section
variable {P : Program} {ops : Array Oper} {Q : Exit → Act → World → Prop} {rest : List Oper} {o : Oper} {a : Act} {w w' : World}
theorem run_slcN {ty e : TypeId} {z : Value} {size bytes : Nat} [ht : TSlice P ty e] [he : TElem P e z size bytes] (x lo hi : Operand) (ho : o.op = .slice ty x (some lo) (some hi) none) {c : Nat} (hx : a.eval x = .slice none 0 c) {kl kh : IntKind} (hl : a.eval lo = .int kl 0) (hh : a.eval hi = .int kh 0) :
    (execOp a.eval o).run P w = .ok (.value (.slice none 0 c)) w := by
  obtain ⟨inf, hi', hz, hsize, hby, hzs⟩ := he.is
  simp [execOp, ho, hx, hl, hh, Instr.sliceAt, Instr.slice, run_underlying ht.is, sizeOf, typeInfo, hi', Instr.sliceBounds, run_sliceBound]
theorem quiet_slcN {C : World → Prop} {K : Act → Prop} {ty e : TypeId} {z : Value} {size bytes : Nat} {x lo hi : Operand} {c : Nat} {kl kh : IntKind} {l h : Int} {a' : Act}
    (k : K a')
    (ho : o.op = .slice ty x (some lo) (some hi) none := by rfl) (ht : TSlice P ty e := by infer_instance) (he : TElem P e z size bytes := by infer_instance)
    (hx : slot a x = some (.slice none 0 c) := by rfl) (hl : slot a lo = some (.int kl l) := by rfl) (hh : slot a hi = some (.int kh h) := by rfl) (h0 : l = 0 := by omega) (h1 : h = 0 := by omega)
    (hput : Put a o.dst (.slice none 0 c) a' := by exact put_of (by conv => lhs; simp only [List.set_cons_succ, List.set_cons_zero])) : o.quiet P a C K := by
  subst h0 h1
  exact quiet_run (fun w _ => run_slcN (P := P) (w := w) (o := o) (a := a) x lo hi ho (eval_slot hx) (eval_slot hl) (eval_slot hh)) (hput.is ▸ k)
end
end Go.Vil
namespace Go.Proofs.YtbklhnpnkinadaaDoor
open Go Go.RowKit Go.Vil
set_option linter.unusedSimpArgs false
set_option linter.unusedVariables false
set_option maxRecDepth 100000

/-- A part of a slice that lies in a row. -/
theorem part_src {w : World} {e : TypeId} {v : Value} {n : Nat} {xs : List Value} {ad : Addr} {c o m c' : Nat} (hv : v = .slice (some ad) n c) (hc : n ≤ c) (h : (Res.row e 1 v n xs).holds w) (h1 : ∀ u ∈ xs, u.oneCell' = true) (hm : o + m ≤ n) : Src w 1 (.slice (some (cutAt ad o c 1)) m c') m ((xs.drop o).take m) := by
  subst hv
  have hs := Src.row (w := w) h h1
  have hl : xs.length = n := by simpa using hs.1
  refine Src.cells (by rw [List.length_take, List.length_drop]; omega) (fun u hu => h1 u (List.mem_of_mem_drop (List.mem_of_mem_take hu))) fun j u hu => ?_
  have hj : j < m := by
    have := (List.getElem?_eq_some_iff.1 hu).1
    rw [List.length_take] at this; omega
  have hcut : cutAt ad o c 1 = ad.add (o * 1) := if_neg (by omega)
  rw [hcut, add_add]
  rw [List.getElem?_take, if_pos hj, List.getElem?_drop] at hu
  refine hs.2.2.2 _ _ ?_
  rw [Nat.mul_one]; exact hu

/-- What a read of a tape leaves. -/
def ReadEnd (tp : Nat) (t : Ta) (vb vk : Value) (F : List Res) (w0 : World) (bs : List Nat) (fr m : Nat) (e : Ending) (w' : World) : Prop :=
  ∃ v1 v2 c1 c2, e = .returned (.tuple #[.slice v1 m c1, .slice v2 m c2, .bool true]) ∧ m ≤ c1 ∧ m ≤ c2 ∧ (∀ x, (Res.row 5 1 vb t.bytes.length (u8s t.bytes)).holds x → Src x 1 (.slice v1 m c1) m (u8s ((t.bytes.drop fr).take m))) ∧
    (∀ x, (Res.row 4 1 vk t.known.length (bls t.known)).holds x → Src x 1 (.slice v2 m c2) m (bls ((t.known.drop fr).take m))) ∧
    St w0 bs w' (tHead tp t.size t.b t.e t.o vb vk :: .row 5 1 vb t.bytes.length (u8s t.bytes) :: .row 4 1 vk t.known.length (bls t.known) :: F)

set_option maxHeartbeats 1600000 in
theorem tapeRead (tp : Nat) (t : Ta) (vb vk : Value) (z : Int) (n : Nat) (F : List Res) (w0 : World) (bs : List Nat) (w : World) (S : St w0 bs w (tHead tp t.size t.b t.e t.o vb vk :: .row 5 1 vb t.bytes.length (u8s t.bytes) :: .row 4 1 vk t.known.length (bls t.known) :: F))
    (ht : Mild t) (hz1 : t.b ≤ z) (hz2 : z ≤ t.e) (hn : n ≤ 1073741824) :
    Calls Tryd.prog 21 #[.pointer (some ⟨tp, 0, none⟩), .int .i64 z, .int .i64 n] w (ReadEnd tp t vb vk F w0 bs (z - t.o).toNat (min n (t.e - z).toNat)) := by
  have hr1 : (Res.row 5 1 vb t.bytes.length (u8s t.bytes)).holds w := S.mem.2 _ (List.mem_cons_of_mem _ List.mem_cons_self)
  have hr2 : (Res.row 4 1 vk t.known.length (bls t.known)).holds w := S.mem.2 _ (List.mem_cons_of_mem _ (List.mem_cons_of_mem _ List.mem_cons_self))
  obtain ⟨oa, ca, hva, hca, _⟩ := row_shape (by decide) hr1
  obtain ⟨ob, cb, hvb, hcb, _⟩ := row_shape (by decide) hr2
  have hs1 := Src.row hr1 (u8s_one _)
  have hs2 := Src.row hr2 (bls_one _)
  subst hva hvb
  have hn1 : oa = none → t.bytes.length = 0 := by
    rintro rfl
    have h := (hs1.2.2 : _ ∧ u8s t.bytes = []).2
    have := congrArg List.length h
    simpa using this
  have hn2 : ob = none → t.known.length = 0 := by
    rintro rfl
    have h := (hs2.2.2 : _ ∧ bls t.known = []).2
    have := congrArg List.length h
    simpa using this
  clear hr1 hr2 hs1 hs2
  have h1 := ht.fine.ob
  have h2 := ht.fine.be
  have h3 := ht.fine.len
  have h4 := ht.fine.klen
  have h5 := ht.e
  have h6 := ht.len
  have h7 := hidden ht.fine.fit
  obtain ⟨fr, hfr⟩ : ∃ fr : Nat, z = t.o + fr := ⟨(z - t.o).toNat, by omega⟩
  obtain ⟨m, hm⟩ : ∃ m : Nat, m = min n (t.e - z).toNat := ⟨_, rfl⟩
  have hfm : fr + m ≤ t.bytes.length := by omega
  rw [← hm, show (z - t.o).toNat = fr by omega]
  have hf1 : (t.o : Int) ≤ z := by omega
  have hf2 : (fr : Int) + m ≤ t.bytes.length := by omega
  have hfr1 : (fr : Int) ≤ z - t.o := by omega
  have hfr2 : z - t.o ≤ (fr : Int) := by omega
  have hm1 : (m : Int) ≤ n := by omega
  have hm2 : (m : Int) ≤ t.e - z := by omega
  have hm3 : (n : Int) ≤ m ∨ (t.e : Int) - z ≤ m := by omega
  clear hfr hm
  replace ht := hidden ht
  have hb0 : decide ((t.b : Int) ≤ z ∧ z ≤ (t.e : Int) ∧ (0 : Int) ≤ t.e - z) = true := decide_eq_true (by omega)
  refine Calls.cps ?_; intro R hR
  go_enter Tryd.func21, Tryd.ntmps21
  go_wp2_with (first | go_big_skip | ((with_reducible show Code.wp _ (Code.region _ _ true) _ _ _); refine St.regionLast S ?_; (repeat (first | (go_big_quiet_step (fail)) | (go_big_quiet_want; (first | refine quiet_ld S ?_ | refine quiet_ld8 S ?_ | refine quiet_ld0 ?_ | refine quiet_ldA S ?_ | refine quiet_b2sB S ?_ | refine quiet_b2sR S ?_ | refine quiet_ldc S ?_); go_big_quiet_on))); refine wpQuiet_nil ?_; clear S; intro wq S) | go_big_skip | (refine wpList_ld S ?_) | (refine wpList_ld8 S ?_) | (refine wpList_ld0 ?_) | (refine wpList_ldA S ?_) | (refine wpList_st8 S ?_; (clear S; intro ws S)) | (refine wpList_st S ?_; (clear S; intro ws S)) | (refine wpList_box S ?_; (clear S; intro nb wb hnb S)) | (refine wpList_alloc S ?_; (clear S; intro nb wb hnb S)) | (refine wpList_mk8 S ?_; (clear S; intro nb wb hnb S)) | (refine wpList_mk S ?_; (clear S; intro nb wb hnb S)) | (refine wpList_bs S ?_; (clear S; intro nb wb hnb S)) | (refine wpList_stA S ?_; (clear S; intro ws S; simp only [splice, List.take_zero, List.take_succ_cons, List.drop_succ_cons, List.drop_zero, List.drop_nil, List.length_cons, List.length_nil, Nat.reduceAdd, Nat.zero_add, List.nil_append, List.cons_append, List.append_nil] at S)) | (refine wpList_b2sB S ?_) | (refine wpList_b2sR S ?_) | (refine wpList_ldc S ?_))
  refine Calls.mono (tapeThere tp t.size t.b t.e t.o _ _ z 0 w S.sel1 (by omega) (by omega)) ?_
  rintro e w2 ⟨rfl, C⟩
  have S2 := S.call C; clear S C; simp only [List.cons_append, List.nil_append] at S2; have S := S2; clear S2
  rw [hb0]
  go_upto_region 3 with (first | ((with_reducible show Code.wp _ (Code.region _ _ true) _ _ _); refine St.regionLast S ?_; (repeat (first | (go_big_quiet_step (fail)) | (go_big_quiet_want; (first | refine quiet_ld S ?_ | refine quiet_ld8 S ?_ | refine quiet_ld0 ?_ | refine quiet_ldA S ?_ | refine quiet_b2sB S ?_ | refine quiet_b2sR S ?_ | refine quiet_ldc S ?_); go_big_quiet_on))); refine wpQuiet_nil ?_; clear S; intro wq S) | go_big_skip | (refine wpList_ld S ?_) | (refine wpList_ld8 S ?_) | (refine wpList_ld0 ?_) | (refine wpList_ldA S ?_) | (refine wpList_st8 S ?_; (clear S; intro ws S)) | (refine wpList_st S ?_; (clear S; intro ws S)) | (refine wpList_box S ?_; (clear S; intro nb wb hnb S)) | (refine wpList_alloc S ?_; (clear S; intro nb wb hnb S)) | (refine wpList_mk8 S ?_; (clear S; intro nb wb hnb S)) | (refine wpList_mk S ?_; (clear S; intro nb wb hnb S)) | (refine wpList_bs S ?_; (clear S; intro nb wb hnb S)) | (refine wpList_stA S ?_; (clear S; intro ws S; simp only [splice, List.take_zero, List.take_succ_cons, List.drop_succ_cons, List.drop_zero, List.drop_nil, List.length_cons, List.length_nil, Nat.reduceAdd, Nat.zero_add, List.nil_append, List.cons_append, List.append_nil] at S)) | (refine wpList_b2sB S ?_) | (refine wpList_b2sR S ?_) | (refine wpList_ldc S ?_))
  go_cut [9] (fun f w' => f = .int .i64 (fr : Nat) ∧ St w0 bs w' (tHead tp t.size t.b t.e t.o (.slice oa t.bytes.length ca) (.slice ob t.known.length cb) :: .row 5 1 (.slice oa t.bytes.length ca) t.bytes.length (u8s t.bytes) :: .row 4 1 (.slice ob t.known.length cb) t.known.length (bls t.known) :: F))
  case first =>
    go_wp2_with (first | go_big_skip | ((with_reducible show Code.wp _ (Code.region _ _ true) _ _ _); refine St.regionLast S ?_; (repeat (first | (go_big_quiet_step (fail)) | (go_big_quiet_want; (first | refine quiet_ld S ?_ | refine quiet_ld8 S ?_ | refine quiet_ld0 ?_ | refine quiet_ldA S ?_ | refine quiet_b2sB S ?_ | refine quiet_b2sR S ?_ | refine quiet_ldc S ?_); go_big_quiet_on))); refine wpQuiet_nil ?_; clear S; intro wq S) | go_big_skip | (refine wpList_ld S ?_) | (refine wpList_ld8 S ?_) | (refine wpList_ld0 ?_) | (refine wpList_ldA S ?_) | (refine wpList_st8 S ?_; (clear S; intro ws S)) | (refine wpList_st S ?_; (clear S; intro ws S)) | (refine wpList_box S ?_; (clear S; intro nb wb hnb S)) | (refine wpList_alloc S ?_; (clear S; intro nb wb hnb S)) | (refine wpList_mk8 S ?_; (clear S; intro nb wb hnb S)) | (refine wpList_mk S ?_; (clear S; intro nb wb hnb S)) | (refine wpList_bs S ?_; (clear S; intro nb wb hnb S)) | (refine wpList_stA S ?_; (clear S; intro ws S; simp only [splice, List.take_zero, List.take_succ_cons, List.drop_succ_cons, List.drop_zero, List.drop_nil, List.length_cons, List.length_nil, Nat.reduceAdd, Nat.zero_add, List.nil_append, List.cons_append, List.append_nil] at S)) | (refine wpList_b2sB S ?_) | (refine wpList_b2sR S ?_) | (refine wpList_ldc S ?_))
    go_meet
    exact ⟨by rw [show z - (t.o : Int) = (fr : Nat) by omega], S⟩
  case rest =>
  obtain ⟨rfl, S⟩ := hcut
  go_upto_region 4 with (first | ((with_reducible show Code.wp _ (Code.region _ _ true) _ _ _); refine St.regionLast S ?_; (repeat (first | (go_big_quiet_step (fail)) | (go_big_quiet_want; (first | refine quiet_ld S ?_ | refine quiet_ld8 S ?_ | refine quiet_ld0 ?_ | refine quiet_ldA S ?_ | refine quiet_b2sB S ?_ | refine quiet_b2sR S ?_ | refine quiet_ldc S ?_); go_big_quiet_on))); refine wpQuiet_nil ?_; clear S; intro wq S) | go_big_skip | (refine wpList_ld S ?_) | (refine wpList_ld8 S ?_) | (refine wpList_ld0 ?_) | (refine wpList_ldA S ?_) | (refine wpList_st8 S ?_; (clear S; intro ws S)) | (refine wpList_st S ?_; (clear S; intro ws S)) | (refine wpList_box S ?_; (clear S; intro nb wb hnb S)) | (refine wpList_alloc S ?_; (clear S; intro nb wb hnb S)) | (refine wpList_mk8 S ?_; (clear S; intro nb wb hnb S)) | (refine wpList_mk S ?_; (clear S; intro nb wb hnb S)) | (refine wpList_bs S ?_; (clear S; intro nb wb hnb S)) | (refine wpList_stA S ?_; (clear S; intro ws S; simp only [splice, List.take_zero, List.take_succ_cons, List.drop_succ_cons, List.drop_zero, List.drop_nil, List.length_cons, List.length_nil, Nat.reduceAdd, Nat.zero_add, List.nil_append, List.cons_append, List.append_nil] at S)) | (refine wpList_b2sB S ?_) | (refine wpList_b2sR S ?_) | (refine wpList_ldc S ?_))
  go_cut [10] (fun f w' => f = .int .i64 (fr + m : Nat) ∧ St w0 bs w' (tHead tp t.size t.b t.e t.o (.slice oa t.bytes.length ca) (.slice ob t.known.length cb) :: .row 5 1 (.slice oa t.bytes.length ca) t.bytes.length (u8s t.bytes) :: .row 4 1 (.slice ob t.known.length cb) t.known.length (bls t.known) :: F))
  case first =>
    go_wp2_with (first | go_big_skip | ((with_reducible show Code.wp _ (Code.region _ _ true) _ _ _); refine St.regionLast S ?_; (repeat (first | (go_big_quiet_step (fail)) | (go_big_quiet_want; (first | refine quiet_ld S ?_ | refine quiet_ld8 S ?_ | refine quiet_ld0 ?_ | refine quiet_ldA S ?_ | refine quiet_b2sB S ?_ | refine quiet_b2sR S ?_ | refine quiet_ldc S ?_); go_big_quiet_on))); refine wpQuiet_nil ?_; clear S; intro wq S) | go_big_skip | (refine wpList_ld S ?_) | (refine wpList_ld8 S ?_) | (refine wpList_ld0 ?_) | (refine wpList_ldA S ?_) | (refine wpList_st8 S ?_; (clear S; intro ws S)) | (refine wpList_st S ?_; (clear S; intro ws S)) | (refine wpList_box S ?_; (clear S; intro nb wb hnb S)) | (refine wpList_alloc S ?_; (clear S; intro nb wb hnb S)) | (refine wpList_mk8 S ?_; (clear S; intro nb wb hnb S)) | (refine wpList_mk S ?_; (clear S; intro nb wb hnb S)) | (refine wpList_bs S ?_; (clear S; intro nb wb hnb S)) | (refine wpList_stA S ?_; (clear S; intro ws S; simp only [splice, List.take_zero, List.take_succ_cons, List.drop_succ_cons, List.drop_zero, List.drop_nil, List.length_cons, List.length_nil, Nat.reduceAdd, Nat.zero_add, List.nil_append, List.cons_append, List.append_nil] at S)) | (refine wpList_b2sB S ?_) | (refine wpList_b2sR S ?_) | (refine wpList_ldc S ?_))
    all_goals go_meet
    all_goals exact ⟨congrArg (Value.int .i64) (by omega), S⟩
  case rest =>
  obtain ⟨rfl, S⟩ := hcut
  go_upto_region 5 with (first | ((with_reducible show Code.wp _ (Code.region _ _ true) _ _ _); refine St.regionLast S ?_; (repeat (first | (go_big_quiet_step (fail)) | (go_big_quiet_want; (first | refine quiet_ld S ?_ | refine quiet_ld8 S ?_ | refine quiet_ld0 ?_ | refine quiet_ldA S ?_ | refine quiet_b2sB S ?_ | refine quiet_b2sR S ?_ | refine quiet_ldc S ?_); go_big_quiet_on))); refine wpQuiet_nil ?_; clear S; intro wq S) | go_big_skip | (refine wpList_ld S ?_) | (refine wpList_ld8 S ?_) | (refine wpList_ld0 ?_) | (refine wpList_ldA S ?_) | (refine wpList_st8 S ?_; (clear S; intro ws S)) | (refine wpList_st S ?_; (clear S; intro ws S)) | (refine wpList_box S ?_; (clear S; intro nb wb hnb S)) | (refine wpList_alloc S ?_; (clear S; intro nb wb hnb S)) | (refine wpList_mk8 S ?_; (clear S; intro nb wb hnb S)) | (refine wpList_mk S ?_; (clear S; intro nb wb hnb S)) | (refine wpList_bs S ?_; (clear S; intro nb wb hnb S)) | (refine wpList_stA S ?_; (clear S; intro ws S; simp only [splice, List.take_zero, List.take_succ_cons, List.drop_succ_cons, List.drop_zero, List.drop_nil, List.length_cons, List.length_nil, Nat.reduceAdd, Nat.zero_add, List.nil_append, List.cons_append, List.append_nil] at S)) | (refine wpList_b2sB S ?_) | (refine wpList_b2sR S ?_) | (refine wpList_ldc S ?_))
  have hfk := hidden (show fr + m ≤ t.known.length by omega)
  replace hfm := hidden hfm
  cases oa with
  | some ad =>
    cases ob with
    | some bd =>
      refine St.regionG S 17 [] [0, 1, 2, 3, 4, 5, 6, 7, 8, 9, 10, 11, 12, 13, 14, 15, 16] ?_
      clear S; intro wr S; simp only [walkSt, pick, List.getElem?_cons_succ, List.getElem?_cons_zero, List.drop_succ_cons, List.drop_zero]
      (repeat (first | (go_big_quiet_want; (first | (refine quiet_slcLH fr (fr + m) ?_) | refine quiet_slcN ?_); go_big_quiet_on) | (first | (go_big_quiet_step (fail)) | (go_big_quiet_want; (first | refine quiet_ld S ?_ | refine quiet_ld8 S ?_ | refine quiet_ld0 ?_ | refine quiet_ldA S ?_ | refine quiet_b2sB S ?_ | refine quiet_b2sR S ?_ | refine quiet_ldc S ?_); go_big_quiet_on))))
      refine wpQuiet_nil ?_
      go_wp2_with (first | go_big_skip | ((with_reducible show Code.wp _ (Code.region _ _ true) _ _ _); refine St.regionLast S ?_; (repeat (first | (go_big_quiet_step (fail)) | (go_big_quiet_want; (first | refine quiet_ld S ?_ | refine quiet_ld8 S ?_ | refine quiet_ld0 ?_ | refine quiet_ldA S ?_ | refine quiet_b2sB S ?_ | refine quiet_b2sR S ?_ | refine quiet_ldc S ?_); go_big_quiet_on))); refine wpQuiet_nil ?_; clear S; intro wq S) | go_big_skip | (refine wpList_ld S ?_) | (refine wpList_ld8 S ?_) | (refine wpList_ld0 ?_) | (refine wpList_ldA S ?_) | (refine wpList_st8 S ?_; (clear S; intro ws S)) | (refine wpList_st S ?_; (clear S; intro ws S)) | (refine wpList_box S ?_; (clear S; intro nb wb hnb S)) | (refine wpList_alloc S ?_; (clear S; intro nb wb hnb S)) | (refine wpList_mk8 S ?_; (clear S; intro nb wb hnb S)) | (refine wpList_mk S ?_; (clear S; intro nb wb hnb S)) | (refine wpList_bs S ?_; (clear S; intro nb wb hnb S)) | (refine wpList_stA S ?_; (clear S; intro ws S; simp only [splice, List.take_zero, List.take_succ_cons, List.drop_succ_cons, List.drop_zero, List.drop_nil, List.length_cons, List.length_nil, Nat.reduceAdd, Nat.zero_add, List.nil_append, List.cons_append, List.append_nil] at S)) | (refine wpList_b2sB S ?_) | (refine wpList_b2sR S ?_) | (refine wpList_ldc S ?_))
      ((first | go_ret | go_ret2 | go_ret3 | go_end0 | skip); refine hR.out _ _ ?_)
      refine ⟨some (cutAt ad fr ca 1), some (cutAt bd fr cb 1), ca - fr, cb - fr, by rw [Nat.add_sub_cancel_left]; rfl, by have := hfm.out; omega, by have := hfk.out; omega, fun x hx => by rw [u8s_take, u8s_drop]; exact part_src rfl hca hx (u8s_one _) hfm.out, fun x hx => by unfold bls; rw [List.map_take, List.map_drop]; exact part_src rfl hcb hx (bls_one _) hfk.out, S⟩
    | none =>
      have hk0 := hn2 rfl
      obtain rfl : m = 0 := by have := hfk.out; omega
      obtain rfl : fr = 0 := by have := hfk.out; omega
      refine St.regionG S 17 [] [0, 1, 2, 3, 4, 5, 6, 7, 8, 9, 10, 11, 12, 13, 14, 15, 16] ?_
      clear S; intro wr S; simp only [walkSt, pick, List.getElem?_cons_succ, List.getElem?_cons_zero, List.drop_succ_cons, List.drop_zero]
      (repeat (first | (go_big_quiet_want; (first | (refine quiet_slcLH 0 (0 + 0) ?_) | refine quiet_slcN ?_); go_big_quiet_on) | (first | (go_big_quiet_step (fail)) | (go_big_quiet_want; (first | refine quiet_ld S ?_ | refine quiet_ld8 S ?_ | refine quiet_ld0 ?_ | refine quiet_ldA S ?_ | refine quiet_b2sB S ?_ | refine quiet_b2sR S ?_ | refine quiet_ldc S ?_); go_big_quiet_on))))
      refine wpQuiet_nil ?_
      go_wp2_with (first | go_big_skip | ((with_reducible show Code.wp _ (Code.region _ _ true) _ _ _); refine St.regionLast S ?_; (repeat (first | (go_big_quiet_step (fail)) | (go_big_quiet_want; (first | refine quiet_ld S ?_ | refine quiet_ld8 S ?_ | refine quiet_ld0 ?_ | refine quiet_ldA S ?_ | refine quiet_b2sB S ?_ | refine quiet_b2sR S ?_ | refine quiet_ldc S ?_); go_big_quiet_on))); refine wpQuiet_nil ?_; clear S; intro wq S) | go_big_skip | (refine wpList_ld S ?_) | (refine wpList_ld8 S ?_) | (refine wpList_ld0 ?_) | (refine wpList_ldA S ?_) | (refine wpList_st8 S ?_; (clear S; intro ws S)) | (refine wpList_st S ?_; (clear S; intro ws S)) | (refine wpList_box S ?_; (clear S; intro nb wb hnb S)) | (refine wpList_alloc S ?_; (clear S; intro nb wb hnb S)) | (refine wpList_mk8 S ?_; (clear S; intro nb wb hnb S)) | (refine wpList_mk S ?_; (clear S; intro nb wb hnb S)) | (refine wpList_bs S ?_; (clear S; intro nb wb hnb S)) | (refine wpList_stA S ?_; (clear S; intro ws S; simp only [splice, List.take_zero, List.take_succ_cons, List.drop_succ_cons, List.drop_zero, List.drop_nil, List.length_cons, List.length_nil, Nat.reduceAdd, Nat.zero_add, List.nil_append, List.cons_append, List.append_nil] at S)) | (refine wpList_b2sB S ?_) | (refine wpList_b2sR S ?_) | (refine wpList_ldc S ?_))
      ((first | go_ret | go_ret2 | go_ret3 | go_end0 | skip); refine hR.out _ _ ?_)
      refine ⟨some (cutAt ad 0 ca 1), none, ca - 0, cb, rfl, Nat.zero_le _, Nat.zero_le _, fun x hx => by rw [u8s_take, u8s_drop]; exact part_src rfl hca hx (u8s_one _) hfm.out, fun x hx => ?_, S⟩
      rw [List.take_zero]; exact Src.nil x 1 _
  | none =>
    have hk0 := hn1 rfl
    obtain rfl : m = 0 := by have := hfm.out; omega
    obtain rfl : fr = 0 := by have := hfm.out; omega
    cases ob with
    | some bd =>
      refine St.regionG S 17 [] [0, 1, 2, 3, 4, 5, 6, 7, 8, 9, 10, 11, 12, 13, 14, 15, 16] ?_
      clear S; intro wr S; simp only [walkSt, pick, List.getElem?_cons_succ, List.getElem?_cons_zero, List.drop_succ_cons, List.drop_zero]
      (repeat (first | (go_big_quiet_want; (first | (refine quiet_slcLH 0 (0 + 0) ?_) | refine quiet_slcN ?_); go_big_quiet_on) | (first | (go_big_quiet_step (fail)) | (go_big_quiet_want; (first | refine quiet_ld S ?_ | refine quiet_ld8 S ?_ | refine quiet_ld0 ?_ | refine quiet_ldA S ?_ | refine quiet_b2sB S ?_ | refine quiet_b2sR S ?_ | refine quiet_ldc S ?_); go_big_quiet_on))))
      refine wpQuiet_nil ?_
      go_wp2_with (first | go_big_skip | ((with_reducible show Code.wp _ (Code.region _ _ true) _ _ _); refine St.regionLast S ?_; (repeat (first | (go_big_quiet_step (fail)) | (go_big_quiet_want; (first | refine quiet_ld S ?_ | refine quiet_ld8 S ?_ | refine quiet_ld0 ?_ | refine quiet_ldA S ?_ | refine quiet_b2sB S ?_ | refine quiet_b2sR S ?_ | refine quiet_ldc S ?_); go_big_quiet_on))); refine wpQuiet_nil ?_; clear S; intro wq S) | go_big_skip | (refine wpList_ld S ?_) | (refine wpList_ld8 S ?_) | (refine wpList_ld0 ?_) | (refine wpList_ldA S ?_) | (refine wpList_st8 S ?_; (clear S; intro ws S)) | (refine wpList_st S ?_; (clear S; intro ws S)) | (refine wpList_box S ?_; (clear S; intro nb wb hnb S)) | (refine wpList_alloc S ?_; (clear S; intro nb wb hnb S)) | (refine wpList_mk8 S ?_; (clear S; intro nb wb hnb S)) | (refine wpList_mk S ?_; (clear S; intro nb wb hnb S)) | (refine wpList_bs S ?_; (clear S; intro nb wb hnb S)) | (refine wpList_stA S ?_; (clear S; intro ws S; simp only [splice, List.take_zero, List.take_succ_cons, List.drop_succ_cons, List.drop_zero, List.drop_nil, List.length_cons, List.length_nil, Nat.reduceAdd, Nat.zero_add, List.nil_append, List.cons_append, List.append_nil] at S)) | (refine wpList_b2sB S ?_) | (refine wpList_b2sR S ?_) | (refine wpList_ldc S ?_))
      ((first | go_ret | go_ret2 | go_ret3 | go_end0 | skip); refine hR.out _ _ ?_)
      refine ⟨none, some (cutAt bd 0 cb 1), ca, cb - 0, rfl, Nat.zero_le _, Nat.zero_le _, fun x hx => ?_, fun x hx => by unfold bls; rw [List.map_take, List.map_drop]; exact part_src rfl hcb hx (bls_one _) hfk.out, S⟩
      rw [List.take_zero]; exact Src.nil x 1 _
    | none =>
      refine St.regionG S 17 [] [0, 1, 2, 3, 4, 5, 6, 7, 8, 9, 10, 11, 12, 13, 14, 15, 16] ?_
      clear S; intro wr S; simp only [walkSt, pick, List.getElem?_cons_succ, List.getElem?_cons_zero, List.drop_succ_cons, List.drop_zero]
      (repeat (first | (go_big_quiet_want; (first | (refine quiet_slcLH 0 (0 + 0) ?_) | refine quiet_slcN ?_); go_big_quiet_on) | (first | (go_big_quiet_step (fail)) | (go_big_quiet_want; (first | refine quiet_ld S ?_ | refine quiet_ld8 S ?_ | refine quiet_ld0 ?_ | refine quiet_ldA S ?_ | refine quiet_b2sB S ?_ | refine quiet_b2sR S ?_ | refine quiet_ldc S ?_); go_big_quiet_on))))
      refine wpQuiet_nil ?_
      go_wp2_with (first | go_big_skip | ((with_reducible show Code.wp _ (Code.region _ _ true) _ _ _); refine St.regionLast S ?_; (repeat (first | (go_big_quiet_step (fail)) | (go_big_quiet_want; (first | refine quiet_ld S ?_ | refine quiet_ld8 S ?_ | refine quiet_ld0 ?_ | refine quiet_ldA S ?_ | refine quiet_b2sB S ?_ | refine quiet_b2sR S ?_ | refine quiet_ldc S ?_); go_big_quiet_on))); refine wpQuiet_nil ?_; clear S; intro wq S) | go_big_skip | (refine wpList_ld S ?_) | (refine wpList_ld8 S ?_) | (refine wpList_ld0 ?_) | (refine wpList_ldA S ?_) | (refine wpList_st8 S ?_; (clear S; intro ws S)) | (refine wpList_st S ?_; (clear S; intro ws S)) | (refine wpList_box S ?_; (clear S; intro nb wb hnb S)) | (refine wpList_alloc S ?_; (clear S; intro nb wb hnb S)) | (refine wpList_mk8 S ?_; (clear S; intro nb wb hnb S)) | (refine wpList_mk S ?_; (clear S; intro nb wb hnb S)) | (refine wpList_bs S ?_; (clear S; intro nb wb hnb S)) | (refine wpList_stA S ?_; (clear S; intro ws S; simp only [splice, List.take_zero, List.take_succ_cons, List.drop_succ_cons, List.drop_zero, List.drop_nil, List.length_cons, List.length_nil, Nat.reduceAdd, Nat.zero_add, List.nil_append, List.cons_append, List.append_nil] at S)) | (refine wpList_b2sB S ?_) | (refine wpList_b2sR S ?_) | (refine wpList_ldc S ?_))
      ((first | go_ret | go_ret2 | go_ret3 | go_end0 | skip); refine hR.out _ _ ?_)
      refine ⟨none, none, ca, cb, rfl, Nat.zero_le _, Nat.zero_le _, fun x hx => ?_, fun x hx => ?_, S⟩
      · rw [List.take_zero]; exact Src.nil x 1 _
      · rw [List.take_zero]; exact Src.nil x 1 _
end Go.Proofs.YtbklhnpnkinadaaDoor
