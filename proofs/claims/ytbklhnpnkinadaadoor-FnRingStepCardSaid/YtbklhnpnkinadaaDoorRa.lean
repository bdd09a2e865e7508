/- The ring buffer of the library: where a byte lies, reads. -/
import Derived.Test.YtbklhnpnkinadaaDoorRiW
import Derived.Test.YtbklhnpnkinadaaDoorSlc
import Derived.Test.YtbklhnpnkinadaaDoorTy
import Derived.Test.YtbklhnpnkinadaaDoorDoor
import Derived.Test.YtbklhnpnkinadaaDoorRet
import Derived.Deep.DeepCutAuto
namespace Go.Vil
open Go.RowKit
section
variable {P : Program} {ops : Array Oper} {Q : Exit → Act → World → Prop} {rest : List Oper} {o : Oper} {a : Act} {w w' : World}
/-- copy into a part of a block: as many bytes as both have. -/
theorem wpList_copyM {w0 : World} {bs : List Nat} {L L' : List Res} (S : St w0 bs w L) {sv : Value} {src : List UInt8} {n : Nat} (hs : Src w 1 sv n (u8s src)) (k0 : Nat) {x y : Operand} {t tx e : TypeId} {z : Value} {bytes : Nat} {b i dLen dCap : Nat} {l : List UInt8} {T : TypeId} {a' : Act}
    (k : ∀ w', St w0 bs w' L' → wpList P ops Q rest a' w')
    (hw : Region.wanted o (yielded ops a.tmps) = true := by rfl) (ho : o.op = .call { callee := .builtin .copy, args := #[x, y], argTypes := #[t, tx] } := by rfl)
    (ht : TSlice P t e := by infer_instance) (he : TElem P e z 1 bytes := by infer_instance)
    (hx : slot a x = some (.slice (some ⟨b, i, none⟩) dLen dCap) := by rfl) (hy : slot a y = some sv := by rfl)
    (hA : At (.blk b (.cells (u8s l).toArray T (0, 0))) (.blk b (.cells (u8s (splice l i (src.take k0))).toArray T (0, 0))) L L' := by repeat (first | exact At.head | apply At.tail))
    (hfit : i + dLen ≤ l.length := by (first | omega | (simp; done) | (simp; omega))) (hn : min n dLen = k0 := by omega)
    (hput : Put a o.dst (.int .i64 (k0 : Nat)) a' := by exact put_of (by conv => lhs; simp only [List.set_cons_succ, List.set_cons_zero])) : wpList P ops Q (o :: rest) a w := by
  have hln : src.length = n := hs.len8
  have hm : Nat.min src.length dLen = k0 := by show min src.length dLen = k0; omega
  exact wpList_copy8 S hs k hw ho ht he hx hy (by rw [hm]; exact hA) hfit (by rw [hm]; exact hput)
/-- A load of a cell that was there ahead of all and does not lie in what turns. -/
theorem wpList_ldE {w0 : World} {bs : List Nat} {L : List Res} (S : St w0 bs w L) {a' : Act} {ty : TypeId} {x : Operand} {ad : Addr} {v : Value}
    (hc : w0.cell? ad = some v) (hn : ad.block ∉ bs)
    (k : wpList P ops Q rest a' w)
    (hw : Region.wanted o (yielded ops a.tmps) = true := by rfl) (ho : o.op = .load ty x := by rfl) (hT0 : TOne P ty := by infer_instance) (ha : a.eval x = .pointer (some ad) := by rfl)
    (hput : Put a o.dst v a' := by exact put_of (by conv => lhs; simp only [List.set_cons_succ, List.set_cons_zero])) : wpList P ops Q (o :: rest) a w :=
  wpList_run hw (run_ld ty x ho ha (S.chg.cell hc hn)) (hput.is ▸ k)
theorem quiet_ldE {w0 wc : World} {bs : List Nat} {L : List Res} (S : St w0 bs wc L) {K : Act → Prop} {a' : Act} {ty : TypeId} {x : Operand} {ad : Addr} {v : Value}
    (hc : w0.cell? ad = some v) (hn : ad.block ∉ bs)
    (k : K a')
    (ho : o.op = .load ty x := by rfl) (hT0 : TOne P ty := by infer_instance) (ha : a.eval x = .pointer (some ad) := by rfl)
    (hput : Put a o.dst v a' := by exact put_of (by conv => lhs; simp only [List.set_cons_succ, List.set_cons_zero])) : o.quiet P a (fun w' => ∃ p : StW wc w0 bs L, w' = p.w) K :=
  quiet_run (fun _ hS => run_ld ty x ho ha ((S.of hS).chg.cell hc hn)) (hput.is ▸ k)
end
theorem retT2 {k : IntKind} {a b : Int} {v : Value} (h : a = b) : Ending.returned (.tuple #[.int k a, v]) = .returned (.tuple #[.int k b, v]) := by rw [h]
theorem take_minl {α : Type} {l : List α} {p n : Nat} (h : l.length = n) : l.take (min p n) = l.take p := by
  subst h
  exact (List.take_eq_take_min).symm
theorem cutN_low {i o c : Nat} (h : o < c) : cutN i o c = i + o := if_neg (by omega)
end Go.Vil
namespace Go.Proofs.YtbklhnpnkinadaaDoor
open Go Go.RowKit Go.Vil
set_option linter.unusedSimpArgs false
set_option linter.unusedVariables false
set_option maxRecDepth 100000

/-- A ring buffer as it lies in memory, perhaps with other cells behind it; its bytes, with room behind them. -/
abbrev rHead (q m : Nat) (T : TypeId) (b e : Int) (n c : Nat) (ix : Int) (post : List Value) : Res :=
  .blk q (.cells (.int .i64 b :: .int .i64 e :: .slice (some ⟨m, 0, none⟩) n c :: .int .i64 ix :: post).toArray T (0, 0))
abbrev rBlk (m : Nat) (l sl : List UInt8) : Res := .blk m (.cells (u8s (l ++ sl)).toArray 5 (0, 0))
abbrev rMem (q m : Nat) (T : TypeId) (r : Ri) (sl : List UInt8) (post : List Value) : List Res := [rHead q m T r.b r.e r.data.length (r.data ++ sl).length r.ix post, rBlk m r.data sl]
theorem _root_.Go.Vil.St.head {w w' : World} {bs : List Nat} {L : List Res} {q m n c : Nat} {T : TypeId} {b e ix b' e' ix' : Int} {post : List Value} (S : St w bs w' (rHead q m T b e n c ix post :: L)) (hb : b = b') (he : e = e') (hi : ix = ix') : St w bs w' (rHead q m T b' e' n c ix' post :: L) := by
  subst hb he hi
  exact S
/-- A ring within bounds. -/
structure Snug (r : Ri) (W : List UInt8) (c : Nat) : Prop where
  has : r.Has W
  e : r.e ≤ 1152921504606846976
  size : r.data.length ≤ 1073741824
  cap : r.data.length ≤ c

theorem _root_.Go.Vil.Src.bare {w : World} {n c : Nat} {oa : Option Addr} {xs : List UInt8} (h : Src w 1 (.slice oa n c) n (u8s xs)) (hn : 0 < n) : ∃ ad, oa = some ad := by
  cases oa with
  | some ad => exact ⟨ad, rfl⟩
  | none =>
    have h1 := (h.2.2 : n = n ∧ u8s xs = []).2
    have h2 := h.len8
    simp [u8s] at h1; subst h1; simp at h2; omega
set_option maxHeartbeats 800000 in
theorem ringOff (q m : Nat) (T : TypeId) (r : Ri) (W : List UInt8) (c k : Nat) (post : List Value) (z : Int) (w : World) (hz : z = r.b + k)
    (hM : Mem w [rHead q m T r.b r.e r.data.length c r.ix post]) (h : Snug r W c) (hk : k ≤ W.length) :
    Calls Tryd.prog 74 #[.pointer (some ⟨q, 0, none⟩), .int .i64 z] w fun e w' => e = .returned (.int .i64 (r.at' k : Nat)) ∧ St w [q] w' [rHead q m T r.b r.e r.data.length c r.ix post] := by
  subst hz
  have S : St w [q] w _ := St.start hM
  clear hM
  obtain ⟨hh, h2, h3, h4⟩ := h
  have h5 := hh.le
  have h6 := hh.len
  have h7 := hh.fit
  have h8 := hh.ix
  have hsz : r.size = r.data.length := rfl
  have hle : r.len = r.e - r.b := rfl
  have hat := Ri.at_calc hh (k := k) (by omega)
  rw [hsz] at h7 h8 hat
  have hk2 : k ≤ r.e - r.b := by omega
  refine Calls.cps ?_; intro R hR
  go_enter Tryd.func74, Tryd.ntmps74
  by_cases hf : r.len < r.data.length
  · have hb : r.base = 0 := if_pos hf
    rw [hb, if_neg (by omega), Nat.zero_add] at hat
    replace hat := hidden hat
    clear hb h6
    go_wp2_with (first | go_big_skip | ((with_reducible show Code.wp _ (Code.region _ _ true) _ _ _); refine St.regionLast S ?_; (repeat (first | (go_big_quiet_step (fail)) | (go_big_quiet_want; (first | refine quiet_ld S ?_ | refine quiet_ld8 S ?_ | refine quiet_ld0 ?_ | refine quiet_ldA S ?_ | refine quiet_b2sB S ?_ | refine quiet_b2sR S ?_ | refine quiet_ldc S ?_); go_big_quiet_on))); refine wpQuiet_nil ?_; clear S; intro wq S) | go_big_skip | (refine wpList_ld S ?_) | (refine wpList_ld8 S ?_) | (refine wpList_ld0 ?_) | (refine wpList_ldA S ?_) | (refine wpList_st8 S ?_; (clear S; intro ws S)) | (refine wpList_st S ?_; (clear S; intro ws S)) | (refine wpList_box S ?_; (clear S; intro nb wb hnb S)) | (refine wpList_alloc S ?_; (clear S; intro nb wb hnb S)) | (refine wpList_mk8 S ?_; (clear S; intro nb wb hnb S)) | (refine wpList_mk S ?_; (clear S; intro nb wb hnb S)) | (refine wpList_bs S ?_; (clear S; intro nb wb hnb S)) | (refine wpList_stA S ?_; (clear S; intro ws S; simp only [splice, List.take_zero, List.take_succ_cons, List.drop_succ_cons, List.drop_zero, List.drop_nil, List.length_cons, List.length_nil, Nat.reduceAdd, Nat.zero_add, List.nil_append, List.cons_append, List.append_nil] at S)) | (refine wpList_b2sB S ?_) | (refine wpList_b2sR S ?_) | (refine wpList_ldc S ?_))
    ((first | go_ret | go_ret2 | go_ret3 | go_end0 | skip); refine hR.out _ _ ?_)
    refine ⟨retI (by rw [hat.out]; omega), S⟩
  · have hb : r.base = r.ix := if_neg hf
    rw [hb] at hat
    clear hb h6
    by_cases hg : r.data.length ≤ r.ix + k
    · rw [if_pos hg] at hat
      replace hat := hidden hat
      go_wp2_with (first | go_big_skip | ((with_reducible show Code.wp _ (Code.region _ _ true) _ _ _); refine St.regionLast S ?_; (repeat (first | (go_big_quiet_step (fail)) | (go_big_quiet_want; (first | refine quiet_ld S ?_ | refine quiet_ld8 S ?_ | refine quiet_ld0 ?_ | refine quiet_ldA S ?_ | refine quiet_b2sB S ?_ | refine quiet_b2sR S ?_ | refine quiet_ldc S ?_); go_big_quiet_on))); refine wpQuiet_nil ?_; clear S; intro wq S) | go_big_skip | (refine wpList_ld S ?_) | (refine wpList_ld8 S ?_) | (refine wpList_ld0 ?_) | (refine wpList_ldA S ?_) | (refine wpList_st8 S ?_; (clear S; intro ws S)) | (refine wpList_st S ?_; (clear S; intro ws S)) | (refine wpList_box S ?_; (clear S; intro nb wb hnb S)) | (refine wpList_alloc S ?_; (clear S; intro nb wb hnb S)) | (refine wpList_mk8 S ?_; (clear S; intro nb wb hnb S)) | (refine wpList_mk S ?_; (clear S; intro nb wb hnb S)) | (refine wpList_bs S ?_; (clear S; intro nb wb hnb S)) | (refine wpList_stA S ?_; (clear S; intro ws S; simp only [splice, List.take_zero, List.take_succ_cons, List.drop_succ_cons, List.drop_zero, List.drop_nil, List.length_cons, List.length_nil, Nat.reduceAdd, Nat.zero_add, List.nil_append, List.cons_append, List.append_nil] at S)) | (refine wpList_b2sB S ?_) | (refine wpList_b2sR S ?_) | (refine wpList_ldc S ?_))
      ((first | go_ret | go_ret2 | go_ret3 | go_end0 | skip); refine hR.out _ _ ?_)
      refine ⟨retI (by rw [hat.out]; omega), S⟩
    · rw [if_neg hg] at hat
      replace hat := hidden hat
      go_wp2_with (first | go_big_skip | ((with_reducible show Code.wp _ (Code.region _ _ true) _ _ _); refine St.regionLast S ?_; (repeat (first | (go_big_quiet_step (fail)) | (go_big_quiet_want; (first | refine quiet_ld S ?_ | refine quiet_ld8 S ?_ | refine quiet_ld0 ?_ | refine quiet_ldA S ?_ | refine quiet_b2sB S ?_ | refine quiet_b2sR S ?_ | refine quiet_ldc S ?_); go_big_quiet_on))); refine wpQuiet_nil ?_; clear S; intro wq S) | go_big_skip | (refine wpList_ld S ?_) | (refine wpList_ld8 S ?_) | (refine wpList_ld0 ?_) | (refine wpList_ldA S ?_) | (refine wpList_st8 S ?_; (clear S; intro ws S)) | (refine wpList_st S ?_; (clear S; intro ws S)) | (refine wpList_box S ?_; (clear S; intro nb wb hnb S)) | (refine wpList_alloc S ?_; (clear S; intro nb wb hnb S)) | (refine wpList_mk8 S ?_; (clear S; intro nb wb hnb S)) | (refine wpList_mk S ?_; (clear S; intro nb wb hnb S)) | (refine wpList_bs S ?_; (clear S; intro nb wb hnb S)) | (refine wpList_stA S ?_; (clear S; intro ws S; simp only [splice, List.take_zero, List.take_succ_cons, List.drop_succ_cons, List.drop_zero, List.drop_nil, List.length_cons, List.length_nil, Nat.reduceAdd, Nat.zero_add, List.nil_append, List.cons_append, List.append_nil] at S)) | (refine wpList_b2sB S ?_) | (refine wpList_b2sR S ?_) | (refine wpList_ldc S ?_))
      ((first | go_ret | go_ret2 | go_ret3 | go_end0 | skip); refine hR.out _ _ ?_)
      refine ⟨retI (by rw [hat.out]; omega), S⟩
/-- What lies in a block of bytes, as a source. -/
theorem _root_.Go.Vil.St.srcIn {w0 w : World} {bs : List Nat} {L F : List Res} (S : St w0 bs w L) {b o n c : Nat} {l xs : List UInt8} {T : TypeId} {fr : Nat × Nat} (hp : Pull (.blk b (.cells (u8s l).toArray T fr)) L F) (hl : o + n ≤ l.length) (hx : (l.drop o).take n = xs) :
    Src w 1 (.slice (some ⟨b, o, none⟩) n c) n (u8s xs) := by
  have := S.src8 (b := b) (o := o) (m := n) (c := c) (l := l) hp hl
  rwa [hx] at this
theorem low_src {l sl x : List UInt8} {i s n : Nat} (h : s + n ≤ i) (hi : i + x.length ≤ l.length) : ((splice l i x ++ sl).drop s).take n = (l.drop s).take n := by
  have hl : (splice l i x).length = l.length := splice_length _ _ _ hi
  rw [List.drop_append_of_le_length (by omega), List.take_append_of_le_length (by rw [List.length_drop]; omega)]
  exact Ri.splice_low h (by omega)

/-- A package-level variable that holds an error, apart from what turns. -/
def GErr (w : World) (bs : List Nat) (g : Nat) (v : Value) : Prop := w.cell? ⟨g, 0, none⟩ = some v ∧ g ∉ bs

set_option maxHeartbeats 1600000 in
theorem ringRead (q m pb : Nat) (T TB : TypeId) (r : Ri) (W sl l : List UInt8) (k i0 pn pc : Nat) (post : List Value) (z : Int) (ev : Value) (w : World) (hz : z = r.b + k)
    (hM : Mem w [rHead q m T r.b r.e r.data.length (r.data ++ sl).length r.ix post, rBlk m r.data sl, .blk pb (.cells (u8s l).toArray TB (0, 0))]) (h : Snug r W (r.data ++ sl).length) (hk : k ≤ W.length)
    (hp : i0 + pn ≤ l.length) (hpc : pn ≤ pc) (hpl : pn ≤ 1073741824) (hE : W.length - k < pn → GErr w [q, m, pb] 1 ev) :
    Calls Tryd.prog 49 #[.pointer (some ⟨q, 0, none⟩), .slice (some ⟨pb, i0, none⟩) pn pc, .int .i64 z] w fun e w' =>
      e = .returned (.tuple #[.int .i64 (min pn (W.length - k) : Nat), if W.length - k < pn then ev else .nilIface]) ∧ St w [q, m, pb] w' [rHead q m T r.b r.e r.data.length (r.data ++ sl).length r.ix post, rBlk m r.data sl, .blk pb (.cells (u8s (splice l i0 ((W.drop k).take pn))).toArray TB (0, 0))] := by
  subst hz
  have S : St w [q, m, pb] w _ := St.start hM
  clear hM
  have hs := hidden h
  obtain ⟨hh, h2, h3, h4⟩ := h
  have h5 := hh.le
  have h6 := hh.len
  have h7 := hh.fit
  have hat := Ri.at_lt hh k
  have hsz : r.size = r.data.length := rfl
  have hle : r.len = r.e - r.b := rfl
  have hwk : W.length - k = r.e - (r.b + k) := by omega
  have hk2 : r.b + k ≤ r.e := by omega
  have hb1 : decide ((r.e : Int) < (r.b : Int) + (k : Int)) = false := decide_eq_false (by omega)
  rw [hsz] at h7 hat
  have hcl : (r.data ++ sl).length = r.data.length + sl.length := List.length_append
  generalize hC : (r.data ++ sl).length = C at *
  have hone := @Ri.rest_one r W hh k
  have htwo := @Ri.rest_two r W hh k
  rw [hsz] at hone htwo
  replace hone := hidden hone
  replace htwo := hidden htwo
  replace hE := hidden hE
  replace hh := hidden hh
  replace hk := hidden hk
  clear hle hsz
  refine Calls.cps ?_; intro R hR
  go_enter Tryd.func49, Tryd.ntmps49
  go_wp2_with (first | go_big_skip | ((with_reducible show Code.wp _ (Code.region _ _ true) _ _ _); refine St.regionLast S ?_; (repeat (first | (go_big_quiet_step (fail)) | (go_big_quiet_want; (first | refine quiet_ld S ?_ | refine quiet_ld8 S ?_ | refine quiet_ld0 ?_ | refine quiet_ldA S ?_ | refine quiet_b2sB S ?_ | refine quiet_b2sR S ?_ | refine quiet_ldc S ?_); go_big_quiet_on))); refine wpQuiet_nil ?_; clear S; intro wq S) | go_big_skip | (refine wpList_ld S ?_) | (refine wpList_ld8 S ?_) | (refine wpList_ld0 ?_) | (refine wpList_ldA S ?_) | (refine wpList_st8 S ?_; (clear S; intro ws S)) | (refine wpList_st S ?_; (clear S; intro ws S)) | (refine wpList_box S ?_; (clear S; intro nb wb hnb S)) | (refine wpList_alloc S ?_; (clear S; intro nb wb hnb S)) | (refine wpList_mk8 S ?_; (clear S; intro nb wb hnb S)) | (refine wpList_mk S ?_; (clear S; intro nb wb hnb S)) | (refine wpList_bs S ?_; (clear S; intro nb wb hnb S)) | (refine wpList_stA S ?_; (clear S; intro ws S; simp only [splice, List.take_zero, List.take_succ_cons, List.drop_succ_cons, List.drop_zero, List.drop_nil, List.length_cons, List.length_nil, Nat.reduceAdd, Nat.zero_add, List.nil_append, List.cons_append, List.append_nil] at S)) | (refine wpList_b2sB S ?_) | (refine wpList_b2sR S ?_) | (refine wpList_ldc S ?_))
  refine Calls.mono (ringOff q m T r W C k post _ _ rfl S.sel1 hs.out hk.out) ?_
  rintro e w2 ⟨rfl, C1⟩
  have S2 := S.call C1; clear S C1; simp only [List.cons_append, List.nil_append] at S2; have S := S2; clear S2
  generalize r.at' k = at0 at *
  go_upto_if 42 with (first | ((with_reducible show Code.wp _ (Code.region _ _ true) _ _ _); refine St.regionLast S ?_; (repeat (first | (go_big_quiet_step (fail)) | (go_big_quiet_want; (first | refine quiet_ld S ?_ | refine quiet_ld8 S ?_ | refine quiet_ld0 ?_ | refine quiet_ldA S ?_ | refine quiet_b2sB S ?_ | refine quiet_b2sR S ?_ | refine quiet_ldc S ?_); go_big_quiet_on))); refine wpQuiet_nil ?_; clear S; intro wq S) | go_big_skip | (refine wpList_ld S ?_) | (refine wpList_ld8 S ?_) | (refine wpList_ld0 ?_) | (refine wpList_ldA S ?_) | (refine wpList_st8 S ?_; (clear S; intro ws S)) | (refine wpList_st S ?_; (clear S; intro ws S)) | (refine wpList_box S ?_; (clear S; intro nb wb hnb S)) | (refine wpList_alloc S ?_; (clear S; intro nb wb hnb S)) | (refine wpList_mk8 S ?_; (clear S; intro nb wb hnb S)) | (refine wpList_mk S ?_; (clear S; intro nb wb hnb S)) | (refine wpList_bs S ?_; (clear S; intro nb wb hnb S)) | (refine wpList_stA S ?_; (clear S; intro ws S; simp only [splice, List.take_zero, List.take_succ_cons, List.drop_succ_cons, List.drop_zero, List.drop_nil, List.length_cons, List.length_nil, Nat.reduceAdd, Nat.zero_add, List.nil_append, List.cons_append, List.append_nil] at S)) | (refine wpList_b2sB S ?_) | (refine wpList_b2sR S ?_) | (refine wpList_ldc S ?_))
  go_cut [6] (fun n w' => n = .int .i64 (min pn (W.length - k) : Nat) ∧ St w [q, m, pb] w' [rHead q m T r.b r.e r.data.length C r.ix post, rBlk m r.data sl, .blk pb (.cells (u8s (splice l i0 ((W.drop k).take pn))).toArray TB (0, 0))])
  case first =>
    by_cases c1 : at0 + (W.length - k) ≤ r.data.length
    · obtain ⟨re, hre⟩ : ∃ re, re = at0 + (W.length - k) := ⟨_, rfl⟩
      have hsrc : Src w2 1 (.slice (some ⟨m, at0, none⟩) (re - at0) (C - at0)) (re - at0) (u8s (W.drop k)) := by
        have := S.src8 (b := m) (o := at0) (m := re - at0) (c := C - at0) (l := r.data ++ sl) (by repeat (first | exact Pull.head | apply Pull.tail)) (by omega)
        rwa [List.drop_append_of_le_length (by omega), List.take_append_of_le_length (by rw [List.length_drop]; omega), show re - at0 = W.length - k by omega, hone.out c1, show W.length - k = re - at0 by omega] at this
      replace hsrc := hidden hsrc
      go_wp2_with (first | (refine wpList_slcBH at0 re ?_; rw [cutN_low (by omega), Nat.zero_add]) | (refine wpList_copyM S hsrc.out (min pn (re - at0)) ?_; (clear S; intro ws S)) | ((with_reducible show Code.wp _ (Code.region _ _ true) _ _ _); refine St.regionLast S ?_; (repeat (first | (go_big_quiet_step (fail)) | (go_big_quiet_want; (first | refine quiet_ld S ?_ | refine quiet_ld8 S ?_ | refine quiet_ld0 ?_ | refine quiet_ldA S ?_ | refine quiet_b2sB S ?_ | refine quiet_b2sR S ?_ | refine quiet_ldc S ?_); go_big_quiet_on))); refine wpQuiet_nil ?_; clear S; intro wq S) | go_big_skip | (refine wpList_ld S ?_) | (refine wpList_ld8 S ?_) | (refine wpList_ld0 ?_) | (refine wpList_ldA S ?_) | (refine wpList_st8 S ?_; (clear S; intro ws S)) | (refine wpList_st S ?_; (clear S; intro ws S)) | (refine wpList_box S ?_; (clear S; intro nb wb hnb S)) | (refine wpList_alloc S ?_; (clear S; intro nb wb hnb S)) | (refine wpList_mk8 S ?_; (clear S; intro nb wb hnb S)) | (refine wpList_mk S ?_; (clear S; intro nb wb hnb S)) | (refine wpList_bs S ?_; (clear S; intro nb wb hnb S)) | (refine wpList_stA S ?_; (clear S; intro ws S; simp only [splice, List.take_zero, List.take_succ_cons, List.drop_succ_cons, List.drop_zero, List.drop_nil, List.length_cons, List.length_nil, Nat.reduceAdd, Nat.zero_add, List.nil_append, List.cons_append, List.append_nil] at S)) | (refine wpList_b2sB S ?_) | (refine wpList_b2sR S ?_) | (refine wpList_ldc S ?_))
      go_meet
      refine ⟨by rw [show re - at0 = W.length - k by omega], ?_⟩
      rw [show min pn (re - at0) = min pn (W.length - k) by omega] at S
      rw [take_minl List.length_drop] at S
      exact S
    · obtain ⟨re, hre⟩ : ∃ re, re = at0 + (W.length - k) := ⟨_, rfl⟩
      have htw := htwo.out (by omega)
      have hsrc : Src w2 1 (.slice (some ⟨m, at0, none⟩) (r.data.length - at0) (C - at0)) (r.data.length - at0) (u8s (r.data.drop at0)) := by
        have := S.src8 (b := m) (o := at0) (m := r.data.length - at0) (c := C - at0) (l := r.data ++ sl) (by repeat (first | exact Pull.head | apply Pull.tail)) (by omega)
        rwa [List.drop_append_of_le_length (by omega), List.take_append_of_le_length (Nat.le_of_eq List.length_drop.symm), List.take_of_length_le (Nat.le_of_eq List.length_drop)] at this
      replace hsrc := hidden hsrc
      by_cases c2 : pn ≤ r.data.length - at0
      · go_wp2_with (first | (refine wpList_slcB at0 ?_; rw [cutN_low (by omega), Nat.zero_add]) | (refine wpList_copyM S hsrc.out pn ?_; (clear S; intro ws S)) | ((with_reducible show Code.wp _ (Code.region _ _ true) _ _ _); refine St.regionLast S ?_; (repeat (first | (go_big_quiet_step (fail)) | (go_big_quiet_want; (first | refine quiet_ld S ?_ | refine quiet_ld8 S ?_ | refine quiet_ld0 ?_ | refine quiet_ldA S ?_ | refine quiet_b2sB S ?_ | refine quiet_b2sR S ?_ | refine quiet_ldc S ?_); go_big_quiet_on))); refine wpQuiet_nil ?_; clear S; intro wq S) | go_big_skip | (refine wpList_ld S ?_) | (refine wpList_ld8 S ?_) | (refine wpList_ld0 ?_) | (refine wpList_ldA S ?_) | (refine wpList_st8 S ?_; (clear S; intro ws S)) | (refine wpList_st S ?_; (clear S; intro ws S)) | (refine wpList_box S ?_; (clear S; intro nb wb hnb S)) | (refine wpList_alloc S ?_; (clear S; intro nb wb hnb S)) | (refine wpList_mk8 S ?_; (clear S; intro nb wb hnb S)) | (refine wpList_mk S ?_; (clear S; intro nb wb hnb S)) | (refine wpList_bs S ?_; (clear S; intro nb wb hnb S)) | (refine wpList_stA S ?_; (clear S; intro ws S; simp only [splice, List.take_zero, List.take_succ_cons, List.drop_succ_cons, List.drop_zero, List.drop_nil, List.length_cons, List.length_nil, Nat.reduceAdd, Nat.zero_add, List.nil_append, List.cons_append, List.append_nil] at S)) | (refine wpList_b2sB S ?_) | (refine wpList_b2sR S ?_) | (refine wpList_ldc S ?_))
        go_meet
        refine ⟨by rw [show min pn (W.length - k) = pn by omega], ?_⟩
        rw [← htw, List.take_append_of_le_length (by rw [List.length_drop]; omega)]
        exact S
      · go_upto_region 9 with (first | (refine wpList_slcB at0 ?_; rw [cutN_low (by omega), Nat.zero_add]) | (refine wpList_copyM S hsrc.out (r.data.length - at0) ?_; (clear S; intro ws S)) | ((with_reducible show Code.wp _ (Code.region _ _ true) _ _ _); refine St.regionLast S ?_; (repeat (first | (go_big_quiet_step (fail)) | (go_big_quiet_want; (first | refine quiet_ld S ?_ | refine quiet_ld8 S ?_ | refine quiet_ld0 ?_ | refine quiet_ldA S ?_ | refine quiet_b2sB S ?_ | refine quiet_b2sR S ?_ | refine quiet_ldc S ?_); go_big_quiet_on))); refine wpQuiet_nil ?_; clear S; intro wq S) | go_big_skip | (refine wpList_ld S ?_) | (refine wpList_ld8 S ?_) | (refine wpList_ld0 ?_) | (refine wpList_ldA S ?_) | (refine wpList_st8 S ?_; (clear S; intro ws S)) | (refine wpList_st S ?_; (clear S; intro ws S)) | (refine wpList_box S ?_; (clear S; intro nb wb hnb S)) | (refine wpList_alloc S ?_; (clear S; intro nb wb hnb S)) | (refine wpList_mk8 S ?_; (clear S; intro nb wb hnb S)) | (refine wpList_mk S ?_; (clear S; intro nb wb hnb S)) | (refine wpList_bs S ?_; (clear S; intro nb wb hnb S)) | (refine wpList_stA S ?_; (clear S; intro ws S; simp only [splice, List.take_zero, List.take_succ_cons, List.drop_succ_cons, List.drop_zero, List.drop_nil, List.length_cons, List.length_nil, Nat.reduceAdd, Nat.zero_add, List.nil_append, List.cons_append, List.append_nil] at S)) | (refine wpList_b2sB S ?_) | (refine wpList_b2sR S ?_) | (refine wpList_ldc S ?_))
        rw [List.take_of_length_le (by rw [List.length_drop]; omega)] at S
        have hyl : (splice l i0 (r.data.drop at0)).length = l.length := splice_length _ _ _ (by rw [List.length_drop]; omega)
        refine St.regionC S [rHead q m T r.b r.e r.data.length C r.ix post, rBlk m r.data sl] 19 [([0, 1, 2, 3, 4, 5, 6, 7, 8, 9, 10, 11, 12, 13, 14, 15], 16)] [17, 18] ?_
        clear S; intro wr Cr S Sc; simp only [walkC, pick, List.getElem?_cons_succ, List.getElem?_cons_zero, List.drop_succ_cons, List.drop_zero]
        (repeat (first | (go_big_quiet_want; (first | (refine quiet_slcB (r.data.length - at0) ?_; rw [cutN_low (by omega)]) | refine quiet_slcH (re - r.data.length) ?_); go_big_quiet_on) | (first | (go_big_quiet_step (fail)) | (go_big_quiet_want; (first | refine quiet_ld Sc ?_ | refine quiet_ld8 Sc ?_ | refine quiet_ld0 ?_ | refine quiet_ldA Sc ?_ | refine quiet_b2sB Sc ?_ | refine quiet_b2sR Sc ?_ | refine quiet_ldc Sc ?_); go_big_quiet_on))))
        refine wpQuiet_nil ?_
        have hsrc2 : Src wr 1 (.slice (some ⟨m, 0, none⟩) (re - r.data.length) C) (re - r.data.length) (u8s (r.data.take (re - r.data.length))) := by
          have := S.src8 (b := m) (o := 0) (m := re - r.data.length) (c := C) (l := r.data ++ sl) (by repeat (first | exact Pull.head | apply Pull.tail)) (by omega)
          rwa [List.drop_zero, List.take_append_of_le_length (by omega)] at this
        refine wpList_copyM S hsrc2 (min (re - r.data.length) (pn - (r.data.length - at0))) ?_
        clear S; intro ws2 S
        refine ⟨(S.sel (by repeat (first | exact Sel.nil | (apply Sel.cons; (repeat (first | exact Pull.head | apply Pull.tail)))))).inSt _, ?_⟩; (repeat (first | (go_big_quiet_step (fail)) | (go_big_quiet_want; (first | refine quiet_ld Sc ?_ | refine quiet_ld8 Sc ?_ | refine quiet_ld0 ?_ | refine quiet_ldA Sc ?_ | refine quiet_b2sB Sc ?_ | refine quiet_b2sR Sc ?_ | refine quiet_ldc Sc ?_); go_big_quiet_on))); refine wpQuiet_nil ?_
        go_wp2_with (first | go_big_skip | ((with_reducible show Code.wp _ (Code.region _ _ true) _ _ _); refine St.regionLast S ?_; (repeat (first | (go_big_quiet_step (fail)) | (go_big_quiet_want; (first | refine quiet_ld S ?_ | refine quiet_ld8 S ?_ | refine quiet_ld0 ?_ | refine quiet_ldA S ?_ | refine quiet_b2sB S ?_ | refine quiet_b2sR S ?_ | refine quiet_ldc S ?_); go_big_quiet_on))); refine wpQuiet_nil ?_; clear S; intro wq S) | go_big_skip | (refine wpList_ld S ?_) | (refine wpList_ld8 S ?_) | (refine wpList_ld0 ?_) | (refine wpList_ldA S ?_) | (refine wpList_st8 S ?_; (clear S; intro ws S)) | (refine wpList_st S ?_; (clear S; intro ws S)) | (refine wpList_box S ?_; (clear S; intro nb wb hnb S)) | (refine wpList_alloc S ?_; (clear S; intro nb wb hnb S)) | (refine wpList_mk8 S ?_; (clear S; intro nb wb hnb S)) | (refine wpList_mk S ?_; (clear S; intro nb wb hnb S)) | (refine wpList_bs S ?_; (clear S; intro nb wb hnb S)) | (refine wpList_stA S ?_; (clear S; intro ws S; simp only [splice, List.take_zero, List.take_succ_cons, List.drop_succ_cons, List.drop_zero, List.drop_nil, List.length_cons, List.length_nil, Nat.reduceAdd, Nat.zero_add, List.nil_append, List.cons_append, List.append_nil] at S)) | (refine wpList_b2sB S ?_) | (refine wpList_b2sR S ?_) | (refine wpList_ldc S ?_))
        go_meet
        have hk1 : (r.data.drop at0).length = r.data.length - at0 := List.length_drop
        have e3 : splice (splice l i0 (r.data.drop at0)) (i0 + (r.data.length - at0)) ((r.data.take (re - r.data.length)).take (min (re - r.data.length) (pn - (r.data.length - at0)))) = splice l i0 ((W.drop k).take pn) := by
          have hk2 : ((r.data.take (re - r.data.length)).take (min (re - r.data.length) (pn - (r.data.length - at0)))).length = min (re - r.data.length) (pn - (r.data.length - at0)) := by
            rw [List.length_take, List.length_take]; omega
          have := splice_splice l i0 (r.data.drop at0) ((r.data.take (re - r.data.length)).take (min (re - r.data.length) (pn - (r.data.length - at0)))) (by rw [hk1, hk2]; omega)
          rw [hk1] at this
          have e4 : (r.data.take (re - r.data.length)).take (min (re - r.data.length) (pn - (r.data.length - at0))) = (r.data.take (re - r.data.length)).take (pn - (r.data.length - at0)) := by
            rw [Nat.min_comm]; exact take_minl (by rw [List.length_take]; omega)
          have e5 : (r.data.drop at0).take pn = r.data.drop at0 := List.take_of_length_le (by rw [hk1]; omega)
          rw [this, ← htw, List.take_append, hk1, e4, e5, hre]
        rw [e3] at S
        refine ⟨?_, S⟩
        rw [show min pn (W.length - k) = r.data.length - at0 + min (re - r.data.length) (pn - (r.data.length - at0)) by omega]
        go_num
  case rest =>
    obtain ⟨rfl, S⟩ := hcut
    by_cases c1 : W.length - k < pn
    · have hEE := hE.out c1
      replace hE := hidden hEE
      have hbb : decide (((min pn (W.length - k) : Nat) : Int) < pn) = true := decide_eq_true (by omega)
      go_wp2_with (first | (refine wpList_ldE S hE.out.1 hE.out.2 ?_) | ((with_reducible show Code.wp _ (Code.region _ _ true) _ _ _); refine St.regionLast S ?_; (repeat (first | (go_big_quiet_step (fail)) | (go_big_quiet_want; (first | refine quiet_ld S ?_ | refine quiet_ld8 S ?_ | refine quiet_ld0 ?_ | refine quiet_ldA S ?_ | refine quiet_b2sB S ?_ | refine quiet_b2sR S ?_ | refine quiet_ldc S ?_); go_big_quiet_on))); refine wpQuiet_nil ?_; clear S; intro wq S) | go_big_skip | (refine wpList_ld S ?_) | (refine wpList_ld8 S ?_) | (refine wpList_ld0 ?_) | (refine wpList_ldA S ?_) | (refine wpList_st8 S ?_; (clear S; intro ws S)) | (refine wpList_st S ?_; (clear S; intro ws S)) | (refine wpList_box S ?_; (clear S; intro nb wb hnb S)) | (refine wpList_alloc S ?_; (clear S; intro nb wb hnb S)) | (refine wpList_mk8 S ?_; (clear S; intro nb wb hnb S)) | (refine wpList_mk S ?_; (clear S; intro nb wb hnb S)) | (refine wpList_bs S ?_; (clear S; intro nb wb hnb S)) | (refine wpList_stA S ?_; (clear S; intro ws S; simp only [splice, List.take_zero, List.take_succ_cons, List.drop_succ_cons, List.drop_zero, List.drop_nil, List.length_cons, List.length_nil, Nat.reduceAdd, Nat.zero_add, List.nil_append, List.cons_append, List.append_nil] at S)) | (refine wpList_b2sB S ?_) | (refine wpList_b2sR S ?_) | (refine wpList_ldc S ?_))
      ((first | go_ret | go_ret2 | go_ret3 | go_end0 | skip); refine hR.out _ _ ?_)
      exact ⟨by rw [if_pos c1]; rfl, S⟩
    · have hbb : decide (((min pn (W.length - k) : Nat) : Int) < pn) = false := decide_eq_false (by omega)
      go_wp2_with (first | go_big_skip | ((with_reducible show Code.wp _ (Code.region _ _ true) _ _ _); refine St.regionLast S ?_; (repeat (first | (go_big_quiet_step (fail)) | (go_big_quiet_want; (first | refine quiet_ld S ?_ | refine quiet_ld8 S ?_ | refine quiet_ld0 ?_ | refine quiet_ldA S ?_ | refine quiet_b2sB S ?_ | refine quiet_b2sR S ?_ | refine quiet_ldc S ?_); go_big_quiet_on))); refine wpQuiet_nil ?_; clear S; intro wq S) | go_big_skip | (refine wpList_ld S ?_) | (refine wpList_ld8 S ?_) | (refine wpList_ld0 ?_) | (refine wpList_ldA S ?_) | (refine wpList_st8 S ?_; (clear S; intro ws S)) | (refine wpList_st S ?_; (clear S; intro ws S)) | (refine wpList_box S ?_; (clear S; intro nb wb hnb S)) | (refine wpList_alloc S ?_; (clear S; intro nb wb hnb S)) | (refine wpList_mk8 S ?_; (clear S; intro nb wb hnb S)) | (refine wpList_mk S ?_; (clear S; intro nb wb hnb S)) | (refine wpList_bs S ?_; (clear S; intro nb wb hnb S)) | (refine wpList_stA S ?_; (clear S; intro ws S; simp only [splice, List.take_zero, List.take_succ_cons, List.drop_succ_cons, List.drop_zero, List.drop_nil, List.length_cons, List.length_nil, Nat.reduceAdd, Nat.zero_add, List.nil_append, List.cons_append, List.append_nil] at S)) | (refine wpList_b2sB S ?_) | (refine wpList_b2sR S ?_) | (refine wpList_ldc S ?_))
      ((first | go_ret | go_ret2 | go_ret3 | go_end0 | skip); refine hR.out _ _ ?_)
      exact ⟨by rw [if_neg c1]; rfl, S⟩
end Go.Proofs.YtbklhnpnkinadaaDoor
