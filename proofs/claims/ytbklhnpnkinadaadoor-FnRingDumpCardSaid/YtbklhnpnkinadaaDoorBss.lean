/- Lists of bytes that came in. -/
import Derived.Test.YtbklhnpnkinadaaDoorPlan3
import Derived.Test.YtbklhnpnkinadaaDoorSlc
import Derived.Test.YtbklhnpnkinadaaDoorTy
import Derived.Test.YtbklhnpnkinadaaDoorRet
import Derived.Test.YtbklhnpnkinadaaDoorOpen2
import Derived.Deep.DeepCutAuto
namespace Go.Proofs.YtbklhnpnkinadaaDoor
open Go Go.RowKit Go.ChangeShapes Go.WideShapes Go.ChangeAt Go.Deep Go.Vil
set_option linter.unusedSimpArgs false
set_option linter.unusedVariables false
set_option maxRecDepth 100000

/-- Bytes in a cell. -/
def BytesV (w : World) (d : List UInt8) (cs : List Value) : Prop := ∃ oa c, cs = [.slice oa d.length c] ∧ Src w 1 (.slice oa d.length c) d.length (u8s d) ∧ d.length ≤ c
theorem BytesV.on {w w' : World} {d : List UInt8} {cs : List Value} (h : BytesV w d cs) (C : Chg [] w w') : BytesV w' d cs := by
  obtain ⟨oa, c, h1, h2, h3⟩ := h
  exact ⟨oa, c, h1, h2.on C, h3⟩
theorem BytesV.one {w : World} {d : List UInt8} {cs : List Value} (h : BytesV w d cs) : ∀ u ∈ cs, u.oneCell' = true := by
  obtain ⟨oa, c, rfl, _⟩ := h
  intro u hu
  simp at hu
  subst hu; rfl
theorem open_bss {H : Type} {enc : TypeId × Value → H} {w : World} {base base' : Nat} {spare : Nat → Bool} {held : Bool} {r : Reach} {v : Value} {d : DataW H} {ps : List MemPlace}
    (hval : Value.okWide Tryd.prog w r base' 45 v) (hd : DataW.Trod enc Tryd.prog w base spare held 45 v d ps) : ∃ l : List (List UInt8), Arr BytesV 1 w v l := by
  refine open_arr Tryd.underlying45 (e := 22) (by kernel_rfl) (by decide) ?_ (fun a cs h => BytesV.one h) hval hd
  intro fuel cs x hl hx
  match cs, hl with
  | [c0], _ =>
    obtain ⟨m, l, h1, h2, a, c, h3, h4, h5⟩ := open_bytesC Tryd.underlying22 Tryd.underlying5 (by kernel_rfl) hx
    subst h3 h2
    exact ⟨l, a, c, rfl, h1, h5⟩

set_option maxHeartbeats 1600000 in
theorem fits3 (v : Value) (l : List (List UInt8)) (w : World) (h : Arr BytesV 1 w v l) :
    Calls Tryd.prog 17 #[v] w fun e w' => ∃ b, e = .returned (.bool b) ∧ (b = true → l.length ≤ 2147483647 ∧ ∀ d ∈ l, d.length ≤ 2147483647) ∧ St w [] w' [] := by
  have S := St.begin w
  obtain ⟨oa, c, rfl, hc⟩ := h.shape
  have hh := hidden h
  clear h
  refine Calls.cps ?_; intro R hR
  by_cases hn : (l.length : Int) > 2147483647
  · have hbb : decide ((l.length : Int) > 2147483647) = true := decide_eq_true hn
    replace hn := hidden hn
    go_enter Tryd.func17, Tryd.ntmps17
    go_wp2_with (first | go_big_skip | ((with_reducible show Code.wp _ (Code.region _ _ true) _ _ _); refine St.regionLast S ?_; (repeat (first | (go_big_quiet_step (fail)) | (go_big_quiet_want; (first | refine quiet_ld S ?_ | refine quiet_ld8 S ?_ | refine quiet_ld0 ?_ | refine quiet_ldA S ?_ | refine quiet_b2sB S ?_ | refine quiet_b2sR S ?_ | refine quiet_ldc S ?_); go_big_quiet_on))); refine wpQuiet_nil ?_; clear S; intro wq S) | go_big_skip | (refine wpList_ld S ?_) | (refine wpList_ld8 S ?_) | (refine wpList_ld0 ?_) | (refine wpList_ldA S ?_) | (refine wpList_st8 S ?_; (clear S; intro ws S)) | (refine wpList_st S ?_; (clear S; intro ws S)) | (refine wpList_box S ?_; (clear S; intro nb wb hnb S)) | (refine wpList_alloc S ?_; (clear S; intro nb wb hnb S)) | (refine wpList_mk8 S ?_; (clear S; intro nb wb hnb S)) | (refine wpList_mk S ?_; (clear S; intro nb wb hnb S)) | (refine wpList_bs S ?_; (clear S; intro nb wb hnb S)) | (refine wpList_stA S ?_; (clear S; intro ws S; simp only [splice, List.take_zero, List.take_succ_cons, List.drop_succ_cons, List.drop_zero, List.drop_nil, List.length_cons, List.length_nil, Nat.reduceAdd, Nat.zero_add, List.nil_append, List.cons_append, List.append_nil] at S)) | (refine wpList_b2sB S ?_) | (refine wpList_b2sR S ?_) | (refine wpList_ldc S ?_))
    ((first | go_ret | go_ret2 | go_ret3 | go_end0 | skip); refine hR.out _ _ ?_)
    exact ⟨_, rfl, by simp, S.sel (by repeat (first | exact Sel.nil | (apply Sel.cons; (repeat (first | exact Pull.head | apply Pull.tail)))))⟩
  have hbb : decide ((l.length : Int) > 2147483647) = false := decide_eq_false hn
  have hle : l.length ≤ 2147483647 := by omega
  replace hn := hidden hn
  go_enter Tryd.func17, Tryd.ntmps17
  go_wp2_with (first | go_big_skip | ((with_reducible show Code.wp _ (Code.region _ _ true) _ _ _); refine St.regionLast S ?_; (repeat (first | (go_big_quiet_step (fail)) | (go_big_quiet_want; (first | refine quiet_ld S ?_ | refine quiet_ld8 S ?_ | refine quiet_ld0 ?_ | refine quiet_ldA S ?_ | refine quiet_b2sB S ?_ | refine quiet_b2sR S ?_ | refine quiet_ldc S ?_); go_big_quiet_on))); refine wpQuiet_nil ?_; clear S; intro wq S) | go_big_skip | (refine wpList_ld S ?_) | (refine wpList_ld8 S ?_) | (refine wpList_ld0 ?_) | (refine wpList_ldA S ?_) | (refine wpList_st8 S ?_; (clear S; intro ws S)) | (refine wpList_st S ?_; (clear S; intro ws S)) | (refine wpList_box S ?_; (clear S; intro nb wb hnb S)) | (refine wpList_alloc S ?_; (clear S; intro nb wb hnb S)) | (refine wpList_mk8 S ?_; (clear S; intro nb wb hnb S)) | (refine wpList_mk S ?_; (clear S; intro nb wb hnb S)) | (refine wpList_bs S ?_; (clear S; intro nb wb hnb S)) | (refine wpList_stA S ?_; (clear S; intro ws S; simp only [splice, List.take_zero, List.take_succ_cons, List.drop_succ_cons, List.drop_zero, List.drop_nil, List.length_cons, List.length_nil, Nat.reduceAdd, Nat.zero_add, List.nil_append, List.cons_append, List.append_nil] at S)) | (refine wpList_b2sB S ?_) | (refine wpList_b2sR S ?_) | (refine wpList_ldc S ?_))
  go_loopg [4, 10] l.length (fun g x i wr => ∃ k : Nat, Hid (k + g = l.length) ∧ i = .int .i64 k ∧ k ≤ l.length ∧ Hid (∀ d ∈ l.take k, d.length ≤ 2147483647) ∧ St w [] wr [])
  case atStart => exact ⟨0, hidden (by omega), rfl, Nat.zero_le _, hidden (by simp), S⟩
  case round =>
    clear S
    obtain ⟨k, hg, rfl, hkn, hpre, S⟩ := hrel
    by_cases hlt : k < l.length
    · obtain ⟨ad, rfl⟩ := hh.out.some (by decide) (by omega)
      have hop : l[k]? = some l[k] := List.getElem?_eq_getElem hlt
      obtain ⟨cs, ⟨oa', c', rfl, hs', hc'⟩, hl3, hcell⟩ := hh.out.get k _ hop
      have htake := hidden (show l.take (k + 1) = l.take k ++ [l[k]] by rw [List.take_add_one, hop]; rfl)
      generalize l[k] = d at *
      have g0 := hcell 0 _ rfl
      rw [Addr.add_zero', Nat.mul_one] at g0
      clear hop hs' hl3 hcell
      by_cases hd : (d.length : Int) > 2147483647
      · have hb2 : decide ((d.length : Int) > 2147483647) = true := decide_eq_true hd
        replace hd := hidden hd
        go_wp2_with (first | go_big_skip | (refine wpList_ldc S ?_) | go_big_skip | (refine wpList_ld S ?_) | (refine wpList_ld8 S ?_) | (refine wpList_ld0 ?_) | (refine wpList_ldA S ?_) | (refine wpList_st8 S ?_; (clear S; intro ws S)) | (refine wpList_st S ?_; (clear S; intro ws S)) | (refine wpList_box S ?_; (clear S; intro nb wb hnb S)) | (refine wpList_alloc S ?_; (clear S; intro nb wb hnb S)) | (refine wpList_mk8 S ?_; (clear S; intro nb wb hnb S)) | (refine wpList_mk S ?_; (clear S; intro nb wb hnb S)) | (refine wpList_bs S ?_; (clear S; intro nb wb hnb S)) | (refine wpList_stA S ?_; (clear S; intro ws S; simp only [splice, List.take_zero, List.take_succ_cons, List.drop_succ_cons, List.drop_zero, List.drop_nil, List.length_cons, List.length_nil, Nat.reduceAdd, Nat.zero_add, List.nil_append, List.cons_append, List.append_nil] at S)) | (refine wpList_b2sB S ?_) | (refine wpList_b2sR S ?_) | (refine wpList_ldc S ?_))
        ((first | go_ret | go_ret2 | go_ret3 | go_end0 | skip); refine hR.out _ _ ?_)
        exact ⟨_, rfl, by simp, S.sel (by repeat (first | exact Sel.nil | (apply Sel.cons; (repeat (first | exact Pull.head | apply Pull.tail)))))⟩
      · have hb2 : decide ((d.length : Int) > 2147483647) = false := decide_eq_false hd
        have hd3 := hidden (show d.length ≤ 2147483647 by omega)
        replace hd := hidden hd
        go_wp2_with (first | go_big_skip | (refine wpList_ldc S ?_) | go_big_skip | (refine wpList_ld S ?_) | (refine wpList_ld8 S ?_) | (refine wpList_ld0 ?_) | (refine wpList_ldA S ?_) | (refine wpList_st8 S ?_; (clear S; intro ws S)) | (refine wpList_st S ?_; (clear S; intro ws S)) | (refine wpList_box S ?_; (clear S; intro nb wb hnb S)) | (refine wpList_alloc S ?_; (clear S; intro nb wb hnb S)) | (refine wpList_mk8 S ?_; (clear S; intro nb wb hnb S)) | (refine wpList_mk S ?_; (clear S; intro nb wb hnb S)) | (refine wpList_bs S ?_; (clear S; intro nb wb hnb S)) | (refine wpList_stA S ?_; (clear S; intro ws S; simp only [splice, List.take_zero, List.take_succ_cons, List.drop_succ_cons, List.drop_zero, List.drop_nil, List.length_cons, List.length_nil, Nat.reduceAdd, Nat.zero_add, List.nil_append, List.cons_append, List.append_nil] at S)) | (refine wpList_b2sB S ?_) | (refine wpList_b2sR S ?_) | (refine wpList_ldc S ?_))
        go_roundg (gk - 1)
        case measure => have := hg.out; omega
        case rel =>
          refine ⟨k + 1, hidden (by have := hg.out; omega), by go_num, by omega, hidden ?_, S.sel (by repeat (first | exact Sel.nil | (apply Sel.cons; (repeat (first | exact Pull.head | apply Pull.tail)))))⟩
          rw [htake.out]
          intro o ho
          rcases List.mem_append.1 ho with ho | ho
          · exact hpre.out o ho
          · rw [List.mem_singleton.1 ho]; exact hd3.out
    · have hkl : k = l.length := by omega
      replace hkl := hidden hkl
      go_wp2_with (first | go_big_skip | ((with_reducible show Code.wp _ (Code.region _ _ true) _ _ _); refine St.regionLast S ?_; (repeat (first | (go_big_quiet_step (fail)) | (go_big_quiet_want; (first | refine quiet_ld S ?_ | refine quiet_ld8 S ?_ | refine quiet_ld0 ?_ | refine quiet_ldA S ?_ | refine quiet_b2sB S ?_ | refine quiet_b2sR S ?_ | refine quiet_ldc S ?_); go_big_quiet_on))); refine wpQuiet_nil ?_; clear S; intro wq S) | go_big_skip | (refine wpList_ld S ?_) | (refine wpList_ld8 S ?_) | (refine wpList_ld0 ?_) | (refine wpList_ldA S ?_) | (refine wpList_st8 S ?_; (clear S; intro ws S)) | (refine wpList_st S ?_; (clear S; intro ws S)) | (refine wpList_box S ?_; (clear S; intro nb wb hnb S)) | (refine wpList_alloc S ?_; (clear S; intro nb wb hnb S)) | (refine wpList_mk8 S ?_; (clear S; intro nb wb hnb S)) | (refine wpList_mk S ?_; (clear S; intro nb wb hnb S)) | (refine wpList_bs S ?_; (clear S; intro nb wb hnb S)) | (refine wpList_stA S ?_; (clear S; intro ws S; simp only [splice, List.take_zero, List.take_succ_cons, List.drop_succ_cons, List.drop_zero, List.drop_nil, List.length_cons, List.length_nil, Nat.reduceAdd, Nat.zero_add, List.nil_append, List.cons_append, List.append_nil] at S)) | (refine wpList_b2sB S ?_) | (refine wpList_b2sR S ?_) | (refine wpList_ldc S ?_))
      ((first | go_ret | go_ret2 | go_ret3 | go_end0 | skip); refine hR.out _ _ ?_)
      exact ⟨_, rfl, fun _ => ⟨hle, by have := hpre.out; rwa [hkl.out, List.take_length] at this⟩, S.sel (by repeat (first | exact Sel.nil | (apply Sel.cons; (repeat (first | exact Pull.head | apply Pull.tail)))))⟩
end Go.Proofs.YtbklhnpnkinadaaDoor
