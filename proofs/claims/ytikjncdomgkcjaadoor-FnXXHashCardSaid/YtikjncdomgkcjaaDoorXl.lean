/- The hash of keys is XXH64: the law. -/
import Derived.Test.YtikjncdomgkcjaaDoorXh
import Derived.Test.YtikjncdomgkcjaaDoorOpen2
import Derived.Test.YtikjncdomgkcjaaDoorLaidV
namespace Go.Proofs.YtikjncdomgkcjaaDoor
open Go Go.RowKit Go.ChangeShapes Go.WideShapes Go.ChangeAt Go.Deep Go.Vil
set_option linter.unusedSimpArgs false
set_option linter.unusedVariables false
set_option maxRecDepth 100000

set_option maxHeartbeats 1600000 in
theorem lawXXHash (v : Value) (n : Nat) (l : List UInt8) (w : World) (hs : Src w 1 v n (u8s l)) (hv : ∃ a c, v = .slice a n c ∧ n ≤ maxLen ∧ n ≤ c) (hp : w.cell? ⟨0, 0, none⟩ = some (.int .u64 11400714785074694791)) :
    Calls Tryd.prog 3 #[v] w fun e w' => e = .returned (.bool true) ∧ Chg [] w w' := by
  have S := St.begin w
  have hs := hidden hs
  have hv2 := hidden hv
  have hp := hidden hp
  obtain ⟨a, c, rfl, _, _⟩ := hv
  refine Calls.cps ?_; intro R hR
  by_cases hn : (n : Int) > 2147483647
  · have hbb : decide ((n : Int) > 2147483647) = true := decide_eq_true hn
    replace hn := hidden hn
    go_enter Tryd.func3, Tryd.ntmps3
    go_wp2_with (first | go_big_skip | ((with_reducible show Code.wp _ (Code.region _ _ true) _ _ _); refine St.regionLast S ?_; (repeat (first | (go_big_quiet_step (fail)) | (go_big_quiet_want; (first | refine quiet_ld S ?_ | refine quiet_ld8 S ?_ | refine quiet_ld0 ?_ | refine quiet_ldA S ?_ | refine quiet_b2sB S ?_ | refine quiet_b2sR S ?_ | refine quiet_ldc S ?_); go_big_quiet_on))); refine wpQuiet_nil ?_; clear S; intro wq S) | go_big_skip | (refine wpList_ld S ?_) | (refine wpList_ld8 S ?_) | (refine wpList_ld0 ?_) | (refine wpList_ldA S ?_) | (refine wpList_st8 S ?_; (clear S; intro ws S)) | (refine wpList_st S ?_; (clear S; intro ws S)) | (refine wpList_box S ?_; (clear S; intro nb wb hnb S)) | (refine wpList_alloc S ?_; (clear S; intro nb wb hnb S)) | (refine wpList_mk8 S ?_; (clear S; intro nb wb hnb S)) | (refine wpList_mk S ?_; (clear S; intro nb wb hnb S)) | (refine wpList_bs S ?_; (clear S; intro nb wb hnb S)) | (refine wpList_stA S ?_; (clear S; intro ws S; simp only [splice, List.take_zero, List.take_succ_cons, List.drop_succ_cons, List.drop_zero, List.drop_nil, List.length_cons, List.length_nil, Nat.reduceAdd, Nat.zero_add, List.nil_append, List.cons_append, List.append_nil] at S)) | (refine wpList_b2sB S ?_) | (refine wpList_b2sR S ?_) | (refine wpList_ldc S ?_))
    ((first | go_ret | go_ret2 | go_ret3 | go_end0 | skip); refine hR.out _ _ ?_)
    exact ⟨rfl, S.chg⟩
  · have hbb : decide ((n : Int) > 2147483647) = false := decide_eq_false hn
    have hle := hidden (show (n : Int) ≤ 4294967296 by omega)
    replace hn := hidden hn
    go_enter Tryd.func3, Tryd.ntmps3
    go_wp2_with (first | go_big_skip | ((with_reducible show Code.wp _ (Code.region _ _ true) _ _ _); refine St.regionLast S ?_; (repeat (first | (go_big_quiet_step (fail)) | (go_big_quiet_want; (first | refine quiet_ld S ?_ | refine quiet_ld8 S ?_ | refine quiet_ld0 ?_ | refine quiet_ldA S ?_ | refine quiet_b2sB S ?_ | refine quiet_b2sR S ?_ | refine quiet_ldc S ?_); go_big_quiet_on))); refine wpQuiet_nil ?_; clear S; intro wq S) | go_big_skip | (refine wpList_ld S ?_) | (refine wpList_ld8 S ?_) | (refine wpList_ld0 ?_) | (refine wpList_ldA S ?_) | (refine wpList_st8 S ?_; (clear S; intro ws S)) | (refine wpList_st S ?_; (clear S; intro ws S)) | (refine wpList_box S ?_; (clear S; intro nb wb hnb S)) | (refine wpList_alloc S ?_; (clear S; intro nb wb hnb S)) | (refine wpList_mk8 S ?_; (clear S; intro nb wb hnb S)) | (refine wpList_mk S ?_; (clear S; intro nb wb hnb S)) | (refine wpList_bs S ?_; (clear S; intro nb wb hnb S)) | (refine wpList_stA S ?_; (clear S; intro ws S; simp only [splice, List.take_zero, List.take_succ_cons, List.drop_succ_cons, List.drop_zero, List.drop_nil, List.length_cons, List.length_nil, Nat.reduceAdd, Nat.zero_add, List.nil_append, List.cons_append, List.append_nil] at S)) | (refine wpList_b2sB S ?_) | (refine wpList_b2sR S ?_) | (refine wpList_ldc S ?_))
    refine Calls.mono (implHash _ n l _ (hs.out.on S.chg) hv2.out (S.chg.cell hp.out (by simp)) hle.out) ?_
    rintro e w2 ⟨rfl, C⟩
    have S2 := S.call C; clear S C; simp only [List.cons_append, List.nil_append] at S2; have S := S2; clear S2
    go_wp2_with (first | go_big_skip | ((with_reducible show Code.wp _ (Code.region _ _ true) _ _ _); refine St.regionLast S ?_; (repeat (first | (go_big_quiet_step (fail)) | (go_big_quiet_want; (first | refine quiet_ld S ?_ | refine quiet_ld8 S ?_ | refine quiet_ld0 ?_ | refine quiet_ldA S ?_ | refine quiet_b2sB S ?_ | refine quiet_b2sR S ?_ | refine quiet_ldc S ?_); go_big_quiet_on))); refine wpQuiet_nil ?_; clear S; intro wq S) | go_big_skip | (refine wpList_ld S ?_) | (refine wpList_ld8 S ?_) | (refine wpList_ld0 ?_) | (refine wpList_ldA S ?_) | (refine wpList_st8 S ?_; (clear S; intro ws S)) | (refine wpList_st S ?_; (clear S; intro ws S)) | (refine wpList_box S ?_; (clear S; intro nb wb hnb S)) | (refine wpList_alloc S ?_; (clear S; intro nb wb hnb S)) | (refine wpList_mk8 S ?_; (clear S; intro nb wb hnb S)) | (refine wpList_mk S ?_; (clear S; intro nb wb hnb S)) | (refine wpList_bs S ?_; (clear S; intro nb wb hnb S)) | (refine wpList_stA S ?_; (clear S; intro ws S; simp only [splice, List.take_zero, List.take_succ_cons, List.drop_succ_cons, List.drop_zero, List.drop_nil, List.length_cons, List.length_nil, Nat.reduceAdd, Nat.zero_add, List.nil_append, List.cons_append, List.append_nil] at S)) | (refine wpList_b2sB S ?_) | (refine wpList_b2sR S ?_) | (refine wpList_ldc S ?_))
    refine Calls.mono (specHash _ n l _ (hs.out.on S.chg) hv2.out hle.out) ?_
    rintro e w3 ⟨rfl, C⟩
    have S2 := S.call C; clear S C; simp only [List.cons_append, List.nil_append] at S2; have S := S2; clear S2
    go_wp2_with (first | go_big_skip | ((with_reducible show Code.wp _ (Code.region _ _ true) _ _ _); refine St.regionLast S ?_; (repeat (first | (go_big_quiet_step (fail)) | (go_big_quiet_want; (first | refine quiet_ld S ?_ | refine quiet_ld8 S ?_ | refine quiet_ld0 ?_ | refine quiet_ldA S ?_ | refine quiet_b2sB S ?_ | refine quiet_b2sR S ?_ | refine quiet_ldc S ?_); go_big_quiet_on))); refine wpQuiet_nil ?_; clear S; intro wq S) | go_big_skip | (refine wpList_ld S ?_) | (refine wpList_ld8 S ?_) | (refine wpList_ld0 ?_) | (refine wpList_ldA S ?_) | (refine wpList_st8 S ?_; (clear S; intro ws S)) | (refine wpList_st S ?_; (clear S; intro ws S)) | (refine wpList_box S ?_; (clear S; intro nb wb hnb S)) | (refine wpList_alloc S ?_; (clear S; intro nb wb hnb S)) | (refine wpList_mk8 S ?_; (clear S; intro nb wb hnb S)) | (refine wpList_mk S ?_; (clear S; intro nb wb hnb S)) | (refine wpList_bs S ?_; (clear S; intro nb wb hnb S)) | (refine wpList_stA S ?_; (clear S; intro ws S; simp only [splice, List.take_zero, List.take_succ_cons, List.drop_succ_cons, List.drop_zero, List.drop_nil, List.length_cons, List.length_nil, Nat.reduceAdd, Nat.zero_add, List.nil_append, List.cons_append, List.append_nil] at S)) | (refine wpList_b2sB S ?_) | (refine wpList_b2sR S ?_) | (refine wpList_ldc S ?_))
    ((first | go_ret | go_ret2 | go_ret3 | go_end0 | skip); refine hR.out _ _ ?_)
    exact ⟨retB (by simp), S.chg⟩
theorem rowXXHash {H : Type} {enc : TypeId × Value → H} {base base' : Nat} {spare : Nat → Bool} {held : Bool} {r : Reach} {d : DataW H} {ps : List MemPlace} {X2 : Prop} (v : Value) (W : World)
    (hval : Value.okWide Tryd.prog W r base' 22 v) (hd : DataW.Trod enc Tryd.prog W base spare held 22 v d ps) (_ : X2) (hp : W.cell? ⟨0, 0, none⟩ = some (.int .u64 11400714785074694791)) :
    Calls Tryd.prog 3 #[v] W fun e w' => e = .returned (.bool true) ∧ Below W.heap.size W w' := by
  obtain ⟨a0, len, cap, rfl⟩ := okWide_slice Tryd.underlying22 hval
  obtain ⟨fuel, hf⟩ := hd
  obtain ⟨n, l, h1, _, h3⟩ := open_bytesC Tryd.underlying22 Tryd.underlying5 (by kernel_rfl) (by simpa [Value.cells] using hf)
  have h3' : ∃ a c, (Value.slice a0 len cap) = .slice a n c ∧ n ≤ maxLen ∧ n ≤ c := by
    obtain ⟨a, c, e, h4, h5⟩ := h3
    exact ⟨a, c, e, h4, h5⟩
  exact Calls.mono (lawXXHash _ n l W h1 h3' hp) fun e w' ⟨h1, h2⟩ => ⟨h1, h2.below⟩
end Go.Proofs.YtikjncdomgkcjaaDoor
