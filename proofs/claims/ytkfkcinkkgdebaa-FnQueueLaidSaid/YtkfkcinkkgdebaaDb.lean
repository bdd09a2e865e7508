/- An entry that is laid behind others. -/
import Derived.Test.YtkfkcinkkgdebaaDa
namespace Go.Proofs.Ytkfkcinkkgdebaa
open Go Go.RowKit Go.Vil
set_option linter.unusedSimpArgs false
set_option linter.unusedVariables false
set_option maxRecDepth 100000

set_option maxHeartbeats 3200000 in
theorem lay (ta : Nat) (arr : List UInt8) (av : Value) (oa : Option Addr) (c : Nat) (d : List UInt8) (F : List Res) (w0 w : World)
    (S : St w0 [] w (.blk ta (.cells [av].toArray 26 (0, 0)) :: .row 5 1 av arr.length (u8s arr) :: F)) (hs : Src w0 1 (.slice oa d.length c) d.length (u8s d)) (hd : d.length ≤ 200) (ha : arr.length ≤ 100000) :
    Calls Try.prog 40 #[.slice oa d.length c, .pointer (some ⟨ta, 0, none⟩)] w fun e w' => ∃ av', e = .returned (.agg #[.int .i64 arr.length, .slice oa d.length c]) ∧
      St w0 [] w' (.blk ta (.cells [av'].toArray 26 (0, 0)) :: .row 5 1 av' (arr ++ (entry d).bytes).length (u8s (arr ++ (entry d).bytes)) :: F) := by
  obtain ⟨ao, ac, rfl, hac, _⟩ := S.rowSlice (hp := .tail .head)
  obtain ⟨n, hn⟩ : ∃ n, n = arr.length := ⟨_, rfl⟩
  rw [← hn] at S ⊢ ha hac
  have hnh := hidden hn
  clear hn
  replace hs := hidden hs
  have hnd := hsz_le d.length
  have hN := hidden (show (entry d).bytes = uv (needs d.length) ++ d from rfl)
  have hNl : needs d.length ≤ 205 := by unfold needs; omega
  refine Calls.cps ?_; intro R hR
  go_enter Try.func40, Try.ntmps40
  go_wp2_with (first | go_big_skip | ((with_reducible show Code.wp _ (Code.region _ _ true) _ _ _); refine St.regionLast S ?_; (repeat (first | (go_big_quiet_step (fail)) | (go_big_quiet_want; (first | refine quiet_ld S ?_ | refine quiet_ld8 S ?_ | refine quiet_ld0 ?_ | refine quiet_ldA S ?_ | refine quiet_b2sB S ?_ | refine quiet_b2sR S ?_ | refine quiet_ldc S ?_); go_big_quiet_on))); refine wpQuiet_nil ?_; clear S; intro wq S) | go_big_skip | (refine wpList_ld S ?_) | (refine wpList_ld8 S ?_) | (refine wpList_ld0 ?_) | (refine wpList_ldA S ?_) | (refine wpList_st8 S ?_; (clear S; intro ws S)) | (refine wpList_st S ?_; (clear S; intro ws S)) | (refine wpList_box S ?_; (clear S; intro nb wb hnb S)) | (refine wpList_alloc S ?_; (clear S; intro nb wb hnb S)) | (refine wpList_mk8 S ?_; (clear S; intro nb wb hnb S)) | (refine wpList_mk S ?_; (clear S; intro nb wb hnb S)) | (refine wpList_bs S ?_; (clear S; intro nb wb hnb S)) | (refine wpList_stA S ?_; (clear S; intro ws S; simp only [splice, List.take_zero, List.take_succ_cons, List.drop_succ_cons, List.drop_zero, List.drop_nil, List.length_cons, List.length_nil, Nat.reduceAdd, Nat.zero_add, List.nil_append, List.cons_append, List.append_nil] at S)) | (refine wpList_b2sB S ?_) | (refine wpList_b2sR S ?_) | (refine wpList_ldc S ?_))
  rename Nat => be
  refine Calls.mono (specNeeds d.length _ (by omega)) ?_
  rintro e w2 ⟨rfl, C⟩
  have S2 := S.same C.chg
  clear S C
  have S := S2
  clear S2
  generalize needs d.length = N at *
  go_wp2_with (first | go_big_skip | go_big_skip | (refine wpList_ld S ?_) | (refine wpList_ld8 S ?_) | (refine wpList_ld0 ?_) | (refine wpList_ldA S ?_) | (refine wpList_st8 S ?_; (clear S; intro ws S)) | (refine wpList_st S ?_; (clear S; intro ws S)) | (refine wpList_box S ?_; (clear S; intro nb wb hnb S)) | (refine wpList_alloc S ?_; (clear S; intro nb wb hnb S)) | (refine wpList_mk8 S ?_; (clear S; intro nb wb hnb S)) | (refine wpList_mk S ?_; (clear S; intro nb wb hnb S)) | (refine wpList_bs S ?_; (clear S; intro nb wb hnb S)) | (refine wpList_stA S ?_; (clear S; intro ws S; simp only [splice, List.take_zero, List.take_succ_cons, List.drop_succ_cons, List.drop_zero, List.drop_nil, List.length_cons, List.length_nil, Nat.reduceAdd, Nat.zero_add, List.nil_append, List.cons_append, List.append_nil] at S)) | (refine wpList_b2sB S ?_) | (refine wpList_b2sR S ?_) | (refine wpList_ldc S ?_))
  go_loopg [5] N (fun g i5 wr => ∃ (m : Nat) (av1 : Value) (pre : List UInt8) (q : Nat), Hid (m ≤ g) ∧ i5 = .int .i64 m ∧ m ≤ N ∧ Hid (uv N = pre ++ uv m) ∧ q ≤ n + N ∧ Hid (q + m ≤ n + N) ∧ Hid (q = n + pre.length) ∧
    St w0 [] wr (.blk be (.cells [.int .i64 n, .slice oa d.length c].toArray 41 (0, 0)) :: .blk nb (.cells [.int .i64 0, .slice none 0 0].toArray 41 (0, 0)) :: .blk ta (.cells [av1].toArray 26 (0, 0)) :: .row 5 1 av1 q (u8s (arr ++ pre)) :: F))
  case atStart => exact ⟨N, _, [], n, hidden (Nat.le_refl _), rfl, Nat.le_refl _, hidden (by simp), by omega, hidden (Nat.le_refl _), hidden (by simp), by rw [List.append_nil]; exact S⟩
  case round =>
    clear S
    obtain ⟨m, av1, pre, q, hg, rfl, hmN, huv, hq, hqm, hql, S⟩ := hrel
    obtain ⟨ao1, ac1, rfl, hac1, _⟩ := S.rowSlice (hp := .tail (.tail (.tail .head)))
    by_cases hm : m < 128
    · have hm2 : ¬ (127 : Int) < (m : Int) := by omega
      go_wp2_with (first | go_big_skip | (refine wpList_appB S ?_; (clear S; intro va wa hva S; obtain ⟨va1, va2, rfl, hva1, hva2⟩ := S.rowSlice (hp := .head))) | (refine wpList_app S (hs.out.on S.chg) ?_; (clear S; intro va wa hva S; obtain ⟨va1, va2, rfl, hva1, hva2⟩ := S.rowSlice (hp := .head))) | go_big_skip | (refine wpList_ld S ?_) | (refine wpList_ld8 S ?_) | (refine wpList_ld0 ?_) | (refine wpList_ldA S ?_) | (refine wpList_st8 S ?_; (clear S; intro ws S)) | (refine wpList_st S ?_; (clear S; intro ws S)) | (refine wpList_box S ?_; (clear S; intro nb wb hnb S)) | (refine wpList_alloc S ?_; (clear S; intro nb wb hnb S)) | (refine wpList_mk8 S ?_; (clear S; intro nb wb hnb S)) | (refine wpList_mk S ?_; (clear S; intro nb wb hnb S)) | (refine wpList_bs S ?_; (clear S; intro nb wb hnb S)) | (refine wpList_stA S ?_; (clear S; intro ws S; simp only [splice, List.take_zero, List.take_succ_cons, List.drop_succ_cons, List.drop_zero, List.drop_nil, List.length_cons, List.length_nil, Nat.reduceAdd, Nat.zero_add, List.nil_append, List.cons_append, List.append_nil] at S)) | (refine wpList_b2sB S ?_) | (refine wpList_b2sR S ?_) | (refine wpList_ldc S ?_))
      refine ret_of (results_c S) ?_
      refine hR.out _ _ ?_
      have e1 : u8s (arr ++ (entry d).bytes) = u8s (arr ++ pre) ++ [.int .u8 (m : Int)] ++ u8s d := by
        rw [hN.out, huv.out, uv_small hm, u8s_append, u8s_append, u8s_append, u8s_append]
        have : u8s [UInt8.ofNat m] = [.int .u8 (m : Int)] := by
          simp [u8s]; omega
        rw [this]; simp
      have e2 : (arr ++ (entry d).bytes).length = q + 1 + d.length := by
        have := congrArg List.length e1
        have h1 := hql.out
        have h2 := hnh.out
        simp at this ⊢
        omega
      refine ⟨.slice va1 (q + 1 + d.length) va2, rfl, ?_⟩
      rw [e2, e1]
      exact (S.selT (by repeat (first | (apply SelT.nil; (repeat (first | exact Suf.refl | apply Suf.cons)); done) | (apply SelT.cons; (repeat (first | exact Pull.head | apply Pull.tail))))))
    · have hm2 : (127 : Int) < (m : Int) := by omega
      have hcc : Go.bits .or .u8 ((m : Nat) : Int) 128 = ((m % 128 + 128 : Nat) : Int) := or128 ⟨m, by omega⟩
      go_wp2_with (first | go_big_skip | (refine wpList_appB S ?_; (clear S; intro va wa hva S; obtain ⟨va1, va2, rfl, hva1, hva2⟩ := S.rowSlice (hp := .head))) | go_big_skip | (refine wpList_ld S ?_) | (refine wpList_ld8 S ?_) | (refine wpList_ld0 ?_) | (refine wpList_ldA S ?_) | (refine wpList_st8 S ?_; (clear S; intro ws S)) | (refine wpList_st S ?_; (clear S; intro ws S)) | (refine wpList_box S ?_; (clear S; intro nb wb hnb S)) | (refine wpList_alloc S ?_; (clear S; intro nb wb hnb S)) | (refine wpList_mk8 S ?_; (clear S; intro nb wb hnb S)) | (refine wpList_mk S ?_; (clear S; intro nb wb hnb S)) | (refine wpList_bs S ?_; (clear S; intro nb wb hnb S)) | (refine wpList_stA S ?_; (clear S; intro ws S; simp only [splice, List.take_zero, List.take_succ_cons, List.drop_succ_cons, List.drop_zero, List.drop_nil, List.length_cons, List.length_nil, Nat.reduceAdd, Nat.zero_add, List.nil_append, List.cons_append, List.append_nil] at S)) | (refine wpList_b2sB S ?_) | (refine wpList_b2sR S ?_) | (refine wpList_ldc S ?_))
      go_roundg (gk - 1)
      case measure => have := hg.out; omega
      case rel =>
        refine ⟨m / 128, .slice va1 (q + 1) va2, pre ++ [UInt8.ofNat (m % 128 + 128)], q + 1, hidden (by have := hg.out; omega), by go_num, by omega, hidden ?_, ?_, hidden ?_, hidden ?_, ?_⟩
        · rw [huv.out, uv_great hm]; simp
        · have := hqm.out; omega
        · have := hqm.out; omega
        · have := hql.out; simp; omega
        · have e1 : u8s (arr ++ (pre ++ [UInt8.ofNat (m % 128 + 128)])) = u8s (arr ++ pre) ++ [.int .u8 ((m % 128 + 128 : Nat) : Int)] := by
            rw [← List.append_assoc, u8s_append]
            congr 1
            simp [u8s]; omega
          rw [e1]
          exact (S.selT (by repeat (first | (apply SelT.nil; (repeat (first | exact Suf.refl | apply Suf.cons)); done) | (apply SelT.cons; (repeat (first | exact Pull.head | apply Pull.tail))))))
end Go.Proofs.Ytkfkcinkkgdebaa
