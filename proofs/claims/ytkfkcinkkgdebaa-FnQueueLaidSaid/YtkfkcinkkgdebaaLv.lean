/- A queue lives: two entries come out as they went in. -/
import Derived.Test.YtkfkcinkkgdebaaQm
import Derived.Test.YtkfkcinkkgdebaaIdc
namespace Go.Proofs.Ytkfkcinkkgdebaa
open Go Go.RowKit Go.Vil
set_option linter.unusedSimpArgs false
set_option linter.unusedVariables false
set_option maxRecDepth 100000

def livesOps : List QOp := [⟨0, [97, 98], 0⟩, ⟨0, [99], 0⟩, ⟨1, [], 0⟩, ⟨1, [], 0⟩, ⟨1, [], 0⟩]
theorem lives_run : qRun (Qu.fresh 20 0) livesOps = [⟨0, 1, []⟩, ⟨0, 4, []⟩, ⟨0, 0, [97, 98]⟩, ⟨0, 0, [99]⟩, ⟨1, 0, []⟩] := by kernel_rfl
theorem legal_push {x : Qu} {d : List UInt8} {i : Int} (h1 : d.length < 16382) (h2 : x.newCap (needs d.length) ≤ 1073741824) : qLegal x ⟨0, d, i⟩ := by
  refine ⟨by show (0:Int) ≤ 0; decide, by show (0:Int) ≤ 9; decide, fun _ => ⟨h1, h2⟩, fun h => ?_, fun h => ?_⟩ <;> (exfalso; simp at h)
theorem legal_plain {x : Qu} {k : Int} {d : List UInt8} {i : Int} (h : k = 1 ∨ k = 2 ∨ k = 5 ∨ k = 6 ∨ k = 7) : qLegal x ⟨k, d, i⟩ := by
  refine ⟨by show 0 ≤ k; omega, by show k ≤ 9; omega, fun h => ?_, fun h => ?_, fun h => ?_⟩ <;> (exfalso; simp at h; omega)
theorem lives_fine : qFine (Qu.fresh 20 0) livesOps := by
  have h : ∀ x : Qu, x.cap ≤ 20 → x.max = 0 → ∀ d : List UInt8, d.length ≤ 2 → qLegal x ⟨0, d, 0⟩ := by
    intro x h1 h2 d h3
    have h4 := hsz_le d.length
    refine legal_push (by omega) ?_
    unfold Qu.newCap needs
    simp only
    split <;> split <;> omega
  have h' : ∀ x : Qu, qLegal x ⟨1, [], 0⟩ := fun x => legal_plain (.inl rfl)
  exact ⟨h _ (by decide) rfl _ (by decide), by decide, by decide, h _ (by decide) rfl _ (by decide), by decide, by decide, h' _, by decide, by decide, h' _, by decide, by decide, h' _, by decide, by decide, trivial⟩

set_option maxHeartbeats 1600000 in
theorem quLives (w : World) : Calls Try.prog 18 #[] w fun e w' => e = .returned (.bool true) ∧ St w [] w' [] := by
  have S := St.begin w
  refine Calls.cps ?_; intro R hR
  go_enter Try.func18, Try.ntmps18
  go_wp2_with (first | ((with_reducible show Code.wp _ (Code.region _ _ true) _ _ _); refine St.regionLast S ?_; (repeat (first | (go_big_quiet_step (fail)) | (go_big_quiet_want; (first | refine quiet_ld S ?_ | refine quiet_ld8 S ?_ | refine quiet_ld0 ?_ | refine quiet_ldA S ?_ | refine quiet_b2sB S ?_ | refine quiet_b2sR S ?_ | refine quiet_ldc S ?_); go_big_quiet_on))); refine wpQuiet_nil ?_; clear S; intro wq S) | (refine wpList_idB S ?_; (clear S; intro wi S)) | go_big_skip | (refine wpList_ld S ?_) | (refine wpList_ld8 S ?_) | (refine wpList_ld0 ?_) | (refine wpList_ldA S ?_) | (refine wpList_st8 S ?_; (clear S; intro ws S)) | (refine wpList_st S ?_; (clear S; intro ws S)) | (refine wpList_box S ?_; (clear S; intro nb wb hnb S)) | (refine wpList_alloc S ?_; (clear S; intro nb wb hnb S)) | (refine wpList_mk8 S ?_; (clear S; intro nb wb hnb S)) | (refine wpList_mk S ?_; (clear S; intro nb wb hnb S)) | (refine wpList_bs S ?_; (clear S; intro nb wb hnb S)) | (refine wpList_stA S ?_; (clear S; intro ws S; simp only [splice, List.take_zero, List.take_succ_cons, List.drop_succ_cons, List.drop_zero, List.drop_nil, List.length_cons, List.length_nil, Nat.reduceAdd, Nat.zero_add, List.nil_append, List.cons_append, List.append_nil] at S)) | (refine wpList_b2sB S ?_) | (refine wpList_b2sR S ?_) | (refine wpList_ldc S ?_))
  rename_i n1 u0 h1 u1 n2 u2 h2 KK HK
  have hA : Arr OpV 3 wb (.slice (some ⟨nb, 0, none⟩) 5 5) livesOps := by
    refine ⟨some ⟨nb, 0, none⟩, 5, [[.int .i64 0, .slice (some ⟨n1, 0, none⟩) 2 2, .int .i64 0], [.int .i64 0, .slice (some ⟨n2, 0, none⟩) 1 1, .int .i64 0], [.int .i64 1, .slice none 0 0, .int .i64 0], [.int .i64 1, .slice none 0 0, .int .i64 0], [.int .i64 1, .slice none 0 0, .int .i64 0]], rfl, by decide, ?_, ?_⟩
    · have e0 : Src wb 1 (.slice none 0 0) 0 (u8s []) := Src.nil wb 1 0
      have e1 : Src wb 1 (.slice (some ⟨n1, 0, none⟩) 2 2) 2 (u8s [97, 98]) := S.src8w (l := [97, 98]) (by repeat (first | exact Pull.head | apply Pull.tail)) rfl
      have e2 : Src wb 1 (.slice (some ⟨n2, 0, none⟩) 1 1) 1 (u8s [99]) := S.src8w (l := [99]) (by repeat (first | exact Pull.head | apply Pull.tail)) rfl
      exact ⟨⟨⟨_, _, _, rfl, e1, Nat.le_refl _⟩, rfl⟩, ⟨⟨_, _, _, rfl, e2, Nat.le_refl _⟩, rfl⟩, ⟨⟨_, _, _, rfl, e0, Nat.le_refl _⟩, rfl⟩, ⟨⟨_, _, _, rfl, e0, Nat.le_refl _⟩, rfl⟩, ⟨⟨_, _, _, rfl, e0, Nat.le_refl _⟩, rfl⟩, trivial⟩
    · exact S.src 3 (cs := [.int .i64 0, .slice (some ⟨n1, 0, none⟩) 2 2, .int .i64 0, .int .i64 0, .slice (some ⟨n2, 0, none⟩) 1 1, .int .i64 0, .int .i64 1, .slice none 0 0, .int .i64 0, .int .i64 1, .slice none 0 0, .int .i64 0, .int .i64 1, .slice none 0 0, .int .i64 0]) (by repeat (first | exact Pull.head | apply Pull.tail)) rfl (oneCells_spec rfl)
  have C0 := S.chg
  clear S
  refine Calls.mono (queueRun _ livesOps 20 0 wb hA (by decide) (by decide) (by decide) (by decide) (by decide) lives_fine) ?_
  rintro e w5 ⟨ov, rfl, hr, C⟩
  rw [lives_run] at hr
  obtain ⟨oa, c, rfl, hc⟩ := hr.shape
  obtain ⟨ad, rfl⟩ := hr.some (by decide) (by decide)
  obtain ⟨cs2, ⟨d2, c2, rfl, s2, _⟩, -, g2⟩ := hr.get 2 _ rfl
  obtain ⟨cs3, ⟨d3, c3, rfl, s3, _⟩, -, g3⟩ := hr.get 3 _ rfl
  obtain ⟨cs4, ⟨d4, c4, rfl, s4, _⟩, -, g4⟩ := hr.get 4 _ rfl
  have g22 := g2 2 _ rfl
  have g32 := g3 2 _ rfl
  have g40 := g4 0 _ rfl
  simp only [List.length_cons, List.length_nil, Nat.zero_add, Nat.reduceAdd] at s2 s3 s4 g22 g32 g40 hc ⊢
  clear hr g2 g3 g4 hA s4
  replace s2 := hidden s2
  replace s3 := hidden s3
  have C1 := C0.trans C
  clear C C0
  have S := St.begin w5
  go_wp2_with (first | (refine wpList_b2s (s2.out.on S.chg) ?_) | (refine wpList_b2s (s3.out.on S.chg) ?_) | ((with_reducible show Code.wp _ (Code.region _ _ true) _ _ _); refine St.regionLast S ?_; (repeat (first | (go_big_quiet_step (fail)) | (go_big_quiet_want; (first | refine quiet_ld S ?_ | refine quiet_ld8 S ?_ | refine quiet_ld0 ?_ | refine quiet_ldA S ?_ | refine quiet_b2sB S ?_ | refine quiet_b2sR S ?_ | refine quiet_ldc S ?_); go_big_quiet_on))); refine wpQuiet_nil ?_; clear S; intro wq S) | go_big_skip | (refine wpList_ld S ?_) | (refine wpList_ld8 S ?_) | (refine wpList_ld0 ?_) | (refine wpList_ldA S ?_) | (refine wpList_st8 S ?_; (clear S; intro ws S)) | (refine wpList_st S ?_; (clear S; intro ws S)) | (refine wpList_box S ?_; (clear S; intro nb wb hnb S)) | (refine wpList_alloc S ?_; (clear S; intro nb wb hnb S)) | (refine wpList_mk8 S ?_; (clear S; intro nb wb hnb S)) | (refine wpList_mk S ?_; (clear S; intro nb wb hnb S)) | (refine wpList_bs S ?_; (clear S; intro nb wb hnb S)) | (refine wpList_stA S ?_; (clear S; intro ws S; simp only [splice, List.take_zero, List.take_succ_cons, List.drop_succ_cons, List.drop_zero, List.drop_nil, List.length_cons, List.length_nil, Nat.reduceAdd, Nat.zero_add, List.nil_append, List.cons_append, List.append_nil] at S)) | (refine wpList_b2sB S ?_) | (refine wpList_b2sR S ?_) | (refine wpList_ldc S ?_))
  exact hR.out _ _ ⟨rfl, (St.begin w).same (C1.trans S.chg)⟩
end Go.Proofs.Ytkfkcinkkgdebaa
