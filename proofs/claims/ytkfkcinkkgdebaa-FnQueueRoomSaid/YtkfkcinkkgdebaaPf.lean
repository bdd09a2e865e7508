/- A script and its answers beside a list. -/
import Derived.Test.YtkfkcinkkgdebaaPc
import Derived.Test.YtkfkcinkkgdebaaPe
import Derived.Test.YtkfkcinkkgdebaaPly
namespace Go.Proofs.Ytkfkcinkkgdebaa
open Go Go.RowKit Go.Vil
set_option linter.unusedSimpArgs false
set_option linter.unusedVariables false
set_option maxRecDepth 100000

set_option maxHeartbeats 6400000 in
theorem quPlayed (l : Nat) (T : TypeId) (ev : Value) (s : SL) (x : Qu) (ops : List QOp) (css : List (List Value)) (oo oA : Option Addr) (co cA : Nat) (F : List Res) (w0 w : World)
    (S : St w0 [] w (.blk l (.cells (listCells ev s).toArray T (0, 0)) :: .orow 41 2 ev s.ents.length css.flatten :: F)) (hE : Ents w0 s.ents css)
    (hO : Arr OpV 3 w0 (.slice oo ops.length co) ops) (hA : Arr AnsV 3 w0 (.slice oA ops.length cA) (qRun x ops)) (hlen : ops.length ≤ 1000)
    (hr : Rel s x) (hg : x.Good) (hf : qFine x ops) (hok : okScript s x ops) (hsm : Small2 s 0) :
    Calls Try.prog 17 #[.pointer (some ⟨l, 0, none⟩), .slice oo ops.length co, .slice oA ops.length cA] w (AnsEnd l T (played s x ops) F w0) := by
  have hlc : ops.length ≤ co := by obtain ⟨_, _, h1, h2⟩ := hO.shape; cases h1; exact h2
  have hla : ops.length ≤ cA := by obtain ⟨_, _, h1, h2⟩ := hA.shape; rw [qRun_length] at h1 h2; cases h1; exact h2
  replace hO := hidden hO
  replace hA := hidden hA
  replace hE := hidden hE
  replace hr := hidden hr
  replace hg := hidden hg
  replace hf := hidden hf
  replace hok := hidden hok
  replace hsm := hidden hsm
  refine Calls.cps ?_; intro R hR
  go_enter Try.func17, Try.ntmps17
  go_wp2_with (first | go_big_skip | ((with_reducible show Code.wp _ (Code.region _ _ true) _ _ _); refine St.regionLast S ?_; (repeat (first | (go_big_quiet_step (fail)) | (go_big_quiet_want; (first | refine quiet_ld S ?_ | refine quiet_ld8 S ?_ | refine quiet_ld0 ?_ | refine quiet_ldA S ?_ | refine quiet_b2sB S ?_ | refine quiet_b2sR S ?_ | refine quiet_ldc S ?_); go_big_quiet_on))); refine wpQuiet_nil ?_; clear S; intro wq S) | go_big_skip | (refine wpList_ld S ?_) | (refine wpList_ld8 S ?_) | (refine wpList_ld0 ?_) | (refine wpList_ldA S ?_) | (refine wpList_st8 S ?_; (clear S; intro ws S)) | (refine wpList_st S ?_; (clear S; intro ws S)) | (refine wpList_box S ?_; (clear S; intro nb wb hnb S)) | (refine wpList_alloc S ?_; (clear S; intro nb wb hnb S)) | (refine wpList_mk8 S ?_; (clear S; intro nb wb hnb S)) | (refine wpList_mk S ?_; (clear S; intro nb wb hnb S)) | (refine wpList_bs S ?_; (clear S; intro nb wb hnb S)) | (refine wpList_stA S ?_; (clear S; intro ws S; simp only [splice, List.take_zero, List.take_succ_cons, List.drop_succ_cons, List.drop_zero, List.drop_nil, List.length_cons, List.length_nil, Nat.reduceAdd, Nat.zero_add, List.nil_append, List.cons_append, List.append_nil] at S)) | (refine wpList_b2sB S ?_) | (refine wpList_b2sR S ?_) | (refine wpList_ldc S ?_))
  go_loopg [7, 8, 16] ops.length (fun g i7 xp i wr => ∃ (k : Nat) (s2 : SL) (x2 : Qu) (ev2 : Value) (css2 : List (List Value)), Hid (k + g = ops.length) ∧ i = .int .i64 k ∧ k ≤ ops.length ∧
    Hid (played s x ops = played s2 x2 (ops.drop k)) ∧ Hid (Ents w0 s2.ents css2) ∧ Hid ((qRun x ops).drop k = qRun x2 (ops.drop k)) ∧ Hid (Rel s2 x2 ∧ x2.Good ∧ qFine x2 (ops.drop k) ∧ okScript s2 x2 (ops.drop k) ∧ Small2 s2 k) ∧
    St w0 [] wr (.blk l (.cells (listCells ev2 s2).toArray T (0, 0)) :: .orow 41 2 ev2 s2.ents.length css2.flatten :: F))
  case atStart => exact ⟨0, s, x, ev, css, hidden (by omega), rfl, Nat.zero_le _, hidden (by rw [List.drop_zero]), hE, hidden (by rw [List.drop_zero, List.drop_zero]), hidden (by rw [List.drop_zero]; exact ⟨hr.out, hg.out, hf.out, hok.out, hsm.out⟩), S⟩
  case round =>
    clear S hE hr hg hf hok hsm
    obtain ⟨k, s2, x2, ev2, css2, hg, rfl, hkn, hpl, hE, hrun, hinv, S⟩ := hrel
    by_cases hlt : k < ops.length
    · have hop : ops[k]? = some ops[k] := List.getElem?_eq_getElem hlt
      have hdrop : ops.drop k = ops[k] :: ops.drop (k + 1) := List.drop_eq_getElem_cons hlt
      have hpl1 := hpl.out
      have hrun1 := hrun.out
      obtain ⟨hr, hgd, hf, hok, hsm⟩ := hinv.out
      rw [hdrop] at hpl1 hrun1 hf hok
      obtain ⟨ad, rfl⟩ := hO.out.some (by decide) (by omega)
      obtain ⟨aA, rfl⟩ := hA.out.some (by decide) (by rw [qRun_length]; omega)
      obtain ⟨cs, ⟨oa', n', c', rfl, hs', hc'⟩, hl3, hcell⟩ := hO.out.get k _ hop
      have han : (qRun x ops)[k]? = some (qStep x2 ops[k]).2 := by
        have := congrArg (·[0]?) hrun1
        simpa [qRun] using this
      obtain ⟨csA, ⟨oa2, c2, rfl, hsA, hcA⟩, hl4, hcellA⟩ := hA.out.get k _ han
      have hrun2 : (qRun x ops).drop (k + 1) = qRun (qStep x2 ops[k]).1 (ops.drop (k + 1)) := by
        have := congrArg List.tail hrun1
        rw [List.tail_drop] at this
        exact this
      obtain ⟨f1, f2, f3, f4⟩ := hf
      clear hpl hrun hinv hop hl3 hl4 han hrun1
      generalize ops[k] = op at *
      by_cases hend : op.kind = 1 ∧ s2.lost = true
      · obtain ⟨h1, hl⟩ := hend
        obtain ⟨kd, dt, ix⟩ := op
        simp only at *
        subst h1
        have hp2 : played s2 x2 (⟨1, dt, ix⟩ :: ops.drop (k + 1)) = { s2 with ended := true } := by
          simp only [played]; rw [if_pos ⟨trivial, hl⟩]
        rw [hp2] at hpl1
        clear hp2 hr hgd hsm f1 f2 f3 f4 hok hrun2 hdrop
        replace hpl1 := hidden hpl1
        replace hcell := hidden hcell
        replace hcellA := hidden hcellA
        unfold listCells at S
        rw [hl] at S
        replace hl := hidden hl
        clear hs' hsA
        go_wp2_with (first | go_big_skip | (refine wpList_ldAc S ?_ (by rfl) hcell.out) | ((with_reducible show Code.wp _ (Code.region _ _ true) _ _ _); refine St.regionLast S ?_; (repeat (first | (go_big_quiet_step (fail)) | (go_big_quiet_want; (first | refine quiet_ld S ?_ | refine quiet_ld8 S ?_ | refine quiet_ld0 ?_ | refine quiet_ldA S ?_ | refine quiet_b2sB S ?_ | refine quiet_b2sR S ?_ | refine quiet_ldc S ?_); go_big_quiet_on))); refine wpQuiet_nil ?_; clear S; intro wq S) | go_big_skip | (refine wpList_ld S ?_) | (refine wpList_ld8 S ?_) | (refine wpList_ld0 ?_) | (refine wpList_ldA S ?_) | (refine wpList_st8 S ?_; (clear S; intro ws S)) | (refine wpList_st S ?_; (clear S; intro ws S)) | (refine wpList_box S ?_; (clear S; intro nb wb hnb S)) | (refine wpList_alloc S ?_; (clear S; intro nb wb hnb S)) | (refine wpList_mk8 S ?_; (clear S; intro nb wb hnb S)) | (refine wpList_mk S ?_; (clear S; intro nb wb hnb S)) | (refine wpList_bs S ?_; (clear S; intro nb wb hnb S)) | (refine wpList_stA S ?_; (clear S; intro ws S; simp only [splice, List.take_zero, List.take_succ_cons, List.drop_succ_cons, List.drop_zero, List.drop_nil, List.length_cons, List.length_nil, Nat.reduceAdd, Nat.zero_add, List.nil_append, List.cons_append, List.append_nil] at S)) | (refine wpList_b2sB S ?_) | (refine wpList_b2sR S ?_) | (refine wpList_ldc S ?_))
        ((first | go_ret | go_ret2 | go_ret3 | go_end0 | skip); refine hR.out _ _ ?_)
        refine ⟨ev2, css2, rfl, by rw [hpl1.out]; exact hE.out, ?_⟩
        rw [hpl1.out]
        unfold listCells
        show St w0 [] _ (.blk l (.cells [ev2, .int .i64 s2.cap, .int .i64 s2.most, .bool s2.lost, .bool true].toArray T (0, 0)) :: .orow 41 2 ev2 s2.ents.length css2.flatten :: F)
        rw [hl.out]
        exact S.sel (.cons (.tail .head) (.cons (.tail .head) (.weaken (.refl _))))
      by_cases h0 : op.kind = 0
      · obtain ⟨kd, dt, ix⟩ := op
        simp only at h0
        subst h0
        unfold okScript at hok
        rw [if_neg (by simp), if_pos rfl] at hok
        obtain ⟨⟨op2, l2, hd2, hk2⟩, ok3⟩ := hok
        have hlt2 : k + 1 < ops.length := by
          have := congrArg List.length hd2
          rw [List.length_drop, List.length_cons] at this
          omega
        have hn' := hs'.len8
        simp only at hn'
        subst hn'
        obtain ⟨hdl, hnc⟩ := f1.2.2.1 rfl
        simp only at hdl hnc
        have hp2 : played s2 x2 (⟨0, dt, ix⟩ :: ops.drop (k + 1)) = (match (x2.push dt).2 with
            | some i => played (s2.pushed dt i (x2.push dt).1.cap) (x2.push dt).1 (ops.drop (k + 1))
            | none => played s2 (x2.push dt).1 (ops.drop (k + 1))) := by
          conv => lhs; unfold played
          rw [if_neg (by simp), if_pos rfl]
          rfl
        rw [hp2] at hpl1
        clear hp2
        obtain ⟨pr1, pr2⟩ := push_rel hr hgd dt
        have hg2 := qStep_good hgd f2 ⟨0, dt, ix⟩ (fun _ => hdl)
        have hsml := hsm.small (by omega)
        have hanB : (qRun x ops)[k + 1]? = some ⟨0, (qStep x2 ⟨0, dt, ix⟩).1.cap, []⟩ := by
          have := congrArg (·[0]?) hrun2
          rw [hd2] at this
          simp only [qRun, List.getElem?_drop, List.getElem?_cons_zero, Nat.add_zero] at this
          rw [this]
          unfold qStep
          simp only [hk2]
          rfl
        obtain ⟨csB, ⟨ob2, cb2, rfl, hsB, hcB⟩, hl5, hcellB⟩ := hA.out.get (k + 1) _ hanB
        have g0 := hcellB 0 _ rfl
        have g1 := hcellB 1 _ rfl
        clear hsB hcB hl5 hcellB hanB f1 hsA
        rw [Addr.add_zero'] at g0
        clear hdrop hgd hend f3 f2 hnc
        have hqs := qStep_push x2 dt ix
        cases hpush : x2.push dt with
        | mk x3 o =>
          rw [hpush] at hqs
          simp only [hpush] at pr1 pr2 hpl1 ok3
          cases o with
          | none =>
            simp only at hqs pr2 hpl1 ok3
            obtain ⟨hrf, rfl⟩ := pr2 trivial
            clear pr1 pr2
            rw [hqs] at hcellA hrun2 f4 g1 hg2
            simp only at *
            have hx3 : x3.cap ≤ 1073741824 := by rw [hd2] at f4; exact f4.2.1
            clear hd2 hpush hqs
            have hinv2 := hidden (show Rel s2 x3 ∧ x3.Good ∧ qFine x3 (ops.drop (k + 1)) ∧ okScript s2 x3 (ops.drop (k + 1)) ∧ Small2 s2 (k + 1) from ⟨hr, hg2, f4, ok3, hsm.more⟩)
            rw [← hr.cap] at g1
            have hcall : ∀ (w2 : World) (av : Value), Mem w2 [.blk l (.cells (listCells ev2 s2).toArray T (0, 0)), .orow 41 2 ev2 s2.ents.length css2.flatten] → Ents w2 s2.ents css2 →
                Calls Try.prog 38 #[.pointer (some ⟨l, 0, none⟩), .slice oa' dt.length c', .agg #[.int .i64 1, .int .i64 (-1), av], .int .i64 s2.cap] w2 fun e' w' => e' = .returned (.bool true) ∧ St w2 [] w' [] :=
              fun w2 av hM hE2 => specRefused l T _ ev2 s2 css2 oa' dt c' (-1) av w2 hM hE2 hsml hdl hrf
            clear hr hg2 f4 ok3 hsm hsml hs' hx3 hrf
            replace hcall := hidden hcall
            replace hpl1 := hidden hpl1
            replace hrun2 := hidden hrun2
            replace hcell := hidden hcell
            replace hcellA := hidden hcellA
            go_upto_region 12 with (first | go_big_skip | (refine wpList_ldAc S ?_ (by rfl) hcell.out) | ((with_reducible show Code.wp _ (Code.region _ _ true) _ _ _); refine St.regionLast S ?_; (repeat (first | (go_big_quiet_step (fail)) | (go_big_quiet_want; (first | refine quiet_ld S ?_ | refine quiet_ld8 S ?_ | refine quiet_ld0 ?_ | refine quiet_ldA S ?_ | refine quiet_b2sB S ?_ | refine quiet_b2sR S ?_ | refine quiet_ldc S ?_); go_big_quiet_on))); refine wpQuiet_nil ?_; clear S; intro wq S) | go_big_skip | (refine wpList_ld S ?_) | (refine wpList_ld8 S ?_) | (refine wpList_ld0 ?_) | (refine wpList_ldA S ?_) | (refine wpList_st8 S ?_; (clear S; intro ws S)) | (refine wpList_st S ?_; (clear S; intro ws S)) | (refine wpList_box S ?_; (clear S; intro nb wb hnb S)) | (refine wpList_alloc S ?_; (clear S; intro nb wb hnb S)) | (refine wpList_mk8 S ?_; (clear S; intro nb wb hnb S)) | (refine wpList_mk S ?_; (clear S; intro nb wb hnb S)) | (refine wpList_bs S ?_; (clear S; intro nb wb hnb S)) | (refine wpList_stA S ?_; (clear S; intro ws S; simp only [splice, List.take_zero, List.take_succ_cons, List.drop_succ_cons, List.drop_zero, List.drop_nil, List.length_cons, List.length_nil, Nat.reduceAdd, Nat.zero_add, List.nil_append, List.cons_append, List.append_nil] at S)) | (refine wpList_b2sB S ?_) | (refine wpList_b2sR S ?_) | (refine wpList_ldc S ?_))
            have hb5 : decide ((ops.length : Int) ≤ (k : Int) + 1) = false := by simp; omega
            refine St.regionC S [.blk nb _] 31 [([0, 1, 2, 3, 4, 5, 6, 7, 8, 9, 10, 11, 12, 13, 14, 15, 16, 17, 18, 19, 20, 21, 22, 23, 24, 25, 26, 27], 28)] [29, 30] ?_
            clear S; intro wr Cr S Sc; simp only [walkC, pick, List.getElem?_cons_succ, List.getElem?_cons_zero, List.drop_succ_cons, List.drop_zero]
            (repeat (first | (go_big_quiet_want; (refine quiet_ldAc Sc ?_ (by rfl) hcellA.out); go_big_quiet_on) | (first | (go_big_quiet_step (fail)) | (go_big_quiet_want; (first | refine quiet_ld Sc ?_ | refine quiet_ld8 Sc ?_ | refine quiet_ld0 ?_ | refine quiet_ldA Sc ?_ | refine quiet_b2sB Sc ?_ | refine quiet_b2sR Sc ?_ | refine quiet_ldc Sc ?_); go_big_quiet_on))))
            refine wpQuiet_nil ?_
            go_wp2_with fail
            refine Calls.mono (hcall.out _ _ (S.sel2 (hp := .tail .head) (hp1 := .tail .head)) (hE.out.on S.chg)) ?_
            rintro e w5 ⟨rfl, C⟩
            have S2 := S.same C.chg
            clear S C
            have S := S2
            clear S2
            go_wp2_with fail
            refine ⟨(S.sel (by repeat (first | exact Sel.nil | (apply Sel.cons; (repeat (first | exact Pull.head | apply Pull.tail)))))).inSt _, ?_⟩; (repeat (first | (go_big_quiet_step (fail)) | (go_big_quiet_want; (first | refine quiet_ld Sc ?_ | refine quiet_ld8 Sc ?_ | refine quiet_ld0 ?_ | refine quiet_ldA Sc ?_ | refine quiet_b2sB Sc ?_ | refine quiet_b2sR Sc ?_ | refine quiet_ldc Sc ?_); go_big_quiet_on))); refine wpQuiet_nil ?_
            go_wp2_with (first | go_big_skip | ((with_reducible show Code.wp _ (Code.region _ _ true) _ _ _); refine St.regionLast S ?_; (repeat (first | (go_big_quiet_step (fail)) | (go_big_quiet_want; (first | refine quiet_ld S ?_ | refine quiet_ld8 S ?_ | refine quiet_ld0 ?_ | refine quiet_ldA S ?_ | refine quiet_b2sB S ?_ | refine quiet_b2sR S ?_ | refine quiet_ldc S ?_); go_big_quiet_on))); refine wpQuiet_nil ?_; clear S; intro wq S) | go_big_skip | (refine wpList_ld S ?_) | (refine wpList_ld8 S ?_) | (refine wpList_ld0 ?_) | (refine wpList_ldA S ?_) | (refine wpList_st8 S ?_; (clear S; intro ws S)) | (refine wpList_st S ?_; (clear S; intro ws S)) | (refine wpList_box S ?_; (clear S; intro nb wb hnb S)) | (refine wpList_alloc S ?_; (clear S; intro nb wb hnb S)) | (refine wpList_mk8 S ?_; (clear S; intro nb wb hnb S)) | (refine wpList_mk S ?_; (clear S; intro nb wb hnb S)) | (refine wpList_bs S ?_; (clear S; intro nb wb hnb S)) | (refine wpList_stA S ?_; (clear S; intro ws S; simp only [splice, List.take_zero, List.take_succ_cons, List.drop_succ_cons, List.drop_zero, List.drop_nil, List.length_cons, List.length_nil, Nat.reduceAdd, Nat.zero_add, List.nil_append, List.cons_append, List.append_nil] at S)) | (refine wpList_b2sB S ?_) | (refine wpList_b2sR S ?_) | (refine wpList_ldc S ?_))
            go_roundg (gk - 1)
            case measure => have := hg.out; omega
            case rel => exact ⟨k + 1, s2, x3, ev2, css2, hidden (by have := hg.out; omega), by go_num, by omega, hpl1, hE, hrun2, hinv2, S.sel (.cons (.tail .head) (.cons (.tail .head) (.weaken (.refl _))))⟩
          | some i =>
            simp only at hqs pr1 hpl1 ok3
            obtain ⟨hpk, hrel2⟩ := pr1 i rfl
            clear pr1 pr2
            rw [hqs] at hcellA hrun2 f4 g1 hg2
            simp only at *
            have hx3 : x3.cap ≤ 1073741824 := by rw [hd2] at f4; exact f4.2.1
            clear hd2 hpush hqs
            have hi : i ≤ 1073741824 := by have := hpk.2.2.2.2.1; omega
            have hinv2 := hidden (show Rel (s2.pushed dt i x3.cap) x3 ∧ x3.Good ∧ qFine x3 (ops.drop (k + 1)) ∧ okScript (s2.pushed dt i x3.cap) x3 (ops.drop (k + 1)) ∧ Small2 (s2.pushed dt i x3.cap) (k + 1) from ⟨hrel2, hg2, f4, ok3, hsm.pushed hdl hx3 hpk⟩)
            have hcall : ∀ (L : List Res) (w2 : World) (av : Value), St w0 [] w2 (.blk l (.cells (listCells ev2 s2).toArray T (0, 0)) :: .orow 41 2 ev2 s2.ents.length css2.flatten :: L) →
                Calls Try.prog 38 #[.pointer (some ⟨l, 0, none⟩), .slice oa' dt.length c', .agg #[.int .i64 0, .int .i64 i, av], .int .i64 x3.cap] w2 (AnsEnd l T (s2.pushed dt i x3.cap) L w0) :=
              fun L w2 av S' => specPushed l T ev2 s2 css2 oa' dt c' i x3.cap av L w0 w2 S' hE.out hsml hdl hs' hc' hi hx3 hpk
            clear hr hg2 f4 ok3 hsm hsml hs' hpk hrel2 hE
            generalize s2.pushed dt i x3.cap = s3 at *
            generalize x3.cap = cap3 at *
            replace hcall := hidden hcall
            replace hpl1 := hidden hpl1
            replace hrun2 := hidden hrun2
            replace hcell := hidden hcell
            replace hcellA := hidden hcellA
            go_upto_region 12 with (first | go_big_skip | (refine wpList_ldAc S ?_ (by rfl) hcell.out) | ((with_reducible show Code.wp _ (Code.region _ _ true) _ _ _); refine St.regionLast S ?_; (repeat (first | (go_big_quiet_step (fail)) | (go_big_quiet_want; (first | refine quiet_ld S ?_ | refine quiet_ld8 S ?_ | refine quiet_ld0 ?_ | refine quiet_ldA S ?_ | refine quiet_b2sB S ?_ | refine quiet_b2sR S ?_ | refine quiet_ldc S ?_); go_big_quiet_on))); refine wpQuiet_nil ?_; clear S; intro wq S) | go_big_skip | (refine wpList_ld S ?_) | (refine wpList_ld8 S ?_) | (refine wpList_ld0 ?_) | (refine wpList_ldA S ?_) | (refine wpList_st8 S ?_; (clear S; intro ws S)) | (refine wpList_st S ?_; (clear S; intro ws S)) | (refine wpList_box S ?_; (clear S; intro nb wb hnb S)) | (refine wpList_alloc S ?_; (clear S; intro nb wb hnb S)) | (refine wpList_mk8 S ?_; (clear S; intro nb wb hnb S)) | (refine wpList_mk S ?_; (clear S; intro nb wb hnb S)) | (refine wpList_bs S ?_; (clear S; intro nb wb hnb S)) | (refine wpList_stA S ?_; (clear S; intro ws S; simp only [splice, List.take_zero, List.take_succ_cons, List.drop_succ_cons, List.drop_zero, List.drop_nil, List.length_cons, List.length_nil, Nat.reduceAdd, Nat.zero_add, List.nil_append, List.cons_append, List.append_nil] at S)) | (refine wpList_b2sB S ?_) | (refine wpList_b2sR S ?_) | (refine wpList_ldc S ?_))
            have hb5 : decide ((ops.length : Int) ≤ (k : Int) + 1) = false := by simp; omega
            refine St.regionC S [.blk nb _] 31 [([0, 1, 2, 3, 4, 5, 6, 7, 8, 9, 10, 11, 12, 13, 14, 15, 16, 17, 18, 19, 20, 21, 22, 23, 24, 25, 26, 27], 28)] [29, 30] ?_
            clear S; intro wr Cr S Sc; simp only [walkC, pick, List.getElem?_cons_succ, List.getElem?_cons_zero, List.drop_succ_cons, List.drop_zero]
            (repeat (first | (go_big_quiet_want; (refine quiet_ldAc Sc ?_ (by rfl) hcellA.out); go_big_quiet_on) | (first | (go_big_quiet_step (fail)) | (go_big_quiet_want; (first | refine quiet_ld Sc ?_ | refine quiet_ld8 Sc ?_ | refine quiet_ld0 ?_ | refine quiet_ldA Sc ?_ | refine quiet_b2sB Sc ?_ | refine quiet_b2sR Sc ?_ | refine quiet_ldc Sc ?_); go_big_quiet_on))))
            refine wpQuiet_nil ?_
            go_wp2_with fail
            refine Calls.mono (hcall.out _ _ _ (S.sel (.cons (.tail .head) (.cons (.tail .head) (.refl _))))) ?_
            clear S
            rintro e w5 ⟨ev3, css3, rfl, hE3, S⟩
            replace hE3 := hidden hE3
            go_wp2_with fail
            refine ⟨(S.sel (by repeat (first | exact Sel.nil | (apply Sel.cons; (repeat (first | exact Pull.head | apply Pull.tail)))))).inSt _, ?_⟩; (repeat (first | (go_big_quiet_step (fail)) | (go_big_quiet_want; (first | refine quiet_ld Sc ?_ | refine quiet_ld8 Sc ?_ | refine quiet_ld0 ?_ | refine quiet_ldA Sc ?_ | refine quiet_b2sB Sc ?_ | refine quiet_b2sR Sc ?_ | refine quiet_ldc Sc ?_); go_big_quiet_on))); refine wpQuiet_nil ?_
            go_wp2_with (first | go_big_skip | ((with_reducible show Code.wp _ (Code.region _ _ true) _ _ _); refine St.regionLast S ?_; (repeat (first | (go_big_quiet_step (fail)) | (go_big_quiet_want; (first | refine quiet_ld S ?_ | refine quiet_ld8 S ?_ | refine quiet_ld0 ?_ | refine quiet_ldA S ?_ | refine quiet_b2sB S ?_ | refine quiet_b2sR S ?_ | refine quiet_ldc S ?_); go_big_quiet_on))); refine wpQuiet_nil ?_; clear S; intro wq S) | go_big_skip | (refine wpList_ld S ?_) | (refine wpList_ld8 S ?_) | (refine wpList_ld0 ?_) | (refine wpList_ldA S ?_) | (refine wpList_st8 S ?_; (clear S; intro ws S)) | (refine wpList_st S ?_; (clear S; intro ws S)) | (refine wpList_box S ?_; (clear S; intro nb wb hnb S)) | (refine wpList_alloc S ?_; (clear S; intro nb wb hnb S)) | (refine wpList_mk8 S ?_; (clear S; intro nb wb hnb S)) | (refine wpList_mk S ?_; (clear S; intro nb wb hnb S)) | (refine wpList_bs S ?_; (clear S; intro nb wb hnb S)) | (refine wpList_stA S ?_; (clear S; intro ws S; simp only [splice, List.take_zero, List.take_succ_cons, List.drop_succ_cons, List.drop_zero, List.drop_nil, List.length_cons, List.length_nil, Nat.reduceAdd, Nat.zero_add, List.nil_append, List.cons_append, List.append_nil] at S)) | (refine wpList_b2sB S ?_) | (refine wpList_b2sR S ?_) | (refine wpList_ldc S ?_))
            go_roundg (gk - 1)
            case measure => have := hg.out; omega
            case rel => exact ⟨k + 1, s3, x3, ev3, css3, hidden (by have := hg.out; omega), by go_num, by omega, hpl1, hE3, hrun2, hinv2, S.sel (.cons .head (.cons .head (.weaken (.refl _))))⟩
      · have hne : ((op.kind : Int) != 0) = true := by simp [h0]
        have hp2 : played s2 x2 (op :: ops.drop (k + 1)) = played (answered s2 op.kind) (qStep x2 op).1 (ops.drop (k + 1)) := by
          conv => lhs; unfold played
          rw [if_neg hend, if_neg h0]
        unfold okScript at hok
        rw [if_neg hend, if_neg h0] at hok
        rw [hp2] at hpl1
        obtain ⟨ok1, ok2, ok3⟩ := hok
        have hlost : op.kind = 1 → s2.lost = false := fun h => by
          cases hl : s2.lost with
          | true => exact absurd ⟨h, hl⟩ hend
          | false => rfl
        obtain ⟨hans, hrel2⟩ := step_rel hr hgd op ok1 hlost
        have hg2 := qStep_good hgd f2 op (fun h => absurd h h0)
        have hsml := hsm.small (by omega)
        have hsm2 := hsm.answered op.kind
        have hinv2 := hidden (show Rel (answered s2 op.kind) (qStep x2 op).1 ∧ (qStep x2 op).1.Good ∧ qFine (qStep x2 op).1 (ops.drop (k + 1)) ∧ okScript (answered s2 op.kind) (qStep x2 op).1 (ops.drop (k + 1)) ∧ Small2 (answered s2 op.kind) (k + 1) from ⟨hrel2, hg2, f4, ok3, hsm2⟩)
        have hcall : ∀ (L : List Res) (w2 : World), St w0 [] w2 (.blk l (.cells (listCells ev2 s2).toArray T (0, 0)) :: .orow 41 2 ev2 s2.ents.length css2.flatten :: L) →
            Calls Try.prog 37 #[.pointer (some ⟨l, 0, none⟩), .agg #[.int .i64 op.kind, .slice oa' n' c', .int .i64 op.index], .agg #[.int .i64 (qStep x2 op).2.fault, .int .i64 (qStep x2 op).2.number, .slice oa2 (qStep x2 op).2.data.length c2]] w2 (AnsEnd l T (answered s2 op.kind) L w0) :=
          fun L w2 S' => ansAll l T ev2 s2 css2 _ op (qStep x2 op).2 oa2 c2 L w0 w2 S' hE.out hsml hsA ok1 hlost ok2 hans
        clear hp2 hrel2 hg2 f4 ok3 hsm2 hr hgd hsm f1 f2 f3 hs' hsA hdrop ok2 hans hsml hE
        replace hpl1 := hidden hpl1
        replace hrun2 := hidden hrun2
        replace hcell := hidden hcell
        replace hcellA := hidden hcellA
        replace hcall := hidden hcall
        replace hlost := hidden hlost
        generalize (qStep x2 op).2 = an at *
        generalize (qStep x2 op).1 = x3 at *
        generalize answered s2 op.kind = s3 at *
        obtain ⟨kd, dt, ix⟩ := op
        obtain ⟨ft, nm, da⟩ := an
        simp only at *
        clear ok1 h0 hend
        by_cases hk1 : kd = 1
        · subst hk1
          have hl := hlost.out rfl
          go_upto_region 10 with (first | go_big_skip | (refine wpList_ldAc S ?_ (by rfl) hcell.out) | ((with_reducible show Code.wp _ (Code.region _ _ true) _ _ _); refine St.regionLast S ?_; (repeat (first | (go_big_quiet_step (fail)) | (go_big_quiet_want; (first | refine quiet_ld S ?_ | refine quiet_ld8 S ?_ | refine quiet_ld0 ?_ | refine quiet_ldA S ?_ | refine quiet_b2sB S ?_ | refine quiet_b2sR S ?_ | refine quiet_ldc S ?_); go_big_quiet_on))); refine wpQuiet_nil ?_; clear S; intro wq S) | go_big_skip | (refine wpList_ld S ?_) | (refine wpList_ld8 S ?_) | (refine wpList_ld0 ?_) | (refine wpList_ldA S ?_) | (refine wpList_st8 S ?_; (clear S; intro ws S)) | (refine wpList_st S ?_; (clear S; intro ws S)) | (refine wpList_box S ?_; (clear S; intro nb wb hnb S)) | (refine wpList_alloc S ?_; (clear S; intro nb wb hnb S)) | (refine wpList_mk8 S ?_; (clear S; intro nb wb hnb S)) | (refine wpList_mk S ?_; (clear S; intro nb wb hnb S)) | (refine wpList_bs S ?_; (clear S; intro nb wb hnb S)) | (refine wpList_stA S ?_; (clear S; intro ws S; simp only [splice, List.take_zero, List.take_succ_cons, List.drop_succ_cons, List.drop_zero, List.drop_nil, List.length_cons, List.length_nil, Nat.reduceAdd, Nat.zero_add, List.nil_append, List.cons_append, List.append_nil] at S)) | (refine wpList_b2sB S ?_) | (refine wpList_b2sR S ?_) | (refine wpList_ldc S ?_))
          refine St.regionC S [.blk nb _] 8 [([0, 1, 2, 3, 4, 5], 6)] [7] ?_
          clear S; intro wr Cr S Sc; simp only [walkC, pick, List.getElem?_cons_succ, List.getElem?_cons_zero, List.drop_succ_cons, List.drop_zero]
          (repeat (first | (go_big_quiet_want; (refine quiet_ldAc Sc ?_ (by rfl) hcellA.out); go_big_quiet_on) | (first | (go_big_quiet_step (fail)) | (go_big_quiet_want; (first | refine quiet_ld Sc ?_ | refine quiet_ld8 Sc ?_ | refine quiet_ld0 ?_ | refine quiet_ldA Sc ?_ | refine quiet_b2sB Sc ?_ | refine quiet_b2sR Sc ?_ | refine quiet_ldc Sc ?_); go_big_quiet_on))))
          refine wpQuiet_nil ?_
          go_wp2_with fail
          refine Calls.mono (hcall.out _ _ (S.sel (.cons (.tail .head) (.cons (.tail .head) (.refl _))))) ?_
          clear S
          rintro e w5 ⟨ev3, css3, rfl, hE3, S⟩
          replace hE3 := hidden hE3
          go_wp2_with fail
          refine ⟨(S.sel (by repeat (first | exact Sel.nil | (apply Sel.cons; (repeat (first | exact Pull.head | apply Pull.tail)))))).inSt _, ?_⟩; (repeat (first | (go_big_quiet_step (fail)) | (go_big_quiet_want; (first | refine quiet_ld Sc ?_ | refine quiet_ld8 Sc ?_ | refine quiet_ld0 ?_ | refine quiet_ldA Sc ?_ | refine quiet_b2sB Sc ?_ | refine quiet_b2sR Sc ?_ | refine quiet_ldc Sc ?_); go_big_quiet_on))); refine wpQuiet_nil ?_
          go_wp2_with (first | go_big_skip | ((with_reducible show Code.wp _ (Code.region _ _ true) _ _ _); refine St.regionLast S ?_; (repeat (first | (go_big_quiet_step (fail)) | (go_big_quiet_want; (first | refine quiet_ld S ?_ | refine quiet_ld8 S ?_ | refine quiet_ld0 ?_ | refine quiet_ldA S ?_ | refine quiet_b2sB S ?_ | refine quiet_b2sR S ?_ | refine quiet_ldc S ?_); go_big_quiet_on))); refine wpQuiet_nil ?_; clear S; intro wq S) | go_big_skip | (refine wpList_ld S ?_) | (refine wpList_ld8 S ?_) | (refine wpList_ld0 ?_) | (refine wpList_ldA S ?_) | (refine wpList_st8 S ?_; (clear S; intro ws S)) | (refine wpList_st S ?_; (clear S; intro ws S)) | (refine wpList_box S ?_; (clear S; intro nb wb hnb S)) | (refine wpList_alloc S ?_; (clear S; intro nb wb hnb S)) | (refine wpList_mk8 S ?_; (clear S; intro nb wb hnb S)) | (refine wpList_mk S ?_; (clear S; intro nb wb hnb S)) | (refine wpList_bs S ?_; (clear S; intro nb wb hnb S)) | (refine wpList_stA S ?_; (clear S; intro ws S; simp only [splice, List.take_zero, List.take_succ_cons, List.drop_succ_cons, List.drop_zero, List.drop_nil, List.length_cons, List.length_nil, Nat.reduceAdd, Nat.zero_add, List.nil_append, List.cons_append, List.append_nil] at S)) | (refine wpList_b2sB S ?_) | (refine wpList_b2sR S ?_) | (refine wpList_ldc S ?_))
          go_roundg (gk - 1)
          case measure => have := hg.out; omega
          case rel => exact ⟨k + 1, s3, x3, ev3, css3, hidden (by have := hg.out; omega), by go_num, by omega, hpl1, hE3, hrun2, hinv2, S.sel (.cons .head (.cons .head (.weaken (.refl _))))⟩
        · have hb1 : (kd == 1) = false := by simp [hk1]
          clear hk1
          go_upto_region 10 with (first | go_big_skip | (refine wpList_ldAc S ?_ (by rfl) hcell.out) | ((with_reducible show Code.wp _ (Code.region _ _ true) _ _ _); refine St.regionLast S ?_; (repeat (first | (go_big_quiet_step (fail)) | (go_big_quiet_want; (first | refine quiet_ld S ?_ | refine quiet_ld8 S ?_ | refine quiet_ld0 ?_ | refine quiet_ldA S ?_ | refine quiet_b2sB S ?_ | refine quiet_b2sR S ?_ | refine quiet_ldc S ?_); go_big_quiet_on))); refine wpQuiet_nil ?_; clear S; intro wq S) | go_big_skip | (refine wpList_ld S ?_) | (refine wpList_ld8 S ?_) | (refine wpList_ld0 ?_) | (refine wpList_ldA S ?_) | (refine wpList_st8 S ?_; (clear S; intro ws S)) | (refine wpList_st S ?_; (clear S; intro ws S)) | (refine wpList_box S ?_; (clear S; intro nb wb hnb S)) | (refine wpList_alloc S ?_; (clear S; intro nb wb hnb S)) | (refine wpList_mk8 S ?_; (clear S; intro nb wb hnb S)) | (refine wpList_mk S ?_; (clear S; intro nb wb hnb S)) | (refine wpList_bs S ?_; (clear S; intro nb wb hnb S)) | (refine wpList_stA S ?_; (clear S; intro ws S; simp only [splice, List.take_zero, List.take_succ_cons, List.drop_succ_cons, List.drop_zero, List.drop_nil, List.length_cons, List.length_nil, Nat.reduceAdd, Nat.zero_add, List.nil_append, List.cons_append, List.append_nil] at S)) | (refine wpList_b2sB S ?_) | (refine wpList_b2sR S ?_) | (refine wpList_ldc S ?_))
          refine St.regionC S [.blk nb _] 8 [([0, 1, 2, 3, 4, 5], 6)] [7] ?_
          clear S; intro wr Cr S Sc; simp only [walkC, pick, List.getElem?_cons_succ, List.getElem?_cons_zero, List.drop_succ_cons, List.drop_zero]
          (repeat (first | (go_big_quiet_want; (refine quiet_ldAc Sc ?_ (by rfl) hcellA.out); go_big_quiet_on) | (first | (go_big_quiet_step (fail)) | (go_big_quiet_want; (first | refine quiet_ld Sc ?_ | refine quiet_ld8 Sc ?_ | refine quiet_ld0 ?_ | refine quiet_ldA Sc ?_ | refine quiet_b2sB Sc ?_ | refine quiet_b2sR Sc ?_ | refine quiet_ldc Sc ?_); go_big_quiet_on))))
          refine wpQuiet_nil ?_
          go_wp2_with fail
          refine Calls.mono (hcall.out _ _ (S.sel (.cons (.tail .head) (.cons (.tail .head) (.refl _))))) ?_
          clear S
          rintro e w5 ⟨ev3, css3, rfl, hE3, S⟩
          replace hE3 := hidden hE3
          go_wp2_with fail
          refine ⟨(S.sel (by repeat (first | exact Sel.nil | (apply Sel.cons; (repeat (first | exact Pull.head | apply Pull.tail)))))).inSt _, ?_⟩; (repeat (first | (go_big_quiet_step (fail)) | (go_big_quiet_want; (first | refine quiet_ld Sc ?_ | refine quiet_ld8 Sc ?_ | refine quiet_ld0 ?_ | refine quiet_ldA Sc ?_ | refine quiet_b2sB Sc ?_ | refine quiet_b2sR Sc ?_ | refine quiet_ldc Sc ?_); go_big_quiet_on))); refine wpQuiet_nil ?_
          go_wp2_with (first | go_big_skip | ((with_reducible show Code.wp _ (Code.region _ _ true) _ _ _); refine St.regionLast S ?_; (repeat (first | (go_big_quiet_step (fail)) | (go_big_quiet_want; (first | refine quiet_ld S ?_ | refine quiet_ld8 S ?_ | refine quiet_ld0 ?_ | refine quiet_ldA S ?_ | refine quiet_b2sB S ?_ | refine quiet_b2sR S ?_ | refine quiet_ldc S ?_); go_big_quiet_on))); refine wpQuiet_nil ?_; clear S; intro wq S) | go_big_skip | (refine wpList_ld S ?_) | (refine wpList_ld8 S ?_) | (refine wpList_ld0 ?_) | (refine wpList_ldA S ?_) | (refine wpList_st8 S ?_; (clear S; intro ws S)) | (refine wpList_st S ?_; (clear S; intro ws S)) | (refine wpList_box S ?_; (clear S; intro nb wb hnb S)) | (refine wpList_alloc S ?_; (clear S; intro nb wb hnb S)) | (refine wpList_mk8 S ?_; (clear S; intro nb wb hnb S)) | (refine wpList_mk S ?_; (clear S; intro nb wb hnb S)) | (refine wpList_bs S ?_; (clear S; intro nb wb hnb S)) | (refine wpList_stA S ?_; (clear S; intro ws S; simp only [splice, List.take_zero, List.take_succ_cons, List.drop_succ_cons, List.drop_zero, List.drop_nil, List.length_cons, List.length_nil, Nat.reduceAdd, Nat.zero_add, List.nil_append, List.cons_append, List.append_nil] at S)) | (refine wpList_b2sB S ?_) | (refine wpList_b2sR S ?_) | (refine wpList_ldc S ?_))
          go_roundg (gk - 1)
          case measure => have := hg.out; omega
          case rel => exact ⟨k + 1, s3, x3, ev3, css3, hidden (by have := hg.out; omega), by go_num, by omega, hpl1, hE3, hrun2, hinv2, S.sel (.cons .head (.cons .head (.weaken (.refl _))))⟩
    · have hkl : k = ops.length := by omega
      replace hkl := hidden hkl
      have hb := hidden (show played s x ops = s2 by rw [hpl.out, hkl.out, List.drop_length]; rfl)
      go_wp2_with (first | go_big_skip | ((with_reducible show Code.wp _ (Code.region _ _ true) _ _ _); refine St.regionLast S ?_; (repeat (first | (go_big_quiet_step (fail)) | (go_big_quiet_want; (first | refine quiet_ld S ?_ | refine quiet_ld8 S ?_ | refine quiet_ld0 ?_ | refine quiet_ldA S ?_ | refine quiet_b2sB S ?_ | refine quiet_b2sR S ?_ | refine quiet_ldc S ?_); go_big_quiet_on))); refine wpQuiet_nil ?_; clear S; intro wq S) | go_big_skip | (refine wpList_ld S ?_) | (refine wpList_ld8 S ?_) | (refine wpList_ld0 ?_) | (refine wpList_ldA S ?_) | (refine wpList_st8 S ?_; (clear S; intro ws S)) | (refine wpList_st S ?_; (clear S; intro ws S)) | (refine wpList_box S ?_; (clear S; intro nb wb hnb S)) | (refine wpList_alloc S ?_; (clear S; intro nb wb hnb S)) | (refine wpList_mk8 S ?_; (clear S; intro nb wb hnb S)) | (refine wpList_mk S ?_; (clear S; intro nb wb hnb S)) | (refine wpList_bs S ?_; (clear S; intro nb wb hnb S)) | (refine wpList_stA S ?_; (clear S; intro ws S; simp only [splice, List.take_zero, List.take_succ_cons, List.drop_succ_cons, List.drop_zero, List.drop_nil, List.length_cons, List.length_nil, Nat.reduceAdd, Nat.zero_add, List.nil_append, List.cons_append, List.append_nil] at S)) | (refine wpList_b2sB S ?_) | (refine wpList_b2sR S ?_) | (refine wpList_ldc S ?_))
      ((first | go_ret | go_ret2 | go_ret3 | go_end0 | skip); refine hR.out _ _ ?_)
      exact ⟨ev2, css2, rfl, by rw [hb.out]; exact hE.out, by rw [hb.out]; exact S⟩
end Go.Proofs.Ytkfkcinkkgdebaa
