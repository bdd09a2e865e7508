/- To look at entries of a segment changes nothing: the walk of the law. -/
import Derived.Test.YtbklhnpnkinadaaDoorK10
section
namespace Go.Proofs.YtbklhnpnkinadaaDoor
open Go Go.RowKit Go.Vil
set_option linter.unusedSimpArgs false
set_option linter.unusedVariables false
set_option maxRecDepth 100000

theorem filter_get {α : Type} (p : α → Bool) : ∀ (l : List α) (k : Nat) (a : α), l[k]? = some a → p a = true → (l.filter p)[((l.take k).filter p).length]? = some a
  | [], k, a, h, _ => by simp at h
  | x :: l, 0, a, h, hp => by
    simp at h; subst h
    rw [List.take_zero, List.filter_nil, List.filter_cons, if_pos hp]; rfl
  | x :: l, k + 1, a, h, hp => by
    have h1 := filter_get p l k a (by simpa using h) hp
    rw [List.take_succ_cons, List.filter_cons, List.filter_cons]
    by_cases hx : p x = true
    · rw [if_pos hx, if_pos hx, List.length_cons, List.getElem?_cons_succ]; exact h1
    · rw [if_neg hx, if_neg hx]; exact h1
def looksS (op : SOp) : Bool := decide (op.kind = 3 ∨ op.kind = 4 ∨ op.kind = 6 ∨ op.kind = 9)
theorem looks_f (op : SOp) : Sg.looks op.f = looksS op := rfl
def fewS (l : List SOp) : List SOp := l.filter fun op => !looksS op
theorem fewS_f (l : List SOp) : (fewS l).map SOp.f = (l.map SOp.f).filter fun op => !Sg.looks op := by
  unfold fewS
  rw [List.filter_map]; rfl
theorem fewS_take {l : List SOp} {k : Nat} {op : SOp} (h : l[k]? = some op) : fewS (l.take (k + 1)) = fewS (l.take k) ++ (if looksS op then [] else [op]) := by
  unfold fewS
  rw [List.take_add_one, h, List.filter_append]
  cases hl : looksS op <;> simp [hl]
theorem fewS_le (l : List SOp) (k : Nat) : (fewS (l.take k)).length ≤ k := by
  have := List.length_filter_le (fun op => !looksS op) (l.take k)
  unfold fewS
  rw [List.length_take] at this
  omega
/-- The answer at an operation that does not only look. -/
theorem peeks_at (s : Sg) (l : List SOp) (k : Nat) (op : SOp) (an : FAns) (h : l[k]? = some op) (hl : looksS op = false) (ha : (s.run (l.map SOp.f))[k]? = some an) : (s.run ((fewS l).map SOp.f))[(fewS (l.take k)).length]? = some an := by
  have h1 := (Sg.run_looks (l.map SOp.f) s).2
  have h2 : ((l.map SOp.f).zip (s.run (l.map SOp.f)))[k]? = some (op.f, an) := by
    rw [List.getElem?_zip_eq_some]
    exact ⟨by rw [List.getElem?_map, h]; rfl, ha⟩
  have h3 := filter_get (fun p : FOp × FAns => !Sg.looks p.1) _ k (op.f, an) h2 (by show (!Sg.looks op.f) = true; rw [looks_f, hl]; rfl)
  have h4 : ((((l.map SOp.f).zip (s.run (l.map SOp.f))).take k).filter (fun p => !Sg.looks p.1)).length = (fewS (l.take k)).length := by
    have e1 : (((l.map SOp.f).zip (s.run (l.map SOp.f))).take k).map (·.1) = (l.take k).map SOp.f := by
      rw [List.map_take, List.map_fst_zip (by rw [Sg.run_length]; exact Nat.le_refl _), List.map_take]
    have e2 : (((((l.map SOp.f).zip (s.run (l.map SOp.f))).take k).filter (fun p => !Sg.looks p.1)).map (·.1)) = ((l.take k).map SOp.f).filter (fun op => !Sg.looks op) := by
      rw [← e1, List.filter_map]; rfl
    have e3 := congrArg List.length e2
    rw [List.length_map, ← fewS_f, List.length_map] at e3
    exact e3
  rw [fewS_f, ← h1, List.getElem?_map, ← h4, h3]; rfl
theorem timed_few : ∀ (l : List SOp) (t u : Nat), u ≤ t → Timed t l → Timed u (fewS l)
  | [], _, _, _, _ => trivial
  | x :: l, t, u, hu, h => by
    show Timed u ((x :: l).filter fun op => !looksS op)
    rw [List.filter_cons]
    split
    · exact ⟨Nat.le_trans hu h.1, timed_few l x.now x.now (Nat.le_refl _) h.2⟩
    · exact timed_few l x.now u (Nat.le_trans hu h.1) h.2
theorem stotal_few : ∀ l : List SOp, stotal (fewS l) ≤ stotal l
  | [] => Nat.le_refl _
  | x :: l => by
    have := stotal_few l
    have e : stotal (x :: l) = (x.key.length + x.value.length) + stotal l := rfl
    unfold fewS at this ⊢
    rw [List.filter_cons]
    split
    · show (x.key.length + x.value.length) + stotal (l.filter _) ≤ _
      omega
    · omega

set_option maxHeartbeats 12800000 in
theorem lawSegPeeks (size : Int) (v : Value) (ops : List SOp) (e1 e2 : Value) (w : World) (h : Arr FInV 10 w v ops) (hE : SErrs w [] e1 e2) :
    Calls Tryd.prog 8 #[.int .i64 size, v] w fun e w' => e = .returned (.bool true) ∧ Chg [] w w' := by
  have S := St.begin w
  obtain ⟨oi, ci, rfl, hci⟩ := h.shape
  have hhash := hidden (show ∀ op ∈ ops, op.hash < 18446744073709551616 from fun op hop => by
    obtain ⟨_, _, css0, _, _, hEa, _⟩ := h
    obtain ⟨k, hk⟩ := List.mem_iff_getElem?.1 hop
    obtain ⟨cs, _, ⟨_, _, _, _, _, _, _, _, _, _, _, _, _, _, _, hh⟩, _⟩ := hEa.get k op hk
    exact hh)
  replace h := hidden h
  replace hE := hidden hE
  refine Calls.cps ?_; intro R hR
  go_enter Tryd.func8, Tryd.ntmps8
  go_wp2_with (fail)
  refine Calls.mono (fits4 _ ops _ (h.out.on S.chg fun _ _ h => h.on S.chg)) ?_
  rintro e w2 ⟨b, rfl, hb, C⟩
  have S2 := S.call C; clear S C; simp only [List.cons_append, List.nil_append] at S2; have S := S2; clear S2
  cases b with
  | false =>
    go_wp2_with (fail)
    ((first | go_ret | go_ret2 | go_ret3 | go_end0 | skip); refine hR.out _ _ ?_)
    exact ⟨rfl, S.chg⟩
  | true =>
    obtain ⟨hf1, hf2⟩ := hb rfl
    clear hb
    replace hf2 := hidden hf2
    have hs1 : 0 ≤ u64r size % 4096 := Int.emod_nonneg _ (by decide)
    have hs2 : u64r size % 4096 < 4096 := Int.emod_lt_of_pos _ (by decide)
    go_upto_region 4 with (fail)
    rw [wrap_rem64 size 4096 (by decide) (by decide)] at *
    obtain ⟨sz, hsz⟩ : ∃ sz : Nat, 1 + u64r size % 4096 = sz := ⟨(1 + u64r size % 4096).toNat, by omega⟩
    have hwz : wrap64 (1 + u64r size % 4096) = (sz : Int) := by unfold wrap64; omega
    have hsz1 : 1 ≤ sz := by omega
    have hsz2 : sz ≤ 4096 := by omega
    rw [hwz] at *
    clear hwz hs1 hs2 hsz
    go_wp2_with (fail)
    refine Calls.mono (riSegOps _ ops _ (h.out.on S.chg fun _ _ h => h.on S.chg) hf1 hf2.out) ?_
    rintro e w3 ⟨ov, css, rfl, hcss, C⟩
    replace hcss : SCells w3 _ css := Each.mono (fun _ _ h => ⟨h.1.on C.chg, h.2⟩) hcss
    have C1 := hidden (S.chg.trans C.chg)
    have hl := hidden (row_arr (w := w3) (by decide) (C.mem.2 _ List.mem_cons_self) hcss (each_oneS hcss fun x cs h => h.one))
    have hE3 := hidden (hE.out.call (S.call C) (bs' := []))
    have hk := hidden (segOps_ok ops hhash.out)
    have hlen := segOps_le ops
    have htot := hidden (segOps_total ops)
    have htim := hidden (segOps_timed ops)
    clear S C hcss hE hhash hf2 h
    generalize segOps ops = l at *
    obtain ⟨ol, cl, rfl, hcl⟩ := hl.out.shape
    have S := St.begin w3
    go_wp2_with (fail)
    have S := S.nilRow 66 10
    go_loopg [6, 8, 28] l.length (fun g fv xp i wr => ∃ (k n : Nat) (css : List (List Value)), Hid (k + g = l.length) ∧ i = .int .i64 k ∧ k ≤ l.length ∧ n ≤ k ∧ Hid (n = (fewS (l.take k)).length) ∧
      Hid (SCells w3 (fewS (l.take k)) css) ∧ St w3 [] wr [.row 66 10 fv n css.flatten])
    case atStart => exact ⟨0, 0, [], hidden (by omega), rfl, Nat.zero_le _, Nat.zero_le _, hidden rfl, hidden trivial, S.sel (by repeat (first | exact Sel.nil | (apply Sel.cons; (repeat (first | exact Pull.head | apply Pull.tail)))))⟩
    case round =>
      clear S
      obtain ⟨k, n, css, hg, rfl, hkn, hnk, hn, hEc, S⟩ := hrel
      obtain ⟨af, cf, rfl, hcf1, hcf2⟩ := S.rowSliceN (hp := .head)
      by_cases hlt : k < l.length
      · obtain ⟨ad, rfl⟩ := hl.out.some (by decide) (by omega)
        have hop : l[k]? = some l[k] := List.getElem?_eq_getElem hlt
        have hft := fewS_take hop
        obtain ⟨cs, ⟨ka, kn, kc, va, vn, vc, rfl, hks, hkc, hvs, hvc⟩, hl3, hcell⟩ := hl.out.get k _ hop
        generalize l[k] = op at *
        have hcv : SOpV w3 op (sopCells op (.slice ka kn kc) (.slice va vn vc) (.slice none 0 0)) := ⟨ka, kn, kc, va, vn, vc, rfl, hks, hkc, hvs, hvc⟩
        replace hcell := hidden hcell
        replace hcv := hidden hcv
        replace hft := hidden hft
        clear hop hks hvs hl3
        go_upto_region 9 with (first | (refine wpList_ldAc S ?_ (by rfl) hcell.out) | (refine wpList_alloc S ?_; (clear S; intro xb wX hxb S)) | (refine wpList_stA S ?_; (clear S; intro ws S; simp only [splice, List.take_zero, List.take_succ_cons, List.drop_succ_cons, List.drop_zero, List.drop_nil, List.length_cons, List.length_nil, Nat.reduceAdd, Nat.zero_add, List.nil_append, List.cons_append, List.append_nil] at S)))
        go_cut [49] (fun c w' => c = .bool (!looksS op) ∧ St w3 [] w' [.row 66 10 (.slice af n cf) n css.flatten, .blk xb (.cells (sopCells op (.slice ka kn kc) (.slice va vn vc) (.slice none 0 0)).toArray 66 (0, 0))])
        case first =>
          by_cases h3 : op.kind = 3
          · have b3 : (op.kind != 3) = false := by simp [h3]
            replace h3 := hidden h3
            go_wp2_with (first | go_big_skip | (refine wpList_ld S ?_))
            go_meet
            exact ⟨by rw [show looksS op = true from decide_eq_true (.inl h3.out)]; rfl, S.sel (by repeat (first | exact Sel.nil | (apply Sel.cons; (repeat (first | exact Pull.head | apply Pull.tail)))))⟩
          have b3 : (op.kind != 3) = true := by simp [h3]
          by_cases h4 : op.kind = 4
          · have b4 : (op.kind != 4) = false := by simp [h4]
            replace h4 := hidden h4
            replace h3 := hidden h3
            go_wp2_with (first | go_big_skip | (refine wpList_ld S ?_))
            go_meet
            exact ⟨by rw [show looksS op = true from decide_eq_true (.inr (.inl h4.out))]; rfl, S.sel (by repeat (first | exact Sel.nil | (apply Sel.cons; (repeat (first | exact Pull.head | apply Pull.tail)))))⟩
          have b4 : (op.kind != 4) = true := by simp [h4]
          by_cases h6 : op.kind = 6
          · have b6 : (op.kind != 6) = false := by simp [h6]
            replace h6 := hidden h6
            replace h3 := hidden h3
            replace h4 := hidden h4
            go_wp2_with (first | go_big_skip | (refine wpList_ld S ?_))
            go_meet
            exact ⟨by rw [show looksS op = true from decide_eq_true (.inr (.inr (.inl h6.out)))]; rfl, S.sel (by repeat (first | exact Sel.nil | (apply Sel.cons; (repeat (first | exact Pull.head | apply Pull.tail)))))⟩
          have b6 : (op.kind != 6) = true := by simp [h6]
          replace h6 := hidden h6
          replace h3 := hidden h3
          replace h4 := hidden h4
          by_cases h9 : op.kind = 9
          · have b9 : (op.kind != 9) = false := by simp [h9]
            replace h9 := hidden h9
            go_wp2_with ((refine wpList_ld S ?_))
            go_meet
            exact ⟨by rw [show looksS op = true from decide_eq_true (.inr (.inr (.inr h9.out)))]; rfl, S.sel (by repeat (first | exact Sel.nil | (apply Sel.cons; (repeat (first | exact Pull.head | apply Pull.tail)))))⟩
          have b9 : (op.kind != 9) = true := by simp [h9]
          replace h9 := hidden h9
          go_wp2_with ((refine wpList_ld S ?_))
          go_meet
          exact ⟨by rw [show looksS op = false from decide_eq_false (by rintro (h | h | h | h); exact h3.out h; exact h4.out h; exact h6.out h; exact h9.out h)]; rfl, S.sel (by repeat (first | exact Sel.nil | (apply Sel.cons; (repeat (first | exact Pull.head | apply Pull.tail)))))⟩
        case rest =>
        obtain ⟨rfl, S⟩ := hcut
        cases hlo : looksS op with
        | true =>
          replace hlo := hidden hlo
          go_wp2_with (fail)
          go_roundg (gk - 1)
          case measure => have := hg.out; omega
          case rel => exact ⟨k + 1, n, css, hidden (by have := hg.out; omega), by go_num, by omega, by omega, hidden (by rw [hft.out, hlo.out]; simpa using hn.out), hidden (by rw [hft.out, hlo.out]; simpa using hEc.out), S.sel (by repeat (first | exact Sel.nil | (apply Sel.cons; (repeat (first | exact Pull.head | apply Pull.tail)))))⟩
        | false =>
          replace hlo := hidden hlo
          go_wp2_with (first | (refine wpList_appB S ?_; (clear S; intro va2 wa hva S)) | (refine wpList_ldA S ?_) | (refine wpList_bs S ?_; (clear S; intro nb wb hnb S)))
          go_roundg (gk - 1)
          case measure => have := hg.out; omega
          case rel =>
            refine ⟨k + 1, n + 1, css ++ [sopCells op (.slice ka kn kc) (.slice va vn vc) (.slice none 0 0)], hidden (by have := hg.out; omega), by go_num, by omega, by omega, hidden (by rw [hft.out, hlo.out, List.length_append, ← hn.out]; rfl), hidden (by rw [hft.out, hlo.out]; exact hEc.out.append ⟨⟨hcv.out, rfl⟩, trivial⟩), ?_⟩
            rw [List.flatten_append]
            exact (S.selT (by repeat (first | (apply SelT.nil; (repeat (first | exact Suf.refl | apply Suf.cons)); done) | (apply SelT.cons; (repeat (first | exact Pull.head | apply Pull.tail))))))
      · have hkl : k = l.length := by omega
        rw [hkl, List.take_length] at hn hEc
        clear hkl
        have hfew := hidden (show Arr SOpV 10 wr (.slice af n cf) (fewS l) from by
          have h := row_arr (R := SOpV) (size := 10) (w := wr) (v := .slice af n cf) (xs := fewS l) (css := css) (e := 66) (by decide) (by rw [← hn.out]; exact S.mem.2 _ List.mem_cons_self) (hEc.out.mono fun _ _ h => ⟨h.1.on S.chg, h.2⟩) (each_oneS hEc.out fun x cs h => h.one)
          exact h)
        obtain ⟨af2, cf2, hsh, hcf3⟩ := hfew.out.shape
        cases hsh
        have hfl := stotal_few l
        have hfk := hidden (show ∀ op ∈ fewS l, SOk op from fun op ho => hk.out op ((List.mem_filter.1 ho).1))
        have hfn := List.length_filter_le (fun op => !looksS op) l
        have hft := hidden (timed_few l 0 0 (Nat.le_refl _) htim.out)
        change (fewS l).length ≤ l.length at hfn
        clear hEc hn
        go_wp2_with (fail)
        refine Calls.mono (segRun _ l sz e1 e2 _ (hl.out.on S.chg fun _ _ h => h.on S.chg) hk.out (by omega) (by have := htot.out; omega) hsz1 hsz2 (hE3.out.on S.chg) htim.out) ?_
        rintro e w4 ⟨ov, rfl, hout, C4⟩
        go_wp2_with (fail)
        refine Calls.mono (segRun _ (fewS l) sz e1 e2 _ (hfew.out.on C4 fun _ _ h => h.on C4) hfk.out (by omega) (by have := htot.out; omega) hsz1 hsz2 (hE3.out.on (S.chg.trans C4)) hft.out) ?_
        rintro e w5 ⟨rv, rfl, hrest, C5⟩
        have C35 := (S.chg.trans C4).trans C5
        have hl5 := hidden (hl.out.on C35 fun _ _ h => h.on C35)
        have hout5 := hidden (hout.on C5 fun _ _ h => h.on C5)
        replace hrest := hidden hrest
        have C6 := hidden (C1.out.trans C35)
        have hpk := hidden (show ∀ k op an, l[k]? = some op → looksS op = false → ((Sg.fresh sz).run (l.map SOp.f))[k]? = some an → ((Sg.fresh sz).run ((fewS l).map SOp.f))[(fewS (l.take k)).length]? = some an from fun k op an h1 h2 h3 => peeks_at _ l k op an h1 h2 h3)
        have hAl : ((Sg.fresh sz).run (l.map SOp.f)).length = l.length := by rw [Sg.run_length, List.length_map]
        have hBl : ((Sg.fresh sz).run ((fewS l).map SOp.f)).length = (fewS l).length := by rw [Sg.run_length, List.length_map]
        clear S C4 C5 C35 hout hl hfew hfk hft hfl htot htim hE3 hk C1
        generalize (Sg.fresh sz).run (l.map SOp.f) = A at *
        generalize (Sg.fresh sz).run ((fewS l).map SOp.f) = B at *
        obtain ⟨oo, co, rfl, hco⟩ := hout5.out.shape
        obtain ⟨ro, cr, rfl, hcr⟩ := hrest.out.shape
        have b1 : ((A.length : Int) != (l.length : Int)) = false := by rw [hAl]; exact bne_self_eq_false _
        have b2 : ((B.length : Int) != ((fewS l).length : Int)) = false := by rw [hBl]; exact bne_self_eq_false _
        replace hAl := hidden hAl
        replace hBl := hidden hBl
        have S := St.begin w5
        go_wp2_with (fail)
        go_loopg [13, 14, 15, 89] l.length (fun g at' ip xp i wr => ∃ (k : Nat), Hid (k + g = l.length) ∧ i = .int .i64 k ∧ k ≤ l.length ∧ at' = .int .i64 ((fewS (l.take k)).length : Nat) ∧ St w5 [] wr [])
        case atStart => exact ⟨0, hidden (by omega), rfl, Nat.zero_le _, rfl, S.sel (by repeat (first | exact Sel.nil | (apply Sel.cons; (repeat (first | exact Pull.head | apply Pull.tail)))))⟩
        case round =>
          clear S
          obtain ⟨k, hg, rfl, hkn, rfl, S⟩ := hrel
          have hfle := fewS_le l k
          by_cases hlt : k < l.length
          · obtain ⟨ad, rfl⟩ := hl5.out.some (by decide) (by omega)
            have hop : l[k]? = some l[k] := List.getElem?_eq_getElem hlt
            have hft := fewS_take hop
            have hAk : A[k]? = some (A[k]'(by rw [hAl.out]; exact hlt)) := List.getElem?_eq_getElem _
            have hpk1 := hidden (fun h2 => hpk.out k _ _ hop h2 hAk)
            obtain ⟨cs, ⟨ka, kn, kc, va, vn, vc, rfl, hks, hkc, hvs, hvc⟩, hl3, hcell⟩ := hl5.out.get k _ hop
            generalize l[k] = op at *
            replace hcell := hidden hcell
            replace hft := hidden hft
            obtain ⟨nf, hnf⟩ : ∃ nf, (fewS (l.take k)).length = nf := ⟨_, rfl⟩
            rw [hnf] at hfle ⊢
            rw [hnf] at hpk1
            replace hnf := hidden hnf
            clear hop hks hvs hl3
            go_upto_region 20 with (first | (refine wpList_ldAc S ?_ (by rfl) hcell.out) | (refine wpList_alloc S ?_; (clear S; intro xb wX hxb S)) | (refine wpList_stA S ?_; (clear S; intro ws S; simp only [splice, List.take_zero, List.take_succ_cons, List.drop_succ_cons, List.drop_zero, List.drop_nil, List.length_cons, List.length_nil, Nat.reduceAdd, Nat.zero_add, List.nil_append, List.cons_append, List.append_nil] at S)))
            go_cut [111] (fun c w' => c = .bool (looksS op) ∧ St w5 [] w' [.blk xb (.cells (sopCells op (.slice ka kn kc) (.slice va vn vc) (.slice none 0 0)).toArray 66 (0, 0))])
            case first =>
              by_cases h3 : op.kind = 3
              · have b3 : (op.kind == 3) = true := by simp [h3]
                replace h3 := hidden h3
                go_wp2_with (first | go_big_skip | (refine wpList_ld S ?_))
                go_meet
                exact ⟨by rw [show looksS op = true from decide_eq_true (.inl h3.out)], S.sel (by repeat (first | exact Sel.nil | (apply Sel.cons; (repeat (first | exact Pull.head | apply Pull.tail)))))⟩
              have b3 : (op.kind == 3) = false := by simp [h3]
              replace h3 := hidden h3
              by_cases h4 : op.kind = 4
              · have b4 : (op.kind == 4) = true := by simp [h4]
                replace h4 := hidden h4
                go_wp2_with (first | go_big_skip | (refine wpList_ld S ?_))
                go_meet
                exact ⟨by rw [show looksS op = true from decide_eq_true (.inr (.inl h4.out))], S.sel (by repeat (first | exact Sel.nil | (apply Sel.cons; (repeat (first | exact Pull.head | apply Pull.tail)))))⟩
              have b4 : (op.kind == 4) = false := by simp [h4]
              replace h4 := hidden h4
              by_cases h6 : op.kind = 6
              · have b6 : (op.kind == 6) = true := by simp [h6]
                replace h6 := hidden h6
                go_wp2_with (first | go_big_skip | (refine wpList_ld S ?_))
                go_meet
                exact ⟨by rw [show looksS op = true from decide_eq_true (.inr (.inr (.inl h6.out)))], S.sel (by repeat (first | exact Sel.nil | (apply Sel.cons; (repeat (first | exact Pull.head | apply Pull.tail)))))⟩
              have b6 : (op.kind == 6) = false := by simp [h6]
              replace h6 := hidden h6
              by_cases h9 : op.kind = 9
              · have b9 : (op.kind == 9) = true := by simp [h9]
                replace h9 := hidden h9
                go_wp2_with ((refine wpList_ld S ?_))
                go_meet
                exact ⟨by rw [show looksS op = true from decide_eq_true (.inr (.inr (.inr h9.out)))], S.sel (by repeat (first | exact Sel.nil | (apply Sel.cons; (repeat (first | exact Pull.head | apply Pull.tail)))))⟩
              have b9 : (op.kind == 9) = false := by simp [h9]
              replace h9 := hidden h9
              go_wp2_with ((refine wpList_ld S ?_))
              go_meet
              exact ⟨by rw [show looksS op = false from decide_eq_false (by rintro (h | h | h | h); exact h3.out h; exact h4.out h; exact h6.out h; exact h9.out h)], S.sel (by repeat (first | exact Sel.nil | (apply Sel.cons; (repeat (first | exact Pull.head | apply Pull.tail)))))⟩
            case rest =>
            obtain ⟨rfl, S⟩ := hcut
            cases hlo : looksS op with
            | true =>
              replace hlo := hidden hlo
              go_wp2_with (fail)
              go_roundg (gk - 1)
              case measure => have := hg.out; omega
              case rel => exact ⟨k + 1, hidden (by have := hg.out; omega), by go_num, by omega, by rw [hft.out, hlo.out, ← hnf.out]; simp, S.sel (by repeat (first | exact Sel.nil | (apply Sel.cons; (repeat (first | exact Pull.head | apply Pull.tail)))))⟩
            | false =>
              have hBk := hpk1.out hlo
              replace hlo := hidden hlo
              generalize A[k]'_ = an at *
              have hnB : nf < B.length := (List.getElem?_eq_some_iff.1 hBk).1
              obtain ⟨oad, rfl⟩ := hout5.out.some (by decide) (by have := hAl.out; omega)
              obtain ⟨rad, rfl⟩ := hrest.out.some (by decide) (by omega)
              obtain ⟨cs1, hc1, hl1, hcell1⟩ := hout5.out.get k _ hAk
              obtain ⟨cs2, hc2, hl2, hcell2⟩ := hrest.out.get nf _ hBk
              have hklA : k < A.length := by rw [hAl.out]; exact hlt
              replace hcell1 := hidden hcell1
              replace hcell2 := hidden hcell2
              replace hc1 := hidden hc1
              replace hc2 := hidden hc2
              clear hBk hpk1 hAk
              go_upto_region 21 with (fail)
              refine St.regionG S 10 [([0, 1, 2, 3, 4, 5, 6, 7], 8)] [9] ?_
              clear S; intro wr2 S; simp only [walkSt, pick, List.getElem?_cons_succ, List.getElem?_cons_zero, List.drop_succ_cons, List.drop_zero]
              (repeat (first | (go_big_quiet_want; refine quiet_ldAd S ?_ hl1 hcell1.out; go_big_quiet_on) | (go_big_quiet_want; refine quiet_ldAd S ?_ hl2 hcell2.out; go_big_quiet_on) | ((go_big_quiet_step (fail)))))
              refine wpQuiet_nil ?_
              go_wp2_with fail
              refine Calls.mono (riSame an cs1 cs2 _ (hc1.out.on S.chg) (hc2.out.on S.chg)) ?_
              rintro e w6 ⟨rfl, C⟩
              have S2 := S.call C; clear S C; simp only [List.cons_append, List.nil_append] at S2; have S := S2; clear S2
              go_wp2_with fail
              refine ⟨_, S, (by repeat (first | exact Sel.nil | (apply Sel.cons; (repeat (first | exact Pull.head | apply Pull.tail))))), ?_⟩; (repeat ((go_big_quiet_step (fail)))); refine wpQuiet_nil ?_
              go_wp2_with (fail)
              go_roundg (gk - 1)
              case measure => have := hg.out; omega
              case rel => exact ⟨k + 1, hidden (by have := hg.out; omega), by go_num, by omega, by rw [hft.out, hlo.out, List.length_append, hnf.out]; go_num, S.sel (by repeat (first | exact Sel.nil | (apply Sel.cons; (repeat (first | exact Pull.head | apply Pull.tail)))))⟩
          · go_wp2_with (fail)
            ((first | go_ret | go_ret2 | go_ret3 | go_end0 | skip); refine hR.out _ _ ?_)
            exact ⟨rfl, C6.out.trans S.chg⟩
end Go.Proofs.YtbklhnpnkinadaaDoor
end
