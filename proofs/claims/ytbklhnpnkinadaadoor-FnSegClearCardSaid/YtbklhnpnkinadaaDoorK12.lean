/- A later clock of a segment: the walk of the law. -/
import Derived.Test.YtbklhnpnkinadaaDoorK10
section
namespace Go.Proofs.YtbklhnpnkinadaaDoor
open Go Go.RowKit Go.Vil
set_option linter.unusedSimpArgs false
set_option linter.unusedVariables false
set_option maxRecDepth 100000

set_option maxHeartbeats 12800000 in
theorem lawSegClock (size : Int) (v : Value) (by' : Nat) (ops : List SOp) (e1 e2 : Value) (w : World) (h : Arr FInV 10 w v ops) (hE : SErrs w [] e1 e2) (hby : by' < 4294967296) :
    Calls Tryd.prog 7 #[.int .i64 size, v, .int .u32 by'] w fun e w' => e = .returned (.bool true) ∧ Chg [] w w' := by
  have S := St.begin w
  obtain ⟨oi, ci, rfl, hci⟩ := h.shape
  have hhash := hidden (show ∀ op ∈ ops, op.hash < 18446744073709551616 from fun op hop => by
    obtain ⟨_, _, css0, _, _, hEa, _⟩ := h
    obtain ⟨k, hk⟩ := List.mem_iff_getElem?.1 hop
    obtain ⟨cs, _, ⟨_, _, _, _, _, _, _, _, _, _, _, _, _, _, _, hh⟩, _⟩ := hEa.get k op hk
    exact hh)
  replace h := hidden h
  replace hE := hidden hE
  refine Calls.cps ?_; intro R hR
  go_enter Tryd.func7, Tryd.ntmps7
  go_wp2_with (fail)
  refine Calls.mono (fits4 _ ops _ (h.out.on S.chg fun _ _ h => h.on S.chg)) ?_
  rintro e w2 ⟨b, rfl, hb, C⟩
  have S2 := S.call C; clear S C; simp only [List.cons_append, List.nil_append] at S2; have S := S2; clear S2
  cases b with
  | false =>
    go_wp2_with (fail)
    ((first | go_ret | go_ret2 | go_ret3 | go_end0 | skip); refine hR.out _ _ ?_)
    exact ⟨rfl, S.chg⟩
  | true =>
    obtain ⟨hf1, hf2⟩ := hb rfl
    clear hb
    replace hf2 := hidden hf2
    have hs1 : 0 ≤ u64r size % 4096 := Int.emod_nonneg _ (by decide)
    have hs2 : u64r size % 4096 < 4096 := Int.emod_lt_of_pos _ (by decide)
    go_upto_region 4 with (fail)
    rw [wrap_rem64 size 4096 (by decide) (by decide)] at *
    obtain ⟨sz, hsz⟩ : ∃ sz : Nat, 1 + u64r size % 4096 = sz := ⟨(1 + u64r size % 4096).toNat, by omega⟩
    have hwz : wrap64 (1 + u64r size % 4096) = (sz : Int) := by unfold wrap64; omega
    have hsz1 : 1 ≤ sz := by omega
    have hsz2 : sz ≤ 4096 := by omega
    rw [hwz] at *
    clear hwz hs1 hs2 hsz
    obtain ⟨d, hd⟩ : ∃ d : Nat, (by' : Int) % 1000000 = d := ⟨by' % 1000000, by omega⟩
    have hd2 : d < 1000000 := by omega
    rw [hd]
    clear hd hby
    go_wp2_with (fail)
    refine Calls.mono (riSegOps _ ops _ (h.out.on S.chg fun _ _ h => h.on S.chg) hf1 hf2.out) ?_
    rintro e w3 ⟨ov, css, rfl, hcss, C⟩
    replace hcss : SCells w3 _ css := Each.mono (fun _ _ h => ⟨h.1.on C.chg, h.2⟩) hcss
    have C1 := hidden (S.chg.trans C.chg)
    have hl := hidden (row_arr (w := w3) (by decide) (C.mem.2 _ List.mem_cons_self) hcss (each_oneS hcss fun x cs h => h.one))
    have hsrc := hidden (Src.row (C.mem.2 _ List.mem_cons_self) (fun u hu => by
      obtain ⟨cs, hcs, hu⟩ := List.mem_flatten.1 hu
      exact each_oneS hcss (fun x cs h => h.one) cs hcs u hu))
    have hE3 := hidden (hE.out.call (S.call C) (bs' := []))
    have hk := hidden (segOps_ok ops hhash.out)
    have hlen := segOps_le ops
    have hlen1 : 1 ≤ (segOps ops).length := by rw [segOps_length]; omega
    have htot := hidden (segOps_total ops)
    have htim := hidden (segOps_timed ops)
    have hnow := hidden (segOps_now ops)
    have hexp := hidden (segOps_expire ops)
    replace hcss := hidden hcss
    clear S C hE hhash hf2 h
    generalize segOps ops = l at *
    obtain ⟨ol, cl, rfl, hcl⟩ := hl.out.shape
    have S := St.begin w3
    go_upto_region 6 with (first | (refine wpList_bs0N 10 S ?_; (clear S; intro nb wb hnb S)) | (refine wpList_app S (hsrc.out.on S.chg) ?_; (clear S; intro va wa hva S)))
    rw [Nat.zero_add, List.nil_append] at S
    rcases S.ofRow .head with ⟨_, hz, _⟩ | ⟨ba, ca, more, rfl, hca, hcm, hxl, hml, S2⟩
    · omega
    clear S; have S := S2; clear S2
    clear hva
    go_wp2_with (fail)
    go_loopg [9, 33] l.length (fun g ip i wr => ∃ (k : Nat) (css : List (List Value)), Hid (k + g = l.length) ∧ i = .int .i64 k ∧ k ≤ l.length ∧
      Hid (SCells w3 (lateTo (lateO d) k l) css) ∧ St w3 [] wr [.blk ba (.cells (css.flatten ++ more).toArray 66 (0, 0))])
    case atStart => exact ⟨0, css, hidden (by omega), rfl, Nat.zero_le _, hcss, S.sel (by repeat (first | exact Sel.nil | (apply Sel.cons; (repeat (first | exact Pull.head | apply Pull.tail)))))⟩
    case round =>
      clear S
      obtain ⟨k, css, hg, rfl, hkn, hEc, S⟩ := hrel
      by_cases hlt : k < l.length
      · have hop : l[k]? = some l[k] := List.getElem?_eq_getElem hlt
        have hop2 : (lateTo (lateO d) k l)[k]? = some l[k] := by rw [lateTo_get]; exact hop
        have hst := lateTo_set (lateO d) k l _ hop
        obtain ⟨cs, hcs, hcv, hcl10⟩ := hEc.out.get k _ hop2
        have hnw := hnow.out l[k] (List.getElem_mem hlt)
        have hsz10 : ∀ cs ∈ css, cs.length = 10 := hEc.out.sizes
        generalize l[k] = op at *
        have hcnow := hcv.now
        have hfs := hidden (flat_set hsz10 k cs 4 (.int .u32 (op.now + d : Nat)) hcs (by decide))
        have hfl := flat_len hsz10
        have hlk : k < css.length := (List.getElem?_eq_some_iff.1 hcs).1
        have hix : k * 10 + 4 < css.flatten.length := by rw [hfl]; omega
        have hld : (css.flatten ++ more)[k * 10 + 4]? = some (.int .u32 op.now) := by
          rw [List.getElem?_append_left hix, flat_get hsz10 k cs 4 hcs (by decide)]; exact hcnow
        have hix2 : k * 10 + 4 < (css.flatten ++ more).length := by rw [List.length_append]; omega
        have hEc2 := hidden (each_set hEc.out k (lateO d op) (cs.set 4 (.int .u32 (op.now + d : Nat))) ⟨late_cells hcv, by rw [List.length_set]; exact hcl10⟩)
        replace hst := hidden hst
        replace hld := hidden hld
        replace hix2 := hidden hix2
        replace hix := hidden hix
        clear hEc hfl hcs hcv hcnow hsz10 hop hop2 hcl10
        go_wp2_with (first | (refine wpList_ld S ?_ (hi := hld.out)) | (refine wpList_stG S ?_ (hi := hix2.out); (clear S; intro ws S)))
        go_roundg (gk - 1)
        case measure => have := hg.out; omega
        case rel =>
          refine ⟨k + 1, css.set k (cs.set 4 (.int .u32 (op.now + d : Nat))), hidden (by have := hg.out; omega), by go_num, by omega, hidden (by rw [← hst.out]; exact hEc2.out), ?_⟩
          have e1 : (css.flatten ++ more).set (k * 10 + 4) (.int .u32 (op.now + d : Nat)) = (css.set k (cs.set 4 (.int .u32 (op.now + d : Nat)))).flatten ++ more := by rw [List.set_append_left _ _ hix.out, hfs.out]
          rw [← e1]
          exact S.sel (by repeat (first | exact Sel.nil | (apply Sel.cons; (repeat (first | exact Pull.head | apply Pull.tail)))))
      · have hkl : k = l.length := by omega
        rw [hkl, lateTo_all] at hEc
        clear hkl
        have hzl : css.flatten.length = l.length * 10 := by rw [flat_len hEc.out.sizes, ← hEc.out.length, List.length_map]
        have hml2 : (css.flatten ++ more).length = ca * 10 := by
          have := hml
          rw [List.length_append] at this ⊢
          omega
        have S2 := S.toRow 10 (n := l.length) (cap := ca) .head hml2 hca hcm
        rw [List.take_append_of_le_length (by omega), List.take_of_length_le (by omega)] at S2
        have hlt2 := hidden (show Arr SOpV 10 wr (.slice (some ⟨ba, 0, none⟩) l.length ca) (l.map (lateO d)) from by
          have h := row_arr (R := SOpV) (size := 10) (w := wr) (v := .slice (some ⟨ba, 0, none⟩) l.length ca) (xs := l.map (lateO d)) (css := css) (e := 66) (by decide) (by rw [List.length_map]; exact S2.mem.2 _ List.mem_cons_self) (hEc.out.mono fun _ _ h => ⟨h.1.on S.chg, h.2⟩) (each_oneS hEc.out fun x cs h => h.one)
          exact h)
        clear S2 hzl hml2 hEc hxl hml hca hcm hsrc hcss
        have hlk := hidden (show ∀ op ∈ l.map (lateO d), SOk op from fun op ho => by
          obtain ⟨x, hx, rfl⟩ := List.mem_map.1 ho
          have h1 := hk.out x hx
          have h2 := hnow.out x hx
          exact ⟨h1.kind, h1.key, h1.value, h1.expire, by show x.now + d ≤ _; omega, h1.hash⟩)
        have hlt3 := hidden (timed_late d l 0 0 (by omega) htim.out)
        go_wp2_with (fail)
        refine Calls.mono (segRun _ l sz e1 e2 _ (hl.out.on S.chg fun _ _ h => h.on S.chg) hk.out (by omega) (by have := htot.out; omega) hsz1 hsz2 (hE3.out.on S.chg) htim.out) ?_
        rintro e w4 ⟨ov, rfl, hout, C4⟩
        go_wp2_with (fail)
        refine Calls.mono (segRun _ (l.map (lateO d)) sz e1 e2 _ (hlt2.out.on C4 fun _ _ h => h.on C4) hlk.out (by rw [List.length_map]; omega) (by rw [stotal_late]; have := htot.out; omega) hsz1 hsz2 (hE3.out.on (S.chg.trans C4)) hlt3.out) ?_
        rintro e w5 ⟨rv, rfl, hrest, C5⟩
        have C35 := (S.chg.trans C4).trans C5
        have hl5 := hidden (hl.out.on C35 fun _ _ h => h.on C35)
        have hout5 := hidden (hout.on C5 fun _ _ h => h.on C5)
        replace hrest := hidden hrest
        have C6 := hidden (C1.out.trans C35)
        have hpk := hidden (show ∀ k op an, l[k]? = some op → ((Sg.fresh sz).run (l.map SOp.f))[k]? = some an → ((Sg.fresh sz).run ((l.map (lateO d)).map SOp.f))[k]? = some (an.late d op.kind) from fun k op an h1 h3 => late_get sz d l k op an h1 h3)
        have hsm := hidden (show ∀ an ∈ (Sg.fresh sz).run (l.map SOp.f), an.number ≤ 5000 ∧ Told 5000 81 an.numbers from fun an ha => by
          have h1 := few_run (M := 5000) (l.map SOp.f) 0 (Sg.fresh sz) ⟨fun e he => (by simp [Sg.fresh] at he), fun e he => (by simp [Sg.fresh] at he), Nat.zero_le _, Nat.zero_le _⟩ (fun o ho => by
            obtain ⟨x, hx, rfl⟩ := List.mem_map.1 ho
            have h2 := hnow.out x hx
            have h3 := ends_le (now := x.now) (hexp.out x hx)
            exact ⟨by show x.now ≤ _; omega, by show Sg.ends x.now x.expire ≤ _; omega⟩) an ha
          refine ⟨h1.1, ?_⟩
          rcases h1.2 with h | ⟨n0, n1, n2, n3, n4, n5, n6, n7, n8, n9, e, h3, h4, h5, h6, h7, h8⟩
          · exact .inl h
          · rw [List.length_map] at h4 h6 h8
            have : 5000 * (0 + l.length) ≤ 5000 * 81 := Nat.mul_le_mul_left _ (by omega)
            exact .inr ⟨n0, n1, n2, n3, n4, n5, n6, n7, n8, n9, e, h3, by omega, h5, by omega, h7, by omega⟩)
        have hAl : ((Sg.fresh sz).run (l.map SOp.f)).length = l.length := by rw [Sg.run_length, List.length_map]
        have hBl : ((Sg.fresh sz).run ((l.map (lateO d)).map SOp.f)).length = l.length := by rw [Sg.run_length, List.length_map, List.length_map]
        clear S C4 C5 C35 hout hl hlt2 hlk hlt3 htot htim hE3 hk C1 hnow hexp
        generalize (Sg.fresh sz).run (l.map SOp.f) = A at *
        generalize (Sg.fresh sz).run ((l.map (lateO d)).map SOp.f) = B at *
        obtain ⟨oo, co, rfl, hco⟩ := hout5.out.shape
        obtain ⟨ro, cr, rfl, hcr⟩ := hrest.out.shape
        have b1 : ((A.length : Int) != (l.length : Int)) = false := by rw [hAl]; exact bne_self_eq_false _
        have b2 : ((B.length : Int) != (l.length : Int)) = false := by rw [hBl]; exact bne_self_eq_false _
        replace hAl := hidden hAl
        replace hBl := hidden hBl
        have S := St.begin w5
        go_wp2_with (fail)
        go_loopg [14, 15, 80] l.length (fun g ip xp i wr => ∃ (k : Nat), Hid (k + g = l.length) ∧ i = .int .i64 k ∧ k ≤ l.length ∧ St w5 [] wr [])
        case atStart => exact ⟨0, hidden (by omega), rfl, Nat.zero_le _, S.sel (by repeat (first | exact Sel.nil | (apply Sel.cons; (repeat (first | exact Pull.head | apply Pull.tail)))))⟩
        case round =>
          clear S
          obtain ⟨k, hg, rfl, hkn, S⟩ := hrel
          by_cases hlt : k < A.length
          · have hlt1 : k < l.length := by rw [← hAl.out]; exact hlt
            obtain ⟨ad, rfl⟩ := hl5.out.some (by decide) (by omega)
            obtain ⟨oad, rfl⟩ := hout5.out.some (by decide) (by omega)
            have hop : l[k]? = some l[k] := List.getElem?_eq_getElem hlt1
            have hAk : A[k]? = some A[k] := List.getElem?_eq_getElem hlt
            have hBk := hpk.out k _ _ hop hAk
            obtain ⟨hsm1, hsm2⟩ := hsm.out A[k] (List.getElem_mem hlt)
            obtain ⟨cs, ⟨ka, kn, kc, va, vn, vc, rfl, hks, hkc, hvs, hvc⟩, hl3, hcell⟩ := hl5.out.get k _ hop
            obtain ⟨cs1, hc1, hl1, hcell1⟩ := hout5.out.get k _ hAk
            generalize l[k] = op at *
            generalize A[k] = an at *
            have hnB : k < B.length := (List.getElem?_eq_some_iff.1 hBk).1
            obtain ⟨rad, rfl⟩ := hrest.out.some (by decide) (by omega)
            obtain ⟨cs2, hc2, hl2, hcell2⟩ := hrest.out.get k _ hBk
            have g0 := hcell 0 _ rfl
            rw [Addr.add_zero'] at g0
            obtain ⟨xa, xc, xna, xnc, rfl, hxs, hxc, hxm, hxn, hxnc, hxnm⟩ := hc1
            replace hcell1 := hidden hcell1
            replace hcell2 := hidden hcell2
            replace hc2 := hidden hc2
            replace hxs := hidden hxs
            replace hxn := hidden hxn
            clear hBk hAk hop hks hvs hl3 hcell
            obtain ⟨fl, vl, nu, isb, ns⟩ := an
            simp only at *
            have hlate : ∃ (nn : Nat) (n2 : List Int), FAns.late d op.kind ⟨fl, vl, nu, isb, ns⟩ = ⟨fl, vl, nn, isb, n2⟩ ∧ nn = (if (op.kind = 2 ∨ op.kind = 4) ∧ 0 < nu then nu + d else nu) ∧ n2 = (if ns.length = 10 then ns.set 4 (ns.getD 4 0 + d * ns.getD 3 0) else ns) := ⟨_, _, rfl, rfl, rfl⟩
            obtain ⟨nn, n2, hla, hnn, hn2⟩ := hlate
            rw [hla] at hc2
            clear hla
            replace hn2 := hidden hn2
            replace hsm2 := hidden hsm2
            go_upto_region 18 with (first | (refine wpList_ldAc S ?_ (by rfl) hcell1.out) | (refine wpList_alloc S ?_; (clear S; intro xb wX hxb S)) | (refine wpList_stA S ?_; (clear S; intro ws S; simp only [splice, List.take_zero, List.take_succ_cons, List.drop_succ_cons, List.drop_zero, List.drop_nil, List.length_cons, List.length_nil, Nat.reduceAdd, Nat.zero_add, List.nil_append, List.cons_append, List.append_nil] at S)))
            go_cut [103] (fun c w' => c = .bool (decide ((op.kind = 2 ∨ op.kind = 4) ∧ 0 < nu)) ∧ St w5 [] w' [.blk xb (.cells #[.int .i64 fl, .slice xa vl.length xc, .int .u32 nu, .bool isb, .bool false, .slice xna ns.length xnc, .slice none 0 0] 73 (0, 0))])
            case first =>
              by_cases c0 : 0 < nu
              · have b0 : decide ((nu : Int) > 0) = true := decide_eq_true (by omega)
                by_cases c2 : op.kind = 2
                · have b2 : (op.kind == 2) = true := by simp [c2]
                  replace c2 := hidden c2
                  replace c0 := hidden c0
                  go_wp2_with (first | (refine wpList_ld S ?_) | (refine wpList_ldc S ?_))
                  go_meet
                  exact ⟨by rw [decide_eq_true (show (op.kind = 2 ∨ op.kind = 4) ∧ 0 < nu from ⟨.inl c2.out, c0.out⟩)], S.sel (by repeat (first | exact Sel.nil | (apply Sel.cons; (repeat (first | exact Pull.head | apply Pull.tail)))))⟩
                have b2 : (op.kind == 2) = false := by simp [c2]
                replace c2 := hidden c2
                by_cases c4 : op.kind = 4
                · have b4 : (op.kind == 4) = true := by simp [c4]
                  replace c4 := hidden c4
                  replace c0 := hidden c0
                  go_wp2_with (first | (refine wpList_ld S ?_) | (refine wpList_ldc S ?_))
                  go_meet
                  exact ⟨by rw [decide_eq_true (show (op.kind = 2 ∨ op.kind = 4) ∧ 0 < nu from ⟨.inr c4.out, c0.out⟩)], S.sel (by repeat (first | exact Sel.nil | (apply Sel.cons; (repeat (first | exact Pull.head | apply Pull.tail)))))⟩
                have b4 : (op.kind == 4) = false := by simp [c4]
                replace c4 := hidden c4
                replace c0 := hidden c0
                go_wp2_with (first | (refine wpList_ld S ?_) | (refine wpList_ldc S ?_))
                go_meet
                exact ⟨by rw [decide_eq_false (show ¬ ((op.kind = 2 ∨ op.kind = 4) ∧ 0 < nu) from fun h => by rcases h.1 with h | h; exact c2.out h; exact c4.out h)], S.sel (by repeat (first | exact Sel.nil | (apply Sel.cons; (repeat (first | exact Pull.head | apply Pull.tail)))))⟩
              · have b0 : decide ((nu : Int) > 0) = false := decide_eq_false (by omega)
                replace c0 := hidden c0
                go_wp2_with ((refine wpList_ld S ?_))
                go_meet
                exact ⟨by rw [decide_eq_false (show ¬ ((op.kind = 2 ∨ op.kind = 4) ∧ 0 < nu) from fun h => c0.out h.2)], S.sel (by repeat (first | exact Sel.nil | (apply Sel.cons; (repeat (first | exact Pull.head | apply Pull.tail)))))⟩
            case rest =>
            obtain ⟨rfl, S⟩ := hcut
            go_upto_if 103 with fail
            go_cut [] (fun w' => St w5 [] w' [.blk xb (.cells #[.int .i64 fl, .slice xa vl.length xc, .int .u32 nn, .bool isb, .bool false, .slice xna ns.length xnc, .slice none 0 0] 73 (0, 0))])
            case first =>
              by_cases hc : (op.kind = 2 ∨ op.kind = 4) ∧ 0 < nu
              · rw [if_pos hc] at hnn
                rw [decide_eq_true hc]
                subst hnn
                replace hc := hidden hc
                go_wp2_with (first | (refine wpList_ld S ?_) | (refine wpList_st S ?_; (clear S; intro ws S)))
                go_meet
                exact S.sel (by repeat (first | exact Sel.nil | (apply Sel.cons; (repeat (first | exact Pull.head | apply Pull.tail)))))
              · rw [if_neg hc] at hnn
                rw [decide_eq_false hc]
                subst hnn
                replace hc := hidden hc
                go_wp2_with (fail)
                go_meet
                exact S.sel (by repeat (first | exact Sel.nil | (apply Sel.cons; (repeat (first | exact Pull.head | apply Pull.tail)))))
            case rest =>
            have S := hcut
            clear hcut
            replace hnn := hidden hnn
            rcases hsm2.out with hns | ⟨n0, n1, n2', n3, n4, n5, n6, n7, n8, n9, hns, h3, h4, h5, h6, _⟩
            · subst hns
              clear hsm2
              simp only [List.length_cons, List.length_nil, List.map_cons, List.map_nil, Nat.reduceAdd, Nat.zero_add] at hxn hcell1 hxnc hxnm hl1 S ⊢
              go_upto_region 21 with (first | (refine wpList_bs0N 1 S ?_; (clear S; intro nb wb hnb S)) | (refine wpList_app S (hxn.out.on S.chg) ?_; (clear S; intro va2 wa hva S; obtain ⟨na2, nc2, rfl, hnc2, hnc3⟩ := S.rowSlice (hp := Pull.head))) | (refine wpList_ld S ?_) | (refine wpList_st S ?_; (clear S; intro ws S)))
              go_wp2_with ((refine wpList_ld S ?_))
              go_upto_region 23 with (fail)
              refine St.regionG S 7 [([0, 1, 2, 3, 4], 5)] [6] ?_
              clear S; intro wr2 S; simp only [walkSt, pick, List.getElem?_cons_succ, List.getElem?_cons_zero, List.drop_succ_cons, List.drop_zero]
              (repeat (first | (go_big_quiet_want; refine quiet_ldAd S ?_ hl2 hcell2.out; go_big_quiet_on) | (first | (go_big_quiet_step (fail)) | (go_big_quiet_want; (refine quiet_ldA S ?_); go_big_quiet_on))))
              refine wpQuiet_nil ?_
              go_wp2_with fail
              have hn3 : n2 = [] := hn2.out
              subst hn3
              have hrow : Src wr2 1 (.slice na2 0 nc2) 0 (([] : List Int).map fun n => Value.int .i64 n) := Src.row (S.mem.2 _ List.mem_cons_self) (by simp)
              refine Calls.mono (riSame ⟨fl, vl, nn, isb, []⟩ _ cs2 _ ⟨xa, xc, na2, nc2, rfl, hxs.out.on S.chg, hxc, hxm, hrow, Nat.zero_le _, Nat.zero_le _⟩ (hc2.out.on S.chg)) ?_
              rintro e w6 ⟨rfl, C⟩
              have S2 := S.call C; clear S C; simp only [List.cons_append, List.nil_append] at S2; have S := S2; clear S2
              go_wp2_with fail
              refine ⟨_, S, (by repeat (first | exact Sel.nil | (apply Sel.cons; (repeat (first | exact Pull.head | apply Pull.tail))))), ?_⟩; (repeat ((go_big_quiet_step (fail)))); refine wpQuiet_nil ?_
              go_wp2_with (fail)
              go_roundg (gk - 1)
              case measure => have := hg.out; omega
              case rel => exact ⟨k + 1, hidden (by have := hg.out; omega), by go_num, by omega, S.sel (by repeat (first | exact Sel.nil | (apply Sel.cons; (repeat (first | exact Pull.head | apply Pull.tail)))))⟩
            · subst hns
              clear hsm2
              simp only [List.length_cons, List.length_nil, List.map_cons, List.map_nil, Nat.reduceAdd, Nat.zero_add] at hxn hcell1 hxnc hxnm hl1 S ⊢
              go_upto_region 21 with (first | (refine wpList_bs0N 1 S ?_; (clear S; intro nb wb hnb S)) | (refine wpList_app S (hxn.out.on S.chg) ?_; (clear S; intro va2 wa hva S; obtain ⟨na2, nc2, rfl, hnc2, hnc3⟩ := S.rowSlice (hp := Pull.head))) | (refine wpList_ld S ?_) | (refine wpList_st S ?_; (clear S; intro ws S)))
              rw [Nat.zero_add, List.nil_append] at S
              rcases S.ofRow .head with ⟨_, hz, _⟩ | ⟨nb2, nca, more, hsh, hnca, hncm, hnxl, hnml, S2⟩
              · exact absurd hz (by decide)
              cases hsh
              clear S; have S := S2; clear S2
              clear hva hnc2 hnc3
              simp only [List.cons_append, List.nil_append] at S hnml
              go_upto_region 22 with ((refine wpList_ld S ?_))
              refine St.regionG S 13 [] [0, 1, 2, 3, 4, 5, 6, 7, 8, 9, 10, 11, 12] ?_
              clear S; intro wr S; simp only [walkSt, pick, List.getElem?_cons_succ, List.getElem?_cons_zero, List.drop_succ_cons, List.drop_zero]; (repeat (first | (go_big_quiet_step (fail)) | (go_big_quiet_want; (refine quiet_ld S ?_); go_big_quiet_on))); refine wpQuiet_nil ?_
              go_wp2_with ((refine wpList_st S ?_; (clear S; intro ws S)))
              have hm1 : 0 ≤ (d : Int) * n3 := Int.mul_nonneg (by omega) h3
              have hm2 : (d : Int) * n3 ≤ 1000000 * 81 := Int.mul_le_mul (by omega) h4 h3 (by decide)
              have hw : wrap64 (n4 + wrap64 (d * n3)) = n4 + d * n3 := by unfold wrap64; omega
              rw [hw] at S
              refine St.regionG S 7 [([0, 1, 2, 3, 4], 5)] [6] ?_
              clear S; intro wr2 S; simp only [walkSt, pick, List.getElem?_cons_succ, List.getElem?_cons_zero, List.drop_succ_cons, List.drop_zero]
              (repeat (first | (go_big_quiet_want; refine quiet_ldAd S ?_ hl2 hcell2.out; go_big_quiet_on) | (first | (go_big_quiet_step (fail)) | (go_big_quiet_want; (refine quiet_ldA S ?_); go_big_quiet_on))))
              refine wpQuiet_nil ?_
              go_wp2_with fail
              have hn3 : n2 = [n0, n1, n2', n3, n4 + d * n3, n5, n6, n7, n8, n9] := hn2.out
              subst hn3
              have hrow : Src wr2 1 (.slice (some ⟨nb2, 0, none⟩) 10 nc2) 10 ([n0, n1, n2', n3, n4 + d * n3, n5, n6, n7, n8, n9].map fun n => Value.int .i64 n) :=
                S.srcHead (more := more) .head rfl (by intro u hu; obtain ⟨n, _, rfl⟩ := List.mem_map.1 hu; rfl)
              refine Calls.mono (riSame ⟨fl, vl, nn, isb, [n0, n1, n2', n3, n4 + d * n3, n5, n6, n7, n8, n9]⟩ _ cs2 _ ⟨xa, xc, some ⟨nb2, 0, none⟩, nc2, rfl, hxs.out.on S.chg, hxc, hxm, hrow, hnca, by unfold maxLen; show 10 ≤ _; omega⟩ (hc2.out.on S.chg)) ?_
              rintro e w6 ⟨rfl, C⟩
              have S2 := S.call C; clear S C; simp only [List.cons_append, List.nil_append] at S2; have S := S2; clear S2
              go_wp2_with fail
              refine ⟨_, S, (by repeat (first | exact Sel.nil | (apply Sel.cons; (repeat (first | exact Pull.head | apply Pull.tail))))), ?_⟩; (repeat ((go_big_quiet_step (fail)))); refine wpQuiet_nil ?_
              go_wp2_with (fail)
              go_roundg (gk - 1)
              case measure => have := hg.out; omega
              case rel => exact ⟨k + 1, hidden (by have := hg.out; omega), by go_num, by omega, S.sel (by repeat (first | exact Sel.nil | (apply Sel.cons; (repeat (first | exact Pull.head | apply Pull.tail)))))⟩
          · have hkl : k = A.length := by have := hAl.out; omega
            replace hkl := hidden hkl
            go_wp2_with (fail)
            ((first | go_ret | go_ret2 | go_ret3 | go_end0 | skip); refine hR.out _ _ ?_)
            exact ⟨rfl, C6.out.trans S.chg⟩
end Go.Proofs.YtbklhnpnkinadaaDoor
end
