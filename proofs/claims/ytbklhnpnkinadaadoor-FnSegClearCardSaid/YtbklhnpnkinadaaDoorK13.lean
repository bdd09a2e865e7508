/- A segment behind a clearing: the walk of the law. -/
import Derived.Test.YtbklhnpnkinadaaDoorK10
section
namespace Go.Proofs.YtbklhnpnkinadaaDoor
open Go Go.RowKit Go.Vil
set_option linter.unusedSimpArgs false
set_option linter.unusedVariables false
set_option maxRecDepth 100000

theorem hashes_in {w : World} {v : Value} {ops : List SOp} (h : Arr FInV 10 w v ops) : ∀ op ∈ ops, op.hash < 18446744073709551616 := by
  intro op hop
  obtain ⟨_, _, css0, _, _, hEa, _⟩ := h
  obtain ⟨k, hk⟩ := List.mem_iff_getElem?.1 hop
  obtain ⟨cs, _, ⟨_, _, _, _, _, _, _, _, _, _, _, _, _, _, _, hh⟩, _⟩ := hEa.get k op hk
  exact hh
theorem flat_one {w : World} {l : List SOp} {css : List (List Value)} (h : SCells w l css) : ∀ u ∈ css.flatten, u.oneCell' = true := by
  intro u hu
  obtain ⟨cs, hcs, hu⟩ := List.mem_flatten.1 hu
  exact each_oneS h (fun x cs h => h.one) cs hcs u hu
theorem clrOp_cells (w : World) (t : Nat) : SOpV w (clrOp t) (sopCells (clrOp t) (.slice none 0 0) (.slice none 0 0) (.slice none 0 0)) := ⟨none, 0, 0, none, 0, 0, rfl, Src.nil w 1 0, Nat.le_refl _, Src.nil w 1 0, Nat.le_refl _⟩
theorem clrOp_ok (t : Nat) (ht : t ≤ 1000000000) : SOk (clrOp t) := ⟨⟨by show (0 : Int) ≤ 11; decide, by show (11 : Int) ≤ 12; decide⟩, Nat.zero_le _, Nat.zero_le _, ⟨by show (-1152921504606846976 : Int) ≤ 0; decide, by show (0 : Int) ≤ 1000000; decide⟩, by show t ≤ _; omega, by show (0 : Nat) < 18446744073709551616; decide⟩

set_option maxHeartbeats 25600000 in
theorem lawSegClear (size : Int) (v v2 : Value) (ops opz : List SOp) (e1 e2 : Value) (w : World) (h : Arr FInV 10 w v ops) (h2 : Arr FInV 10 w v2 opz) (hE : SErrs w [] e1 e2) :
    Calls Tryd.prog 6 #[.int .i64 size, v, v2] w fun e w' => e = .returned (.bool true) ∧ Chg [] w w' := by
  have S := St.begin w
  obtain ⟨oi, ci, rfl, hci⟩ := h.shape
  obtain ⟨oj, cj, rfl, hcj⟩ := h2.shape
  have hhash := hidden (hashes_in h)
  have hhash2 := hidden (hashes_in h2)
  replace h := hidden h
  replace h2 := hidden h2
  replace hE := hidden hE
  refine Calls.cps ?_; intro R hR
  go_enter Tryd.func6, Tryd.ntmps6
  go_wp2_with (fail)
  refine Calls.mono (fits4 _ ops _ (h.out.on S.chg fun _ _ h => h.on S.chg)) ?_
  rintro e w2 ⟨b, rfl, hb, C⟩
  have S2 := S.call C; clear S C; simp only [List.cons_append, List.nil_append] at S2; have S := S2; clear S2
  cases b with
  | false =>
    go_wp2_with (fail)
    ((first | go_ret | go_ret2 | go_ret3 | go_end0 | skip); refine hR.out _ _ ?_)
    exact ⟨rfl, S.chg⟩
  | true =>
    obtain ⟨hf1, hf2⟩ := hb rfl
    clear hb
    replace hf2 := hidden hf2
    go_wp2_with (fail)
    refine Calls.mono (fits4 _ opz _ (h2.out.on S.chg fun _ _ h => h.on S.chg)) ?_
    rintro e w2b ⟨b, rfl, hb, C⟩
    have S2 := S.call C; clear S C; simp only [List.cons_append, List.nil_append] at S2; have S := S2; clear S2
    cases b with
    | false =>
      go_wp2_with (fail)
      ((first | go_ret | go_ret2 | go_ret3 | go_end0 | skip); refine hR.out _ _ ?_)
      exact ⟨rfl, S.chg⟩
    | true =>
    obtain ⟨hf3, hf4⟩ := hb rfl
    clear hb
    replace hf4 := hidden hf4
    have hs1 : 0 ≤ u64r size % 4096 := Int.emod_nonneg _ (by decide)
    have hs2 : u64r size % 4096 < 4096 := Int.emod_lt_of_pos _ (by decide)
    go_upto_region 4 with (fail)
    rw [wrap_rem64 size 4096 (by decide) (by decide)] at *
    obtain ⟨sz, hsz⟩ : ∃ sz : Nat, 1 + u64r size % 4096 = sz := ⟨(1 + u64r size % 4096).toNat, by omega⟩
    have hwz : wrap64 (1 + u64r size % 4096) = (sz : Int) := by unfold wrap64; omega
    have hsz1 : 1 ≤ sz := by omega
    have hsz2 : sz ≤ 4096 := by omega
    rw [hwz] at *
    clear hwz hs1 hs2 hsz
    go_wp2_with (fail)
    refine Calls.mono (riSegOps _ ops _ (h.out.on S.chg fun _ _ h => h.on S.chg) hf1 hf2.out) ?_
    rintro e w3 ⟨ov, css, rfl, hcss, C⟩
    replace hcss : SCells w3 _ css := Each.mono (fun _ _ h => ⟨h.1.on C.chg, h.2⟩) hcss
    have C1 := hidden (S.chg.trans C.chg)
    have hl := hidden (row_arr (w := w3) (by decide) (C.mem.2 _ List.mem_cons_self) hcss (each_oneS hcss fun x cs h => h.one))
    have hsrc := hidden (Src.row (C.mem.2 _ List.mem_cons_self) (flat_one hcss))
    have hE3 := hidden (hE.out.call (S.call C) (bs' := []))
    have hk := hidden (segOps_ok ops hhash.out)
    have hlen := segOps_le ops
    have htot := hidden (segOps_total ops)
    have hnow := hidden (segOps_now ops)
    have hexp := hidden (segOps_expire ops)
    obtain ⟨p, T, hp, hpl, hT, htim⟩ := segOps_lastop ops
    obtain ⟨s9, p9, hp9, hs9, ht9⟩ := segOps_last sz ops
    have hpp : p = p9 := by omega
    subst hpp
    clear hp9
    have hp80 : p ≤ 80 := by omega
    replace hs9 := hidden hs9
    replace ht9 := hidden ht9
    replace htim := hidden htim
    replace hcss := hidden hcss
    clear S C hE hhash hf2 h
    generalize segOps ops = l at *
    obtain ⟨ol, cl, rfl, hcl⟩ := hl.out.shape
    have S := St.begin w3
    go_wp2_with (fail)
    refine Calls.mono (riSegOps _ opz _ (h2.out.on C1.out fun _ _ h => h.on C1.out) hf3 hf4.out) ?_
    rintro e w4 ⟨mv, mss, rfl, hmss, C⟩
    have S2 := S.call C; clear S C; simp only [List.cons_append, List.nil_append] at S2; have S := S2; clear S2
    have hmk := hidden (segOps_ok opz hhash2.out)
    have hmlen := segOps_le opz
    have hmlen1 : 1 ≤ (segOps opz).length := by rw [segOps_length]; omega
    have hmtot := hidden (segOps_total opz)
    have hmtim := hidden (segOps_timed opz)
    have hmnow := hidden (segOps_now opz)
    have hmexp := hidden (segOps_expire opz)
    replace hmss := hidden hmss
    clear hhash2 hf4 h2
    generalize segOps opz = m at *
    rcases S.ofRow .head with ⟨_, hz, _⟩ | ⟨ba, ca, more, rfl, hca, hcm, hxl, hml, S2⟩
    · omega
    clear S; have S := S2; clear S2
    obtain ⟨ad, rfl⟩ := hl.out.some (by decide) (by omega)
    obtain ⟨csl, ⟨lka, lkn, lkc, lva, lvn, lvc, rfl, _⟩, _, hcelll⟩ := hl.out.get p _ hpl
    have g4 := hcelll 4 _ rfl
    clear hcelll
    replace hpl := hidden hpl
    go_upto_region 6 with ((refine wpList_ldc S ?_))
    simp only [show (cntOp T).now = T from rfl] at *
    go_wp2_with (fail)
    go_loopg [10, 45] m.length (fun g ip i wr => ∃ (k : Nat) (css : List (List Value)), Hid (k + g = m.length) ∧ i = .int .i64 k ∧ k ≤ m.length ∧
      Hid (SCells w3 (lateTo (lateO T) k m) css) ∧ St w3 [] wr [.blk ba (.cells (css.flatten ++ more).toArray 66 (0, 0))])
    case atStart => exact ⟨0, mss, hidden (by omega), rfl, Nat.zero_le _, hmss, S.sel (by repeat (first | exact Sel.nil | (apply Sel.cons; (repeat (first | exact Pull.head | apply Pull.tail)))))⟩
    case round =>
      clear S
      obtain ⟨k, mcs, hg, rfl, hkn, hEc, S⟩ := hrel
      by_cases hlt : k < m.length
      · have hop : m[k]? = some m[k] := List.getElem?_eq_getElem hlt
        have hop2 : (lateTo (lateO T) k m)[k]? = some m[k] := by rw [lateTo_get]; exact hop
        have hst := lateTo_set (lateO T) k m _ hop
        obtain ⟨cs, hcs, hcv, hcl10⟩ := hEc.out.get k _ hop2
        have hnw := hmnow.out m[k] (List.getElem_mem hlt)
        have hsz10 : ∀ cs ∈ mcs, cs.length = 10 := hEc.out.sizes
        generalize m[k] = op at *
        have hcnow := hcv.now
        have hfs := hidden (flat_set hsz10 k cs 4 (.int .u32 (op.now + T : Nat)) hcs (by decide))
        have hfl := flat_len hsz10
        have hlk : k < mcs.length := (List.getElem?_eq_some_iff.1 hcs).1
        have hix : k * 10 + 4 < mcs.flatten.length := by rw [hfl]; omega
        have hld : (mcs.flatten ++ more)[k * 10 + 4]? = some (.int .u32 op.now) := by
          rw [List.getElem?_append_left hix, flat_get hsz10 k cs 4 hcs (by decide)]; exact hcnow
        have hix2 : k * 10 + 4 < (mcs.flatten ++ more).length := by rw [List.length_append]; omega
        have hEc2 := hidden (each_set hEc.out k (lateO T op) (cs.set 4 (.int .u32 (op.now + T : Nat))) ⟨late_cells hcv, by rw [List.length_set]; exact hcl10⟩)
        replace hst := hidden hst
        replace hld := hidden hld
        replace hix2 := hidden hix2
        replace hix := hidden hix
        clear hEc hfl hcs hcv hcnow hsz10 hop hop2 hcl10
        go_wp2_with (first | (refine wpList_ld S ?_ (hi := hld.out)) | (refine wpList_stG S ?_ (hi := hix2.out); (clear S; intro ws S)))
        go_roundg (gk - 1)
        case measure => have := hg.out; omega
        case rel =>
          refine ⟨k + 1, mcs.set k (cs.set 4 (.int .u32 (op.now + T : Nat))), hidden (by have := hg.out; omega), by go_num, by omega, hidden (by rw [← hst.out]; exact hEc2.out), ?_⟩
          have e1 : (mcs.flatten ++ more).set (k * 10 + 4) (.int .u32 (op.now + T : Nat)) = (mcs.set k (cs.set 4 (.int .u32 (op.now + T : Nat)))).flatten ++ more := by rw [List.set_append_left _ _ hix.out, hfs.out]
          rw [← e1]
          exact S.sel (by repeat (first | exact Sel.nil | (apply Sel.cons; (repeat (first | exact Pull.head | apply Pull.tail)))))
      · have hkl : k = m.length := by omega
        rw [hkl, lateTo_all] at hEc
        clear hkl
        have hzl : mcs.flatten.length = m.length * 10 := by rw [flat_len hEc.out.sizes, ← hEc.out.length, List.length_map]
        have hml2 : (mcs.flatten ++ more).length = ca * 10 := by
          have := hml
          rw [List.length_append] at this ⊢
          omega
        have S2 := S.toRow 10 (n := m.length) (cap := ca) .head hml2 hca hcm
        rw [List.take_append_of_le_length (by omega), List.take_of_length_le (by omega)] at S2
        clear S; have S := S2; clear S2
        have hmone := hidden (flat_one hEc.out)
        clear hxl hml hca hcm hmss hml2 hzl
        rw [hp] at hsrc
        go_upto_region 12 with (first | (refine wpList_bs0N 10 S ?_; (clear S; intro nb wb hnb S)) | (refine wpList_app S (hsrc.out.on S.chg) ?_; (clear S; intro va wa hva S; clear hva; obtain ⟨vaa, vac, rfl, vah, vam⟩ := S.rowSliceN (hp := .head))) | (refine wpList_app S (Src.row (size := 10) (e := 66) (v := .slice (some ⟨ba, 0, none⟩) m.length ca) (n := m.length) (xs := mcs.flatten) (S.mem.2 (.row 66 10 (.slice (some ⟨ba, 0, none⟩) m.length ca) m.length mcs.flatten) (Pull.mem (by repeat (first | exact Pull.head | apply Pull.tail)))) hmone.out) ?_; (clear S; intro va wa hva S; clear hva; obtain ⟨vbb, vbc, rfl, vbh, vbm⟩ := S.rowSliceN (hp := .head))) | (refine wpList_appB S ?_; (clear S; intro va wa hva S; clear hva; obtain ⟨vca, vcc, rfl, vch, vcm⟩ := S.rowSliceN (hp := .head))) | (refine wpList_bs S ?_; (clear S; intro nb wb hnb S)))
        simp only [Nat.zero_add, List.nil_append] at S vbh vbm
        have hcs5 : SCells wa l css := Each.mono (fun _ _ h => ⟨h.1.on S.chg, h.2⟩) hcss.out
        have hms5 : SCells wa (m.map (lateO T)) mcs := Each.mono (fun _ _ h => ⟨h.1.on S.chg, h.2⟩) hEc.out
        have hE5 : SCells wa (l ++ clrOp T :: m.map (lateO T)) (css ++ (sopCells (clrOp T) (.slice none 0 0) (.slice none 0 0) (.slice none 0 0)) :: mcs) := hcs5.append ⟨⟨clrOp_cells wa T, rfl⟩, hms5⟩
        have hlen5 : (l ++ clrOp T :: m.map (lateO T)).length = p + 1 + 1 + m.length := by rw [List.length_append, List.length_cons, List.length_map, hp]; omega
        have hall := hidden (show Arr SOpV 10 wa (.slice vbb (p + 1 + 1 + m.length) vbc) (l ++ clrOp T :: m.map (lateO T)) from by
          have e : (css ++ (sopCells (clrOp T) (.slice none 0 0) (.slice none 0 0) (.slice none 0 0)) :: mcs).flatten = css.flatten ++ (sopCells (clrOp T) (.slice none 0 0) (.slice none 0 0) (.slice none 0 0)) ++ mcs.flatten := by simp
          exact row_arr (R := SOpV) (size := 10) (w := wa) (e := 66) (by decide) (by rw [hlen5, e]; exact S.mem.2 _ List.mem_cons_self) hE5 (each_oneS hE5 fun x cs h => h.one))
        have hmar := hidden (show Arr SOpV 10 wa (.slice (some ⟨ba, 0, none⟩) m.length ca) (m.map (lateO T)) from
          row_arr (R := SOpV) (size := 10) (w := wa) (e := 66) (by decide) (by rw [List.length_map]; exact S.mem.2 _ (List.mem_cons_of_mem _ (List.mem_cons_of_mem _ List.mem_cons_self))) hms5 (each_oneS hms5 fun x cs h => h.one))
        clear hE5 hcs5 hms5 hEc hcss hmone hsrc vah vam vch vcm vbm
        have hmk2 := hidden (show ∀ op ∈ m.map (lateO T), SOk op from fun op ho => by
          obtain ⟨x, hx, rfl⟩ := List.mem_map.1 ho
          have h1 := hmk.out x hx
          have h2 := hmnow.out x hx
          exact ⟨h1.kind, h1.key, h1.value, h1.expire, by show x.now + T ≤ _; omega, h1.hash⟩)
        have hallk := hidden (show ∀ op ∈ l ++ clrOp T :: m.map (lateO T), SOk op from fun op ho => by
          rcases List.mem_append.1 ho with ho | ho
          · exact hk.out op ho
          · rcases List.mem_cons.1 ho with rfl | ho
            · exact clrOp_ok T (by omega)
            · exact hmk2.out op ho)
        have hallt := hidden (htim.out m hmtim.out)
        have hmt2 := hidden (timed_late T m 0 0 (by omega) hmtim.out)
        have htot2 : stotal (l ++ clrOp T :: m.map (lateO T)) ≤ 96000 := by
          have e : stotal (clrOp T :: m.map (lateO T)) = stotal (m.map (lateO T)) := by
            show 0 + 0 + stotal (m.map (lateO T)) = _
            omega
          rw [stotal_append, e, stotal_late]
          have := htot.out
          have := hmtot.out
          omega
        have hpk := clear_get sz T l (m.map (lateO T))
        have htc : ((Sg.fresh sz).endS (l.map SOp.f)).touched ≤ 81 := by
          have h1 := few_end (M := 10000) (l.map SOp.f) 0 (Sg.fresh sz) ⟨fun e he => (by simp [Sg.fresh] at he), fun e he => (by simp [Sg.fresh] at he), Nat.zero_le _, Nat.zero_le _⟩ (fun o ho => by
            obtain ⟨x, hx, rfl⟩ := List.mem_map.1 ho
            have h2 := hnow.out x hx
            have h3 := ends_le (now := x.now) (hexp.out x hx)
            exact ⟨by show x.now ≤ _; omega, by show Sg.ends x.now x.expire ≤ _; omega⟩)
          have h4 := h1.tou
          rw [List.length_map] at h4
          omega
        have hsm := hidden (show ∀ an ∈ (Sg.fresh sz).run ((m.map (lateO T)).map SOp.f), Told 10000 81 an.numbers from fun an ha => by
          have h1 := few_run (M := 10000) ((m.map (lateO T)).map SOp.f) 0 (Sg.fresh sz) ⟨fun e he => (by simp [Sg.fresh] at he), fun e he => (by simp [Sg.fresh] at he), Nat.zero_le _, Nat.zero_le _⟩ (fun o ho => by
            obtain ⟨y, hy, rfl⟩ := List.mem_map.1 ho
            obtain ⟨x, hx, rfl⟩ := List.mem_map.1 hy
            have h2 := hmnow.out x hx
            have h3 := ends_le (now := x.now + T) (hmexp.out x hx)
            exact ⟨by show x.now + T ≤ _; omega, by show Sg.ends (x.now + T) x.expire ≤ _; omega⟩) an ha
          rcases h1.2 with h | ⟨n0, n1, n2, n3, n4, n5, n6, n7, n8, n9, e, h3, h4, h5, h6, h7, h8⟩
          · exact .inl h
          · rw [List.length_map, List.length_map] at h4 h6 h8
            have : 10000 * (0 + m.length) ≤ 10000 * 81 := Nat.mul_le_mul_left _ (by omega)
            exact .inr ⟨n0, n1, n2, n3, n4, n5, n6, n7, n8, n9, e, h3, by omega, h5, by omega, h7, by omega⟩)
        have hs10 := hs9.out
        have ht10 := ht9.out
        have hBl : ((Sg.fresh sz).run ((m.map (lateO T)).map SOp.f)).length = m.length := by rw [Sg.run_length, List.length_map, List.length_map]
        have hLl : ((Sg.fresh sz).run (l.map SOp.f)).length = p + 1 := by rw [Sg.run_length, List.length_map, hp]
        replace hp := hidden hp
        clear hs9 ht9 htim hmtim htot hmtot hk hmk hnow hmnow hexp hmexp hl
        go_wp2_with (fail)
        refine Calls.mono (segRun _ (l ++ clrOp T :: m.map (lateO T)) sz e1 e2 _ hall.out hallk.out (by omega) (by omega) hsz1 hsz2 (hE3.out.on S.chg) hallt.out) ?_
        rintro e w5 ⟨ov, rfl, hout, C4⟩
        go_wp2_with (fail)
        refine Calls.mono (segRun _ (m.map (lateO T)) sz e1 e2 _ (hmar.out.on C4 fun _ _ h => h.on C4) hmk2.out (by rw [List.length_map]; omega) (by have := stotal_append l (clrOp T :: m.map (lateO T)); have e : stotal (clrOp T :: m.map (lateO T)) = 0 + 0 + stotal (m.map (lateO T)) := rfl; omega) hsz1 hsz2 (hE3.out.on (S.chg.trans C4)) hmt2.out) ?_
        rintro e w6 ⟨rv, rfl, hrest, C5⟩
        have C35 := (S.chg.trans C4).trans C5
        have hout5 := hidden (hout.on C5 fun _ _ h => h.on C5)
        replace hrest := hidden hrest
        have C6 := hidden (C1.out.trans C35)
        obtain ⟨tc, htce⟩ : ∃ tc, ((Sg.fresh sz).endS (l.map SOp.f)).touched = tc := ⟨_, rfl⟩
        rw [htce] at hpk htc ht10
        clear S C4 C5 C35 hout hall hallk hmar hmk2 hallt hmt2 hE3 C1 htce
        generalize (Sg.fresh sz).run (l.map SOp.f) = L9 at *
        generalize (Sg.fresh sz).run ((m.map (lateO T)).map SOp.f) = B at *
        generalize (Sg.fresh sz).run ((l ++ clrOp T :: m.map (lateO T)).map SOp.f) = A at *
        have hAl : A.length = p + 1 + 1 + m.length := by rw [hpk, List.length_append, List.length_cons, List.length_map, hLl, hBl]; omega
        have hAp : A[p]? = some ⟨0, [], 0, false, s9.nums⟩ := by rw [hpk, List.getElem?_append_left (by omega)]; exact hs10
        have hAk := hidden (show ∀ k an, B[k]? = some an → A[p + 1 + 1 + k]? = some (an.moreT tc) from fun k an hb => by
          rw [hpk, List.getElem?_append_right (by omega), hLl, show p + 1 + 1 + k - (p + 1) = k + 1 by omega, List.getElem?_cons_succ, List.getElem?_map, hb]; rfl)
        clear hpk hs10 hLl
        obtain ⟨oo, co, rfl, hco⟩ := hout5.out.shape
        obtain ⟨ro, cr, rfl, hcr⟩ := hrest.out.shape
        have b1 : ((A.length : Int) != ((p : Int) + 1 + 1 + (m.length : Int))) = false := by rw [hAl]; simp
        have b2 : ((B.length : Int) != (m.length : Int)) = false := by rw [hBl]; exact bne_self_eq_false _
        obtain ⟨oad, rfl⟩ := hout5.out.some (by decide) (by omega)
        obtain ⟨csp, ⟨pa, pc, pna, pnc, rfl, _, _, _, hpn, hpnc, _⟩, _, hcellp⟩ := hout5.out.get p _ hAp
        have g5 := hcellp 5 _ rfl
        have hn10 : s9.nums.length = 10 := rfl
        have h8 : (s9.nums.map fun n => Value.int .i64 n)[8]? = some (.int .i64 s9.touched) := rfl
        obtain ⟨nad, rfl⟩ : ∃ ad, pna = some ad := by
          cases pna with
          | none => have h0 := hpn.2.2.2; simp [Sg.nums] at h0
          | some ad => exact ⟨ad, rfl⟩
        have g8 := hpn.2.2.2 _ _ h8
        rw [ht10] at g8
        rw [hn10] at g5
        have hpA : p < A.length := by omega
        replace hAl := hidden hAl
        replace hBl := hidden hBl
        clear hcellp hpn hpnc hn10 h8 hAp ht10 hp
        have S := St.begin w6
        go_upto_region 17 with ((refine wpList_ldc S ?_))
        go_wp2_with (fail)
        go_loopg [17, 18, 121] B.length (fun g ip xp i wr => ∃ (k : Nat), Hid (k + g = B.length) ∧ i = .int .i64 k ∧ k ≤ B.length ∧ St w6 [] wr [])
        case atStart => exact ⟨0, hidden (by omega), rfl, Nat.zero_le _, S.sel (by repeat (first | exact Sel.nil | (apply Sel.cons; (repeat (first | exact Pull.head | apply Pull.tail)))))⟩
        case round =>
          clear S
          obtain ⟨k, hg, rfl, hkn, S⟩ := hrel
          by_cases hlt : k < B.length
          · obtain ⟨rad, rfl⟩ := hrest.out.some (by decide) (by omega)
            have hBk : B[k]? = some B[k] := List.getElem?_eq_getElem hlt
            have hA2 := hAk.out k _ hBk
            have hsm2 := hsm.out B[k] (List.getElem_mem hlt)
            obtain ⟨cs1, hc1, hl1, hcell1⟩ := hrest.out.get k _ hBk
            generalize B[k] = an at *
            have hk81 : k ≤ 81 := by have := hBl.out; omega
            have hkA : p + 1 + 1 + k < A.length := (List.getElem?_eq_some_iff.1 hA2).1
            obtain ⟨cs2, hc2, hl2, hcell2⟩ := hout5.out.get (p + 1 + 1 + k) _ hA2
            obtain ⟨xa, xc, xna, xnc, rfl, hxs, hxc, hxm, hxn, hxnc, hxnm⟩ := hc1
            replace hcell1 := hidden hcell1
            replace hcell2 := hidden hcell2
            replace hc2 := hidden hc2
            replace hxs := hidden hxs
            replace hxn := hidden hxn
            clear hA2 hBk
            obtain ⟨fl, vl, nu, isb, ns⟩ := an
            simp only at *
            have hlate : ∃ (n2 : List Int), FAns.moreT tc ⟨fl, vl, nu, isb, ns⟩ = ⟨fl, vl, nu, isb, n2⟩ ∧ n2 = (if ns.length = 10 then ns.set 8 (ns.getD 8 0 + tc) else ns) := ⟨_, rfl, rfl⟩
            obtain ⟨n2, hla, hn2⟩ := hlate
            rw [hla] at hc2
            clear hla
            replace hn2 := hidden hn2
            rcases hsm2 with hns | ⟨n0, n1, n2', n3, n4, n5, n6, n7, n8, n9, hns, _, _, _, _, h7, h8⟩
            · subst hns
              simp only [List.length_cons, List.length_nil, List.map_cons, List.map_nil, Nat.reduceAdd, Nat.zero_add] at hxn hcell1 hxnc hxnm hl1 S ⊢
              go_upto_region 21 with (first | (refine wpList_ldAc S ?_ (by rfl) hcell1.out) | (refine wpList_alloc S ?_; (clear S; intro xb wX hxb S)) | (refine wpList_bs0N 1 S ?_; (clear S; intro nb wb hnb S)) | (refine wpList_app S (hxn.out.on S.chg) ?_; (clear S; intro va2 wa hva S; obtain ⟨na2, nc2, rfl, hnc2, hnc3⟩ := S.rowSlice (hp := Pull.head))) | (refine wpList_ld S ?_) | (refine wpList_st S ?_; (clear S; intro ws S)) | (refine wpList_stA S ?_; (clear S; intro ws S; simp only [splice, List.take_zero, List.take_succ_cons, List.drop_succ_cons, List.drop_zero, List.drop_nil, List.length_cons, List.length_nil, Nat.reduceAdd, Nat.zero_add, List.nil_append, List.cons_append, List.append_nil] at S)))
              go_upto_region 23 with ((refine wpList_ld S ?_))
              refine St.regionG S 11 [([0, 1, 2, 3, 4, 5, 6, 7, 8], 9)] [10] ?_
              clear S; intro wr2 S; simp only [walkSt, pick, List.getElem?_cons_succ, List.getElem?_cons_zero, List.drop_succ_cons, List.drop_zero]
              (repeat (first | (go_big_quiet_want; refine quiet_ldAd S ?_ hl2 hcell2.out; go_big_quiet_on) | (first | (go_big_quiet_step (fail)) | (go_big_quiet_want; (refine quiet_ldA S ?_); go_big_quiet_on))))
              refine wpQuiet_nil ?_
              go_wp2_with fail
              have hn3 : n2 = [] := hn2.out
              subst hn3
              have hrow : Src wr2 1 (.slice na2 0 nc2) 0 (([] : List Int).map fun n => Value.int .i64 n) := Src.row (S.mem.2 _ List.mem_cons_self) (by simp)
              refine Calls.mono (riSame ⟨fl, vl, nu, isb, []⟩ _ cs2 _ ⟨xa, xc, na2, nc2, rfl, hxs.out.on S.chg, hxc, hxm, hrow, Nat.zero_le _, Nat.zero_le _⟩ (hc2.out.on S.chg)) ?_
              rintro e w7 ⟨rfl, C⟩
              have S2 := S.call C; clear S C; simp only [List.cons_append, List.nil_append] at S2; have S := S2; clear S2
              go_wp2_with fail
              refine ⟨_, S, (by repeat (first | exact Sel.nil | (apply Sel.cons; (repeat (first | exact Pull.head | apply Pull.tail))))), ?_⟩; (repeat ((go_big_quiet_step (fail)))); refine wpQuiet_nil ?_
              go_wp2_with (fail)
              go_roundg (gk - 1)
              case measure => have := hg.out; omega
              case rel => exact ⟨k + 1, hidden (by have := hg.out; omega), by go_num, by omega, S.sel (by repeat (first | exact Sel.nil | (apply Sel.cons; (repeat (first | exact Pull.head | apply Pull.tail)))))⟩
            · subst hns
              simp only [List.length_cons, List.length_nil, List.map_cons, List.map_nil, Nat.reduceAdd, Nat.zero_add] at hxn hcell1 hxnc hxnm hl1 S ⊢
              go_upto_region 21 with (first | (refine wpList_ldAc S ?_ (by rfl) hcell1.out) | (refine wpList_alloc S ?_; (clear S; intro xb wX hxb S)) | (refine wpList_bs0N 1 S ?_; (clear S; intro nb wb hnb S)) | (refine wpList_app S (hxn.out.on S.chg) ?_; (clear S; intro va2 wa hva S; obtain ⟨na2, nc2, rfl, hnc2, hnc3⟩ := S.rowSlice (hp := Pull.head))) | (refine wpList_ld S ?_) | (refine wpList_st S ?_; (clear S; intro ws S)) | (refine wpList_stA S ?_; (clear S; intro ws S; simp only [splice, List.take_zero, List.take_succ_cons, List.drop_succ_cons, List.drop_zero, List.drop_nil, List.length_cons, List.length_nil, Nat.reduceAdd, Nat.zero_add, List.nil_append, List.cons_append, List.append_nil] at S)))
              rw [Nat.zero_add, List.nil_append] at S
              rcases S.ofRow .head with ⟨_, hz, _⟩ | ⟨nb2, nca, more, hsh, hnca, hncm, hnxl, hnml, S2⟩
              · exact absurd hz (by decide)
              cases hsh
              clear S; have S := S2; clear S2
              clear hva hnc2 hnc3
              simp only [List.cons_append, List.nil_append] at S hnml
              go_upto_region 23 with (first | (refine wpList_ld S ?_) | (refine wpList_st S ?_; (clear S; intro ws S)))
              have hw : wrap64 (n8 + (tc : Int)) = n8 + tc := by unfold wrap64; omega
              try rw [hw] at S
              refine St.regionG S 11 [([0, 1, 2, 3, 4, 5, 6, 7, 8], 9)] [10] ?_
              clear S; intro wr2 S; simp only [walkSt, pick, List.getElem?_cons_succ, List.getElem?_cons_zero, List.drop_succ_cons, List.drop_zero]
              (repeat (first | (go_big_quiet_want; refine quiet_ldAd S ?_ hl2 hcell2.out; go_big_quiet_on) | (first | (go_big_quiet_step (fail)) | (go_big_quiet_want; (refine quiet_ldA S ?_); go_big_quiet_on))))
              refine wpQuiet_nil ?_
              go_wp2_with fail
              have hn3 : n2 = [n0, n1, n2', n3, n4, n5, n6, n7, n8 + tc, n9] := hn2.out
              subst hn3
              have hrow : Src wr2 1 (.slice (some ⟨nb2, 0, none⟩) 10 nc2) 10 ([n0, n1, n2', n3, n4, n5, n6, n7, n8 + tc, n9].map fun n => Value.int .i64 n) :=
                S.srcHead (more := more) .head rfl (by intro u hu; obtain ⟨n, _, rfl⟩ := List.mem_map.1 hu; rfl)
              refine Calls.mono (riSame ⟨fl, vl, nu, isb, [n0, n1, n2', n3, n4, n5, n6, n7, n8 + tc, n9]⟩ _ cs2 _ ⟨xa, xc, some ⟨nb2, 0, none⟩, nc2, rfl, hxs.out.on S.chg, hxc, hxm, hrow, hnca, by unfold maxLen; show 10 ≤ _; omega⟩ (hc2.out.on S.chg)) ?_
              rintro e w7 ⟨rfl, C⟩
              have S2 := S.call C; clear S C; simp only [List.cons_append, List.nil_append] at S2; have S := S2; clear S2
              go_wp2_with fail
              refine ⟨_, S, (by repeat (first | exact Sel.nil | (apply Sel.cons; (repeat (first | exact Pull.head | apply Pull.tail))))), ?_⟩; (repeat ((go_big_quiet_step (fail)))); refine wpQuiet_nil ?_
              go_wp2_with (fail)
              go_roundg (gk - 1)
              case measure => have := hg.out; omega
              case rel => exact ⟨k + 1, hidden (by have := hg.out; omega), by go_num, by omega, S.sel (by repeat (first | exact Sel.nil | (apply Sel.cons; (repeat (first | exact Pull.head | apply Pull.tail)))))⟩
          · have hkl : k = B.length := by omega
            replace hkl := hidden hkl
            go_wp2_with (fail)
            ((first | go_ret | go_ret2 | go_ret3 | go_end0 | skip); refine hR.out _ _ ?_)
            exact ⟨rfl, C6.out.trans S.chg⟩
end Go.Proofs.YtbklhnpnkinadaaDoor
end
