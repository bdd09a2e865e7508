/- Room is made in a segment: the oldest entries go, or are kept as the youngest. · The ring buffer of the library: bytes written, bytes skipped. -/
import Derived.Test.YtbklhnpnkinadaaDoorK2
import Derived.Test.YtbklhnpnkinadaaDoorK3
import Derived.Test.YtbklhnpnkinadaaDoorK4
import Derived.Test.YtbklhnpnkinadaaDoorK7
section
namespace Go.Proofs.YtbklhnpnkinadaaDoor
open Go Go.RowKit Go.Vil Go.ChangeShapes Go.WideShapes Go.ChangeAt
set_option linter.unusedSimpArgs false
set_option linter.unusedVariables false
set_option maxRecDepth 100000

/-- A slot has the same hashes in the same places. -/
def SameHash (x x' : Sm) (t : Nat) : Prop := ∀ ps, x.L[t]? = some ps → ∃ ps', x'.L[t]? = some ps' ∧ ps'.map Pt.hash = ps.map Pt.hash
theorem SameHash.refl (x : Sm) (t : Nat) : SameHash x x t := fun ps h => ⟨ps, h, rfl⟩
theorem SameHash.trans {x y z : Sm} {t : Nat} (h : SameHash x y t) (k : SameHash y z t) : SameHash x z t := by
  intro ps hps
  obtain ⟨ps', h1, h2⟩ := h ps hps
  obtain ⟨ps2, h3, h4⟩ := k ps' h1
  exact ⟨ps2, h3, h4.trans h2⟩

theorem SameHash.moved {x x' : Sm} {t s j : Nat} {ps : List Pt} {p p' : Pt} (hps : x.L[s]? = some ps) (hj : ps[j]? = some p) (hh : p'.hash = p.hash) (hL : x'.L = x.L.set s (ps.set j p')) : SameHash x x' t := by
  intro qs hqs
  rw [hL, List.getElem?_set]
  have hsl := (List.getElem?_eq_some_iff.1 hps).1
  have hjl := (List.getElem?_eq_some_iff.1 hj).1
  by_cases e : s = t
  · subst e
    rw [if_pos rfl, if_pos hsl]
    rw [hqs] at hps; cases hps
    refine ⟨_, rfl, ?_⟩
    apply List.ext_getElem?
    intro i
    rw [List.getElem?_map, List.getElem?_map, List.getElem?_set]
    by_cases e2 : j = i
    · subst e2; rw [if_pos rfl, if_pos hjl, hj]; simp [hh]
    · rw [if_neg e2]
  · rw [if_neg e]; exact ⟨qs, hqs, rfl⟩
set_option maxHeartbeats 6400000 in
theorem evacuate (q : Nat) (T : TypeId) (N : Nat) (s : Sg) (x : Sm) (need t now : Nat) (w : World) (H : Held N s x) (hneed : need ≤ s.size) (ht : t < 256) (hnow : now < 4294967296) (hN : N ≤ 1152921504000000000)
    (hM : Mem w (x.mem q T 155)) :
    Calls Tryd.prog 92 #[.pointer (some ⟨q, 0, none⟩), .int .i64 need, .int .u8 t, .int .u32 now] w fun ex w' => ∃ (mod : Bool) (x' : Sm), ex = .returned (.bool mod) ∧ Held (N + 120000000) (Sg.evac need now s 0) x' ∧ Stay x x' ∧ (mod = false → SameHash x x' t) ∧
      St w [q, x.m, x.h.sb] w' (x'.mem q T 155) := by
  have S : St w [q, x.m, x.h.sb] w (x.mem q T 155) := St.start hM
  clear hM
  have hlen := H.length_le
  replace H := hidden H
  refine Calls.cps ?_; intro R hR
  go_enter Tryd.func92, Tryd.ntmps92
  go_upto_region 3 with ((refine wpList_alloc S ?_; (clear S; intro bB wB hbB S)))
  have S2 : St w [q, x.m, x.h.sb] wB (.blk bB (.cells (u8s (List.replicate 24 0)).toArray 149 (0, 0)) :: x.mem q T 155) := S
  clear S; have S := S2; clear S2
  have hrel0 : Hid (Sg.evac need now s 0 = Sg.evac need now s 0) := hidden rfl
  go_loopg [8, 10, 11, 12, 13, 14, 15, 16] (7 * s.list.length + 7) (fun g mo ro v11 v12 v13 v14 v15 v16 wr => ∃ (s' : Sg) (x' : Sm) (row : Nat) (mod : Bool) (l24 : List UInt8) (K : Nat), mo = .bool mod ∧ ro = .int .i64 row ∧ row ≤ 6 ∧ 7 * s'.list.length + 7 - row ≤ g ∧ K + 4096 * g ≤ N + 4096 * (7 * s.list.length + 7) ∧ l24.length = 24 ∧ Hid (Held K s' x') ∧
    Hid (Sg.evac need now s' row = Sg.evac need now s 0) ∧ Hid (Stay x x') ∧ Hid (mod = false → SameHash x x' t) ∧ Hid (s'.size = s.size) ∧ St w [q, x.m, x.h.sb] wr (.blk bB (.cells (u8s l24).toArray 149 (0, 0)) :: x'.mem q T 155))
  case atStart => exact ⟨s, x, 0, false, _, N, rfl, rfl, by omega, by omega, by omega, by simp, H, hrel0, hidden (Stay.refl x), hidden (fun _ => SameHash.refl x t), hidden rfl, S⟩
  case round =>
    clear H hrel0
    obtain ⟨s', x', row, mod, l24, K, rfl, rfl, hrow, hg1, hg2, hl24, H, hev, hst, hmod, hsz, S⟩ := hrel
    have hv := H.out.free_eq
    have hu0 := H.out.used_le
    have hszz := H.out.size
    by_cases hfree : need ≤ s'.free
    · have hbb : ¬ x'.h.vac < (need : Int) := by omega
      go_wp2_with ((refine wpList_ld S ?_))
      ((first | go_ret | go_ret2 | go_ret3 | go_end0 | skip); refine hR.out _ _ ?_)
      refine ⟨mod, x', rfl, ?_, hst.out, hmod.out, S.sel (by repeat (first | exact Sel.nil | (apply Sel.cons; (repeat (first | exact Pull.head | apply Pull.tail)))))⟩
      rw [← hev.out, Sg.evac_full hfree]
      exact H.out.mono (by omega)
    · have hbb : x'.h.vac < (need : Int) := by omega
      cases hl : s'.list with
      | nil =>
        exfalso
        have hsz := hsz.out
        unfold Sg.free at hfree
        rw [hl] at hfree
        have : Sg.used [] = 0 := rfl
        omega
      | cons e l =>
        have g := H.out.geo
        have k := g.ent 0 e (by rw [hl]; rfl)
        obtain ⟨z, hz⟩ : ∃ z, x'.o0 s'.list = z := ⟨_, rfl⟩
        have hz0 : pos (x'.o0 s'.list) s'.list 0 = z := hz
        rw [hz0] at k
        have hlow := k.low
        have hfit := k.fit
        have hel := k.len
        have hend := g.ends
        have hre := g.snug.e
        have hdl := g.size
        have hused := g.used
        have h24 := En.hdr_length e
        have hzI : (x'.r.e : Int) + x'.h.vac - (x'.r.data.length : Int) = (z : Int) := by
          have := H.out.nums.vac
          have : x'.r.e - Sg.used s'.list = z := hz
          omega
        obtain ⟨k0, hk0⟩ : ∃ k0, z = x'.r.b + k0 := ⟨z - x'.r.b, by omega⟩
        have hkb : z - x'.r.b = k0 := by omega
        have hdr := k.hdr
        rw [hkb] at hdr
        replace hdr := hidden hdr
        obtain ⟨hok1, hok2, hok3, hok4, hok5, hok6, hok7, hok8⟩ := k.ok
        have hE := hidden (show En.hdr e = hdrBytes ((e.access : Nat) : Int) (e.expire : Nat) (e.key.length : Nat) (e.hash : Nat) (e.value.length : Nat) (e.room : Nat) e.gone (e.slot : Nat) ((0 : Nat) : Int) from rfl)
        have hW24 : k0 + 24 ≤ x'.W.length := by omega
        have hv0 : 0 ≤ x'.h.vac ∧ x'.h.vac ≤ 4096 := by omega
        have hsnug := hidden g.snug
        replace k := hidden k
        replace hk0 := hidden hk0
        replace hz := hidden hz
        replace hz0 := hidden hz0
        replace hl := hidden hl
        have hWs := g.fits
        have hdB : x'.r.data.length ≤ 4096 := by omega
        have heB : e.len ≤ 4096 := by omega
        have hrB : e.room ≤ 4096 := by omega
        have hyB : e.key.length ≤ 4096 := by omega
        have hkW : k0 + e.len ≤ x'.W.length := by omega
        clear g hWs
        replace hv := hidden hv
        replace hel := hidden hel
        replace hend := hidden hend
        replace hdl := hidden hdl
        replace h24 := hidden h24
        replace hkb := hidden hkb
        replace hlow := hidden hlow
        replace hfit := hidden hfit
        replace hused := hidden hused
        replace hu0 := hidden hu0
        go_upto_region 4 with ((refine wpList_ld S ?_))
        refine St.regionG S 15 [([0, 1, 2, 4, 5, 6, 7, 9, 10, 11], 3), ([8], 12)] [13, 14] ?_
        clear S; intro wr S; simp only [walkSt, pick, List.getElem?_cons_succ, List.getElem?_cons_zero, List.drop_succ_cons, List.drop_zero]; (repeat (first | (go_big_quiet_step (fail)) | (go_big_quiet_want; (refine quiet_ld S ?_); go_big_quiet_on))); refine wpQuiet_nil ?_
        go_wp2_with fail
        refine Calls.mono (ringEnd q x'.m T x'.r.b x'.r.e x'.r.data.length (x'.r.data ++ x'.sl).length x'.r.ix x'.h.post _ S.sel1) ?_
        rintro ex w2 ⟨rfl, C⟩
        have S2 := S.call C; clear S C; simp only [List.cons_append, List.nil_append] at S2; have S := S2; clear S2
        go_wp2_with fail
        refine ⟨_, S, (by repeat (first | exact Sel.nil | (apply Sel.cons; (repeat (first | exact Pull.head | apply Pull.tail))))), ?_⟩; (repeat ((go_big_quiet_step (fail)))); refine wpQuiet_nil ?_
        go_wp2_with fail
        refine Calls.mono (ringSize q x'.m T x'.r.b x'.r.e x'.r.data.length (x'.r.data ++ x'.sl).length x'.r.ix x'.h.post _ S.sel1 (by omega)) ?_
        rintro ex w3 ⟨rfl, C⟩
        have S2 := S.call C; clear S C; simp only [List.cons_append, List.nil_append] at S2; have S := S2; clear S2
        go_wp2_with fail
        refine ⟨_, S, (by repeat (first | exact Sel.nil | (apply Sel.cons; (repeat (first | exact Pull.head | apply Pull.tail))))), ?_⟩; (repeat ((go_big_quiet_step (fail)))); refine wpQuiet_nil ?_
        go_upto_region 5 with (fail)
        replace hzI := hidden hzI
        refine St.regionC S [] 6 [([0, 1, 2, 3, 4], 5)] [] ?_
        clear S; intro wr Cr S Sc; simp only [walkC, pick, List.getElem?_cons_succ, List.getElem?_cons_zero, List.drop_succ_cons, List.drop_zero]; (repeat ((go_big_quiet_step (fail)))); refine wpQuiet_nil ?_
        go_wp2_with fail
        refine Calls.mono (ringRead q x'.m bB T 149 x'.r x'.W x'.sl l24 k0 0 24 24 x'.h.post _ .nilIface _ (by rw [hk0.out]; simp) S.sel3 hsnug.out (by omega) (by omega) (by omega) (by omega) (by omega)) ?_
        rintro ex w4 ⟨rfl, C⟩
        have S2 := S.call C; clear S C; simp only [List.cons_append, List.nil_append] at S2; have S := S2; clear S2
        rw [if_neg (by omega), show min 24 (x'.W.length - k0) = 24 by omega]
        rw [hdr.out, splice_all _ _ (by rw [h24.out, hl24])] at S
        go_wp2_with fail
        refine ⟨(S.sel (by repeat (first | exact Sel.nil | (apply Sel.cons; (repeat (first | exact Pull.head | apply Pull.tail)))))).inSt _, ?_⟩; (repeat (fail)); refine wpQuiet_nil ?_
        go_upto_region 7 with ((refine wpList_box S ?_; (clear S; intro hB wH hhB S)))
        go_wp2_with (fail)
        refine Calls.mono (hdrRead hB bB e.access e.expire e.key.length e.hash e.value.length e.room e.slot 0 e.gone (En.hdr e) _ _ _ _ _ _ _ _ _ 149 152 _ hE.out hok5 hok6 (by omega) hok7 (by omega) (by omega) hok8 (by omega) S.sel2) ?_
        rintro ex w5 ⟨rfl, C⟩
        have S2 := S.call C; clear S C; simp only [List.cons_append, List.nil_append] at S2; have S := S2; clear S2
        go_upto_region 8 with (fail)
        refine St.regionG S 13 [] [0, 1, 2, 3, 4, 5, 6, 7, 8, 9, 10, 11, 12] ?_
        clear S; intro wr2 S; simp only [walkSt, pick, List.getElem?_cons_succ, List.getElem?_cons_zero, List.drop_succ_cons, List.drop_zero]
        (repeat (first | (go_big_quiet_step (fail)) | (go_big_quiet_want; (refine quiet_ld S ?_); go_big_quiet_on)))
        refine wpQuiet_nil ?_
        rw [show (24 : Int) + (e.key.length : Int) + (e.room : Int) = (e.len : Int) by rw [hel.out]; omega]
        go_upto_region 9 with (fail)
        have htt := H.out.times_lt
        have htv := H.out.nums.tt
        have htc := H.out.nums.tc
        have hlen1 := H.out.length_le
        have htev := H.out.nums.tev
        have htex := H.out.nums.tex
        have hec1 := H.out.nums.ec
        have hec2 := H.out.count_le'
        have hlm := H.out.lim
        have hll : s'.list.length = l.length + 1 := by rw [hl.out, List.length_cons]
        have hwt : wrap64 (x'.h.tt + -(e.access : Int)) = x'.h.tt - (e.access : Int) := by unfold wrap64; omega
        have hwc : wrap64 (x'.h.tc + -1) = x'.h.tc - 1 := by unfold wrap64; omega
        have httb : 0 ≤ x'.h.tt ∧ x'.h.tt ≤ 17592186044416 := by omega
        have htcb : 0 ≤ x'.h.tc ∧ x'.h.tc ≤ 4096 := by omega
        replace hwt := hidden hwt
        replace hwc := hidden hwc
        replace htt := hidden htt
        replace htv := hidden htv
        replace htc := hidden htc
        replace hlen1 := hidden hlen1
        replace htev := hidden htev
        replace htex := hidden htex
        replace hec1 := hidden hec1
        replace hec2 := hidden hec2
        replace hlm := hidden hlm
        replace hll := hidden hll
        obtain ⟨gb, hgn⟩ : ∃ gb, e.gone = gb := ⟨_, rfl⟩
        rw [hgn] at S hE
        replace hgn := hidden hgn
        cases gb with
        | true =>
          go_upto_region 11 with ((refine wpList_ld S ?_))
          refine St.regionC S [.blk hB _] 10 [([0, 1, 2, 3, 4, 5, 6, 7, 8], 9)] [] ?_
          clear S; intro wr Cr S Sc; simp only [walkC, pick, List.getElem?_cons_succ, List.getElem?_cons_zero, List.drop_succ_cons, List.drop_zero]; (repeat (first | (go_big_quiet_step (fail)) | (go_big_quiet_want; (refine quiet_ld Sc ?_); go_big_quiet_on))); refine wpQuiet_nil ?_
          refine wpList_atAdd S ?_ Tryd.func89 (by kernel_rfl) (by rfl) (by kernel_rfl) (by kernel_rfl); (clear S; intro ws S)
          refine ⟨(S.sel (by repeat (first | exact Sel.nil | (apply Sel.cons; (repeat (first | exact Pull.head | apply Pull.tail)))))).inSt _, ?_⟩; (repeat (fail)); refine wpQuiet_nil ?_
          rw [hwt.out] at S
          go_wp2_with (fail)
          obtain ⟨wa, hrun, S2⟩ := atAdd S q 9 (-1)
          clear S; have S := S2; clear S2
          rw [hrun]
          rw [hwc.out] at S
          have S2 : St w [q, x.m, x.h.sb] wa [.blk hB _, .blk bB (.cells (u8s (En.hdr e)).toArray 149 (0, 0)), rHead q x'.m T x'.r.b x'.r.e x'.r.data.length (x'.r.data ++ x'.sl).length x'.r.ix ({ x'.h with tt := x'.h.tt - e.access, tc := x'.h.tc - 1 } : Hd).post, rBlk x'.m x'.r.data x'.sl, .blk x'.h.sb (.cells x'.cs.toArray 155 (0, 0))] := S.sel (by repeat (first | exact Sel.nil | (apply Sel.cons; (repeat (first | exact Pull.head | apply Pull.tail)))))
          clear S; have S := S2; clear S2
          go_wp2_with (first | (refine wpList_ld S ?_) | (refine wpList_st S ?_; (clear S; intro ws S)))
          go_roundg (gk - 1)
          case measure => omega
          case rel =>
            have hll := hll.out
            refine ⟨Sg.popS s' l, { x' with h := Held.out x'.h e }, 0, mod, En.hdr e, K, rfl, rfl, by omega, by show 7 * l.length + 7 - 0 ≤ _; omega, by omega, h24.out, hidden (H.out.pop hl.out hgn.out), hidden ?_, hidden (hst.out.trans ⟨rfl, rfl, rfl, rfl⟩), hidden (fun hm => (hmod.out hm).trans (SameHash.refl x' t)), hidden hsz.out, S.sel (by repeat (first | exact Sel.nil | (apply Sel.cons; (repeat (first | exact Pull.head | apply Pull.tail)))))⟩
            rw [← hev.out]
            exact (Sg.evac_gone hfree hl.out hgn.out).symm
        | false =>
          have hmulb : 0 ≤ (e.access : Int) * x'.h.tc ∧ (e.access : Int) * x'.h.tc ≤ 17592186044416 := by
            refine ⟨Int.mul_nonneg (by omega) htcb.1, ?_⟩
            have := Int.mul_le_mul (a := (e.access : Int)) (b := x'.h.tc) (c := 4294967296) (d := 4096) (by omega) (by omega) htcb.1 (by omega)
            omega
          go_upto_region 14 with ((refine wpList_ld S ?_))
          go_wp2_with ((refine wpList_ld S ?_))
          refine Calls.mono (isExpired e.expire now _ hok6 hnow) ?_
          rintro ex w6 ⟨rfl, C⟩
          have S2 := S.same C.chg; clear S C; have S := S2; clear S2
          obtain ⟨xp, hxp⟩ : ∃ xp, Sg.ended e.expire now = xp := ⟨_, rfl⟩
          rw [hxp]
          replace hxp := hidden hxp
          go_upto_region 15 with (fail)
          refine St.regionG S 16 [([0, 1, 2, 3, 4, 5, 6, 7, 10, 11, 12], 8), ([9], 13)] [14, 15] ?_
          clear S; intro wr S; simp only [walkSt, pick, List.getElem?_cons_succ, List.getElem?_cons_zero, List.drop_succ_cons, List.drop_zero]; (repeat (first | (go_big_quiet_step (fail)) | (go_big_quiet_want; (refine quiet_ld S ?_); go_big_quiet_on))); refine wpQuiet_nil ?_
          refine wpList_atLoad S ?_ Tryd.func113 (by kernel_rfl) (by rfl) (by kernel_rfl) (by kernel_rfl)
          refine ⟨_, S, (by repeat (first | exact Sel.nil | (apply Sel.cons; (repeat (first | exact Pull.head | apply Pull.tail))))), ?_⟩; (repeat ((go_big_quiet_step (fail)))); refine wpQuiet_nil ?_
          refine wpList_atLoad S ?_ Tryd.func113 (by kernel_rfl) (by rfl) (by kernel_rfl) (by kernel_rfl)
          refine ⟨_, S, (by repeat (first | exact Sel.nil | (apply Sel.cons; (repeat (first | exact Pull.head | apply Pull.tail))))), ?_⟩; (repeat ((go_big_quiet_step (fail)))); refine wpQuiet_nil ?_
          obtain ⟨lr, hlr⟩ : ∃ lr, decide ((e.access : Int) * x'.h.tc ≤ x'.h.tt) = lr := ⟨_, rfl⟩
          rw [hlr]
          replace hlr := hidden hlr
          have hkp : Hid (Sg.keeps e l now row = !(xp || lr || decide (5 < row))) := by
            refine hidden ?_
            have e1 : (e.access : Int) * x'.h.tc = ((e.access * (l.length + 1) : Nat) : Int) := by rw [htc.out, hll.out]; simp
            have e2 := hlr.out
            rw [e1, htv.out, hl.out] at e2
            have e3 : decide (Sg.times (e :: l) < e.access * (l.length + 1)) = !lr := by
              rw [← e2]
              by_cases c : Sg.times (e :: l) < e.access * (l.length + 1)
              · rw [decide_eq_true c, decide_eq_false (by omega)]; rfl
              · rw [decide_eq_false c, decide_eq_true (by omega)]; rfl
            have e4 : decide (row ≤ 5) = !decide (5 < row) := by
              by_cases c : row ≤ 5
              · rw [decide_eq_true c, decide_eq_false (by omega)]; rfl
              · rw [decide_eq_false c, decide_eq_true (by omega)]; rfl
            unfold Sg.keeps
            rw [hxp.out, e3, e4]
            cases xp <;> cases lr <;> rfl
          clear hmulb
          go_upto_region 16 with fail
          go_cut [114] (fun r w' => r = .bool (xp || lr || decide (5 < row)) ∧ w' = wr)
          case first =>
            by_cases h5 : 5 < row
            · have hbb : decide ((5 : Int) < (row : Int)) = true := decide_eq_true (by omega)
              cases xp <;> cases lr <;> (go_wp2_with fail; go_meet; exact ⟨by simp [h5], rfl⟩)
            · have hbb : decide ((5 : Int) < (row : Int)) = false := decide_eq_false (by omega)
              cases xp <;> cases lr <;> (go_wp2_with fail; go_meet; exact ⟨by simp [h5], rfl⟩)
          case rest =>
            obtain ⟨rfl, rfl⟩ := hcut
            have hi0 : Hid (s'.list[0]? = some e) := hidden (by rw [hl.out]; rfl)
            obtain ⟨cc, hcc⟩ : ∃ cc, (xp || lr || decide (5 < row)) = cc := ⟨_, rfl⟩
            rw [hcc] at hkp ⊢
            replace hcc := hidden hcc
            cases cc with
            | true =>
              go_upto_region 17 with (fail)
              refine St.regionC S [.blk hB _] 11 [([0, 1, 2, 3, 4, 5, 6, 7, 8, 9], 10)] [] ?_
              clear S; intro wr Cr S Sc; simp only [walkC, pick, List.getElem?_cons_succ, List.getElem?_cons_zero, List.drop_succ_cons, List.drop_zero]; (repeat (first | (go_big_quiet_step (fail)) | (go_big_quiet_want; (refine quiet_ld Sc ?_); go_big_quiet_on))); refine wpQuiet_nil ?_
              go_wp2_with fail
              refine Calls.mono (delOff q T 155 s'.size s'.list x' 0 e z _ H.out.geo hi0.out hgn.out hz0.out.symm (by have := hec1.out; have := hec2.out; omega) S.sel3) ?_
              rintro ex w7 ⟨rfl, x1, D, C⟩
              have S2 := S.call C; clear S C
              simp only [Sm.mem, List.cons_append, List.nil_append] at S2
              have S := S2; clear S2
              replace D := hidden D
              go_wp2_with fail
              refine ⟨(S.sel (by repeat (first | exact Sel.nil | (apply Sel.cons; (repeat (first | exact Pull.head | apply Pull.tail)))))).inSt _, ?_⟩; (repeat (fail)); refine wpQuiet_nil ?_
              have H1 := H.out.del hi0.out hgn.out D.out
              have htt1 := H1.times_lt
              have htv1 := H1.nums.tt
              have htc1 := H1.nums.tc
              have hln1 := H1.length_le
              have htev1 := H1.nums.tev
              have htex1 := H1.nums.tex
              have hvac1 := H1.free_eq
              have hlm1 := H1.lim
              have hsz1 := H1.size
              have hat1 : (s'.at' 0 gone').list = gone' e :: l := by show s'.list.modify 0 gone' = _; rw [hl.out]; rfl
              have hacc : e.access ≤ Sg.times (s'.at' 0 gone').list := by rw [hat1, times_cons]; exact Nat.le_add_right _ _
              have hfr : (s'.at' 0 gone').free ≤ s'.size := Nat.sub_le _ _
              have hwt1 : wrap64 (x1.h.tt + -(e.access : Int)) = x1.h.tt - (e.access : Int) := by unfold wrap64; omega
              have hwc1 : wrap64 (x1.h.tc + -1) = x1.h.tc - 1 := by unfold wrap64; omega
              have hwx1 : wrap64 (x1.h.tex + 1) = x1.h.tex + 1 := by unfold wrap64; omega
              have hwe1 : wrap64 (x1.h.tev + 1) = x1.h.tev + 1 := by unfold wrap64; omega
              have hv1 : 0 ≤ x1.h.vac ∧ x1.h.vac ≤ 4096 := by have := hsz1; have : (s'.at' 0 gone').size = s'.size := rfl; omega
              replace H1 := hidden H1
              replace hwt1 := hidden hwt1
              replace hwc1 := hidden hwc1
              replace hwx1 := hidden hwx1
              replace hwe1 := hidden hwe1
              clear htt1 htv1 htc1 hln1 htev1 htex1 hvac1 hlm1 hsz1 hat1 hacc hfr
              go_upto_if 131 with ((refine wpList_ld S ?_))
              go_cut [8] (fun r w' => r = .bool (mod || decide (e.slot = t)) ∧ w' = w7)
              case first =>
                by_cases hst2 : e.slot = t
                · have hbb : ((e.slot : Int) == (t : Int)) = true := by simp; omega
                  go_wp2_with fail
                  go_meet
                  exact ⟨by simp [hst2], rfl⟩
                · have hbb : ((e.slot : Int) == (t : Int)) = false := by simp; omega
                  go_wp2_with fail
                  go_meet
                  exact ⟨by simp [hst2], rfl⟩
              case rest =>
                obtain ⟨rfl, rfl⟩ := hcut
                obtain ⟨m2, hm2⟩ : ∃ m2, (mod || decide (e.slot = t)) = m2 := ⟨_, rfl⟩
                rw [hm2]
                replace hm2 := hidden hm2
                go_upto_region 21 with (fail)
                refine St.regionC S [.blk hB _] 10 [([0, 1, 2, 3, 4, 5, 6, 7, 8], 9)] [] ?_
                clear S; intro wr Cr S Sc; simp only [walkC, pick, List.getElem?_cons_succ, List.getElem?_cons_zero, List.drop_succ_cons, List.drop_zero]; (repeat (first | (go_big_quiet_step (fail)) | (go_big_quiet_want; (refine quiet_ld Sc ?_); go_big_quiet_on))); refine wpQuiet_nil ?_
                refine wpList_atAdd S ?_ Tryd.func89 (by kernel_rfl) (by rfl) (by kernel_rfl) (by kernel_rfl); (clear S; intro ws S)
                refine ⟨(S.sel (by repeat (first | exact Sel.nil | (apply Sel.cons; (repeat (first | exact Pull.head | apply Pull.tail)))))).inSt _, ?_⟩; (repeat (fail)); refine wpQuiet_nil ?_
                rw [hwt1.out] at S
                go_wp2_with (fail)
                obtain ⟨wa, hrun, S2⟩ := atAdd S q 9 (-1)
                clear S; have S := S2; clear S2
                rw [hrun]
                rw [hwc1.out] at S
                have S2 : St w [q, x.m, x.h.sb] wa [.blk bB (.cells (u8s (En.hdr e)).toArray 149 (0, 0)), rHead q x1.m T x1.r.b x1.r.e x1.r.data.length (x1.r.data ++ x1.sl).length x1.r.ix ({ x1.h with tt := x1.h.tt - e.access, tc := x1.h.tc - 1 } : Hd).post, rBlk x1.m x1.r.data x1.sl, .blk x1.h.sb (.cells x1.cs.toArray 155 (0, 0))] := S.sel (by repeat (first | exact Sel.nil | (apply Sel.cons; (repeat (first | exact Pull.head | apply Pull.tail)))))
                clear S; have S := S2; clear S2
                cases xp with
                | true =>
                  go_wp2_with (first | (refine wpList_ld S ?_) | (refine wpList_st S ?_; (clear S; intro ws S)))
                  obtain ⟨wb, hrun, S2⟩ := atAdd S q 13 1
                  clear S; have S := S2; clear S2
                  rw [hrun]
                  rw [hwx1.out] at S
                  go_wp2_with fail
                  go_roundg (gk - 1)
                  case measure => omega
                  case rel =>
                    have hll := hll.out
                    have hD := D.out
                    obtain ⟨dn, hdn⟩ := hD.h
                    refine ⟨Sg.dropS s' e l now, { x1 with h := { Held.out x1.h e with tex := x1.h.tex + 1 } }, 0, m2, En.hdr e, K + 1, rfl, rfl, by omega, by rw [Sg.dropS_list]; omega, by omega, h24.out, hidden ?_, hidden ?_, hidden (hst.out.trans ⟨hD.m, by show x1.h.sb = _; rw [hdn]; rfl, by show x1.h.cap = _; rw [hdn]; rfl, by show x1.h.timer = _; rw [hdn]; rfl⟩), hidden ?_, hidden (by unfold Sg.dropS; split <;> exact hsz.out), S.sel (by repeat (first | exact Sel.nil | (apply Sel.cons; (repeat (first | exact Pull.head | apply Pull.tail)))))⟩
                    · have := H1.out.drop hl.out now
                      rw [if_pos hxp.out] at this
                      exact this
                    · rw [← hev.out]
                      exact (Sg.evac_drop hfree hl.out hgn.out (by rw [hkp.out]; rfl)).symm
                    · intro hm
                      have h2 := hm2.out
                      rw [hm] at h2
                      have h3 : mod = false ∧ ¬ e.slot = t := by simpa using h2
                      refine (hmod.out h3.1).trans fun ps hps => ⟨ps, ?_, rfl⟩
                      show x1.L[t]? = _
                      rw [hD.other t (fun h => h3.2 h.symm)]; exact hps
                | false =>
                  go_wp2_with (first | (refine wpList_ld S ?_) | (refine wpList_st S ?_; (clear S; intro ws S)))
                  obtain ⟨wb, hrun, S2⟩ := atAdd S q 12 1
                  clear S; have S := S2; clear S2
                  rw [hrun]
                  rw [hwe1.out] at S
                  go_wp2_with fail
                  go_roundg (gk - 1)
                  case measure => omega
                  case rel =>
                    have hll := hll.out
                    have hD := D.out
                    obtain ⟨dn, hdn⟩ := hD.h
                    refine ⟨Sg.dropS s' e l now, { x1 with h := { Held.out x1.h e with tev := x1.h.tev + 1 } }, 0, m2, En.hdr e, K + 1, rfl, rfl, by omega, by rw [Sg.dropS_list]; omega, by omega, h24.out, hidden ?_, hidden ?_, hidden (hst.out.trans ⟨hD.m, by show x1.h.sb = _; rw [hdn]; rfl, by show x1.h.cap = _; rw [hdn]; rfl, by show x1.h.timer = _; rw [hdn]; rfl⟩), hidden ?_, hidden (by unfold Sg.dropS; split <;> exact hsz.out), S.sel (by repeat (first | exact Sel.nil | (apply Sel.cons; (repeat (first | exact Pull.head | apply Pull.tail)))))⟩
                    · have := H1.out.drop hl.out now
                      rw [if_neg (by rw [hxp.out]; decide)] at this
                      exact this
                    · rw [← hev.out]
                      exact (Sg.evac_drop hfree hl.out hgn.out (by rw [hkp.out]; rfl)).symm
                    · intro hm
                      have h2 := hm2.out
                      rw [hm] at h2
                      have h3 : mod = false ∧ ¬ e.slot = t := by simpa using h2
                      refine (hmod.out h3.1).trans fun ps hps => ⟨ps, ?_, rfl⟩
                      show x1.L[t]? = _
                      rw [hD.other t (fun h => h3.2 h.symm)]; exact hps
            | false =>
              have hrow5 := Sg.keeps_row (e := e) (l := l) (now := now) (row := row) (by rw [hkp.out]; rfl)
              obtain ⟨ps, hps, hpt⟩ := H.out.geo.ptr_of hi0.out hgn.out
              rw [hz0.out] at hpt
              have hsl := H.out.geo.slots
              have hpc := hsl.fit ps (List.mem_of_getElem? hps)
              have hcap := hsl.cap
              have hcap1 := hsl.pos
              have hone := H.out.geo.one ps (List.mem_of_getElem? hps)
              have hwe : wrap64 (x'.h.tev + 1) = x'.h.tev + 1 := by have := htev.out; have := hlm.out; unfold wrap64; omega
              replace hwe := hidden hwe
              replace hone := hidden hone
              replace hsl := hidden hsl
              replace hps := hidden hps
              replace hpt := hidden hpt
              go_wp2_with (fail)
              refine Calls.mono (ringMove q x'.m T x'.r x'.W x'.sl k0 e.len x'.h.post _ _ (by rw [hk0.out]; simp) S.sel2 hsnug.out hkW) ?_
              rintro ex w7 ⟨rfl, C⟩
              have S2 := S.call C; clear S C; simp only [rMem, List.cons_append, List.nil_append] at S2; have S := S2; clear S2
              obtain ⟨r1, hr1⟩ : ∃ r1, x'.r.puts ((x'.W.drop k0).take e.len) = r1 := ⟨_, rfl⟩
              rw [hr1] at S
              replace hr1 := hidden hr1
              go_upto_region 28 with (fail)
              refine St.regionC S [.blk hB _] 12 [([0, 1, 2, 3, 4, 5, 6, 7, 8, 9, 10], 11)] [] ?_
              clear S; intro wr Cr S Sc; simp only [walkC, pick, List.getElem?_cons_succ, List.getElem?_cons_zero, List.drop_succ_cons, List.drop_zero]; (repeat (first | (go_big_quiet_step (fail)) | (go_big_quiet_want; (refine quiet_ld Sc ?_); go_big_quiet_on))); refine wpQuiet_nil ?_
              go_wp2_with fail
              refine Calls.mono (updatePtr q x'.m T 155 r1.b r1.e r1.data.length (r1.data ++ x'.sl).length r1.ix x'.h e.slot ps.length x'.cs ps e.hash z x'.r.e _ S.sel2 hsl.out.lens_len (hsl.out.lens_at hps.out) hpc hcap hcap1 rfl (hsl.out.at' _ _ hps.out) (hsl.out.rise ps (List.mem_of_getElem? hps.out)) ⟨_, hpt.out, rfl, rfl⟩) ?_
              rintro ex w8 ⟨rfl, r, p, hpr, hph, hpo, C⟩
              have S2 := S.call C; clear S C; simp only [rMem, List.cons_append, List.nil_append] at S2; have S := S2; clear S2
              have hpr2 : ps[r]? = some (En.pt e z) := by
                obtain ⟨r2, hr2⟩ := List.mem_iff_getElem?.1 hpt.out
                have := hone.out r r2 p _ hpr hr2 hpo
                subst this; exact hr2
              clear hpr hph hpo
              replace hpr2 := hidden hpr2
              go_wp2_with fail
              refine ⟨(S.sel (by repeat (first | exact Sel.nil | (apply Sel.cons; (repeat (first | exact Pull.head | apply Pull.tail)))))).inSt _, ?_⟩; (repeat (fail)); refine wpQuiet_nil ?_
              go_wp2_with (fail)
              obtain ⟨wb, hrun, S2⟩ := atAdd S q 12 1
              clear S; have S := S2; clear S2
              rw [hrun]
              rw [hwe.out] at S
              go_wp2_with fail
              go_roundg (gk - 1)
              case measure => omega
              case rel =>
                have hll := hll.out
                have hzz := hz.out
                have hk0' := hk0.out
                rw [← hr1.out] at S
                have hKp := H.out.keep hl.out hgn.out hps.out (j := r) (by rw [hzz]; exact hpr2.out) (by omega) k0 (by rw [hzz]; omega)
                refine ⟨Sg.keepS s' e l, _, row + 1, mod, En.hdr e, K + 4096, rfl, rfl, by omega, by show 7 * (l ++ [e]).length + 7 - (row + 1) ≤ _; simp only [List.length_append, List.length_singleton]; omega, by omega, h24.out, hidden hKp, hidden ?_, hidden (hst.out.trans ⟨rfl, rfl, rfl, rfl⟩), hidden (fun hm => (hmod.out hm).trans (SameHash.moved hps.out hpr2.out (p' := En.pt e x'.r.e) rfl rfl)), hidden hsz.out, S.sel (by repeat (first | exact Sel.nil | (apply Sel.cons; (repeat (first | exact Pull.head | apply Pull.tail)))))⟩
                rw [← hev.out]
                exact (Sg.evac_keep hfree hl.out hgn.out (by rw [hkp.out]; rfl)).symm
end Go.Proofs.YtbklhnpnkinadaaDoor
end
section
namespace Go.Proofs.YtbklhnpnkinadaaDoor
open Go Go.RowKit Go.Vil
set_option linter.unusedSimpArgs false
set_option linter.unusedVariables false
set_option maxRecDepth 100000

set_option maxHeartbeats 1600000 in
theorem ringWrite (q m : Nat) (T : TypeId) (r : Ri) (W sl p : List UInt8) (n c : Nat) (oa : Option Addr) (post : List Value) (w : World)
    (hM : Mem w (rMem q m T r sl post)) (h : Snug r W (r.data ++ sl).length) (hs : Src w 1 (.slice oa n c) n (u8s p)) (hd : Off oa [q, m] (u8s p)) (hc : n ≤ c) (hn : n ≤ r.data.length) :
    Calls Tryd.prog 47 #[.pointer (some ⟨q, 0, none⟩), .slice oa n c] w fun e w' =>
      e = .returned (.tuple #[.int .i64 n, .nilIface]) ∧ St w [q, m] w' (rMem q m T (r.puts p) sl post) := by
  have S : St w [q, m] w [rHead q m T r.b r.e r.data.length (r.data ++ sl).length r.ix post, rBlk m r.data sl] := St.start hM
  clear hM
  obtain ⟨hh, h2, h3, h4⟩ := h
  have hpn := hs.len8
  have h5 := hh.le
  have h7 := hh.fit
  have h8 := hh.ix
  have hsz : r.size = r.data.length := rfl
  have hle : r.len = r.e - r.b := rfl
  have o1 := Ri.puts_b p r (by omega)
  have o2 := Ri.puts_e p r
  have o4 : (r.puts p).data.length = r.data.length := Ri.puts_size p r
  rw [hsz] at o1
  have hres : rMem q m T (r.puts p) sl post = [rHead q m T (max r.b (r.e + n - r.data.length) : Nat) (r.e + n : Nat) r.data.length (r.data ++ sl).length (r.puts p).ix post, rBlk m (r.puts p).data sl] := by
    unfold rMem rHead
    rw [o1, o2, List.length_append, o4, List.length_append, hpn]
  have hsteps := @Ri.puts_step r p
  have hixs : ∀ j, (r.puts (p.take j)).ix < r.data.length := fun j => by
    have := Ri.puts_ix (p.take j) (r := r) h8
    have e := Ri.puts_size (p.take j) r
    omega
  have hdl : ∀ j, (r.puts (p.take j)).data.length = r.data.length := fun j => Ri.puts_size (p.take j) r
  have hlast : p.take n = p := List.take_of_length_le (by omega)
  rw [hsz] at h7 h8 hsteps
  have hb0 : decide (r.data.length < n) = false := decide_eq_false (by omega)
  have hcl : (r.data ++ sl).length = r.data.length + sl.length := List.length_append
  rw [hres]
  generalize hC : (r.data ++ sl).length = C at *
  replace hcl := hidden hcl
  replace hh := hidden hh
  replace hs := hidden hs
  replace hpn := hidden hpn
  replace hsteps := hidden hsteps
  replace hixs := hidden hixs
  replace hdl := hidden hdl
  replace hlast := hidden hlast
  have hlen : r.e - r.b ≤ r.data.length := by omega
  clear hle hsz o1 o2 o4 hres
  refine Calls.cps ?_; intro R hR
  go_enter Tryd.func47, Tryd.ntmps47
  go_wp2_with ((refine wpList_ld S ?_))
  go_loopg [4] n (fun g nv wr => ∃ j : Nat, Hid (j + g = n) ∧ nv = .int .i64 j ∧ j ≤ n ∧ St w [q, m] wr [rHead q m T r.b (r.e + j : Nat) r.data.length C (r.puts (p.take j)).ix post, rBlk m (r.puts (p.take j)).data sl])
  case atStart => exact ⟨0, hidden (by omega), rfl, Nat.zero_le _, S⟩
  case round =>
    obtain ⟨j, hg, rfl, hjn, S⟩ := hrel
    by_cases hlt : j < n
    · obtain ⟨ad, rfl⟩ := hs.out.bare (by omega)
      have hix := hixs.out j
      have hdj := hdl.out j
      have hdn := hdl.out (j + min (n - j) (r.data.length - (r.puts (p.take j)).ix))
      have hst := hsteps.out j (min (n - j) (r.data.length - (r.puts (p.take j)).ix)) (by omega) (by have := hpn.out; omega) (by omega)
      generalize hr1 : r.puts (p.take j) = r1 at *
      obtain ⟨wd, hwd⟩ : ∃ wd, min (n - j) (r.data.length - r1.ix) = wd := ⟨_, rfl⟩
      rw [hwd] at hst hdn
      generalize hr2 : r.puts (p.take (j + wd)) = r2 at *
      replace hst := hidden hst
      replace hr1 := hidden hr1
      replace hr2 := hidden hr2
      replace hdn := hidden hdn
      have hw1 : 1 ≤ wd := by omega
      have hw2 : j + wd ≤ n := by omega
      have hw3 : r1.ix + wd ≤ r.data.length := by omega
      go_upto_region 4 with (fail)
      refine St.regionC S [rHead q m T r.b (r.e + j : Nat) r.data.length C r1.ix post] 14 [([0, 1, 2, 3, 4, 5, 6, 7, 8, 9, 10, 11], 12)] [13] ?_
      clear S; intro wr Cr S Sc; simp only [walkC, pick, List.getElem?_cons_succ, List.getElem?_cons_zero, List.drop_succ_cons, List.drop_zero]
      (repeat (first | (go_big_quiet_want; (first | (refine quiet_slcB r1.ix ?_; rw [cutN_low (by omega), Nat.zero_add]) | (refine quiet_slcT j ?_)); go_big_quiet_on) | (first | (go_big_quiet_step (fail)) | (go_big_quiet_want; (refine quiet_ld Sc ?_); go_big_quiet_on))))
      refine wpQuiet_nil ?_
      have hsrc : Src wr 1 (.slice (some (cutAt ad j c 1)) (n - j) (c - j)) (n - j) (u8s (p.drop j)) := by
        have := (hs.out.over S.chg hd).cut j (n - j) (c - j) (by omega) hc
        rwa [List.take_of_length_le (by rw [List.length_drop]; have := hpn.out; omega)] at this
      refine wpList_copyM S hsrc wd ?_ (hfit := by rw [List.length_append]; omega)
      clear S hsrc; intro ws S
      refine ⟨(S.sel (by repeat (first | exact Sel.nil | (apply Sel.cons; (repeat (first | exact Pull.head | apply Pull.tail)))))).inSt _, ?_⟩; (repeat ((go_big_quiet_step (fail)))); refine wpQuiet_nil ?_
      have hpd : ((p.drop j).take wd).length = wd := by rw [List.length_take, List.length_drop]; have := hpn.out; omega
      rw [splice_app _ _ _ _ (by rw [hpd]; omega), ← hst.out.1] at S
      clear hpd
      replace hwd := hidden hwd
      by_cases c1 : r1.ix + wd = r.data.length
      · have hix2 : r2.ix = 0 := by have := hst.out.2.2; rwa [if_pos c1] at this
        replace c1 := hidden c1
        replace hix2 := hidden hix2
        have c1' : (r.data.length : Int) ≤ r1.ix + wd := by have := c1.out; omega
        go_wp2_with (first | ((with_reducible show Code.wp _ (Code.region _ _ true) _ _ _); refine St.regionLast S ?_; (repeat (first | (go_big_quiet_step (fail)) | (go_big_quiet_want; (refine quiet_ld S ?_); go_big_quiet_on))); refine wpQuiet_nil ?_; clear S; intro wq S) | (refine wpList_ld S ?_) | (refine wpList_st S ?_; (clear S; intro ws S)))
        go_roundg (gk - wd)
        case measure => have := hg.out; omega
        case rel =>
          refine ⟨j + wd, hidden (by have := hg.out; omega), by go_num, hw2, ?_⟩
          rw [hr2.out]; exact S.head rfl (by omega) (by have := hix2.out; have := c1.out; omega)
      · have hix2 : r2.ix = r1.ix + wd := by have := hst.out.2.2; rwa [if_neg c1] at this
        replace hix2 := hidden hix2
        have c1' : ¬ (r.data.length : Int) ≤ r1.ix + wd := by omega
        go_wp2_with (first | ((with_reducible show Code.wp _ (Code.region _ _ true) _ _ _); refine St.regionLast S ?_; (repeat (first | (go_big_quiet_step (fail)) | (go_big_quiet_want; (refine quiet_ld S ?_); go_big_quiet_on))); refine wpQuiet_nil ?_; clear S; intro wq S) | (refine wpList_ld S ?_) | (refine wpList_st S ?_; (clear S; intro ws S)))
        go_roundg (gk - wd)
        case measure => have := hg.out; omega
        case rel =>
          refine ⟨j + wd, hidden (by have := hg.out; omega), by go_num, hw2, ?_⟩
          rw [hr2.out]; exact S.head rfl (by omega) (by have := hix2.out; omega)
    · have hjn2 : j = n := by omega
      replace hjn2 := hidden hjn2
      by_cases c1 : r.data.length < r.e + j - r.b
      · go_wp2_with (first | ((with_reducible show Code.wp _ (Code.region _ _ true) _ _ _); refine St.regionLast S ?_; (repeat (first | (go_big_quiet_step (fail)) | (go_big_quiet_want; (refine quiet_ld S ?_); go_big_quiet_on))); refine wpQuiet_nil ?_; clear S; intro wq S) | (refine wpList_st S ?_; (clear S; intro ws S)))
        ((first | go_ret | go_ret2 | go_ret3 | go_end0 | skip); refine hR.out _ _ ?_)
        have hj2 := hjn2.out; subst hj2; rw [hlast.out] at S; exact ⟨rfl, S.head (by omega) (by omega) rfl⟩
      · go_wp2_with (((with_reducible show Code.wp _ (Code.region _ _ true) _ _ _); refine St.regionLast S ?_; (repeat (first | (go_big_quiet_step (fail)) | (go_big_quiet_want; (refine quiet_ld S ?_); go_big_quiet_on))); refine wpQuiet_nil ?_; clear S; intro wq S))
        ((first | go_ret | go_ret2 | go_ret3 | go_end0 | skip); refine hR.out _ _ ?_)
        have hj2 := hjn2.out; subst hj2; rw [hlast.out] at S; exact ⟨rfl, S.head (by omega) (by omega) rfl⟩

set_option maxHeartbeats 800000 in
theorem ringWrite0 (q m : Nat) (T : TypeId) (b e : Int) (C N : Nat) (ix : Int) (n c : Nat) (oa : Option Addr) (post : List Value) (ev : Value) (w : World)
    (hM : Mem w [rHead q m T b e N C ix post]) (hn : N < n) (hn2 : n ≤ 1073741824) (hE : GErr w [q] 0 ev) :
    Calls Tryd.prog 47 #[.pointer (some ⟨q, 0, none⟩), .slice oa n c] w fun e' w' =>
      e' = .returned (.tuple #[.int .i64 0, ev]) ∧ St w [q] w' [rHead q m T b e N C ix post] := by
  have S : St w [q] w [rHead q m T b e N C ix post] := St.start hM
  clear hM
  replace hE := hidden hE
  refine Calls.cps ?_; intro R hR
  go_enter Tryd.func47, Tryd.ntmps47
  go_wp2_with (first | (refine wpList_ldE S hE.out.1 hE.out.2 ?_) | (refine wpList_ld S ?_))
  ((first | go_ret | go_ret2 | go_ret3 | go_end0 | skip); refine hR.out _ _ ?_)
  exact ⟨rfl, S⟩

set_option maxHeartbeats 800000 in
theorem ringSkip (q m : Nat) (T : TypeId) (r : Ri) (W sl : List UInt8) (n : Nat) (post : List Value) (z : Int) (hz : z = n) (w : World)
    (hM : Mem w (rMem q m T r sl post)) (h : Snug r W (r.data ++ sl).length) (hn : n ≤ 1073741824) :
    Calls Tryd.prog 55 #[.pointer (some ⟨q, 0, none⟩), .int .i64 z] w fun e w' =>
      e = .returned (.tuple #[]) ∧ St w [q, m] w' (rMem q m T (r.skip n) sl post) := by
  subst hz
  have S : St w [q, m] w [rHead q m T r.b r.e r.data.length (r.data ++ sl).length r.ix post, rBlk m r.data sl] := St.start hM
  clear hM
  obtain ⟨hh, h2, h3, h4⟩ := h
  have h5 := hh.le
  have h7 := hh.fit
  have h8 := hh.ix
  have hsz : r.size = r.data.length := rfl
  have hle : r.len = r.e - r.b := rfl
  have hres : rMem q m T (r.skip n) sl post = [rHead q m T (max r.b (r.e + n - r.data.length) : Nat) (r.e + n : Nat) r.data.length (r.data ++ sl).length ((r.ix + n) % r.data.length : Nat) post, rBlk m r.data sl] := rfl
  rw [hsz] at h7 h8
  rw [hres]
  generalize hC : (r.data ++ sl).length = C at *
  have hlen : r.e - r.b ≤ r.data.length := by omega
  clear hle hsz hres
  refine Calls.cps ?_; intro R hR
  go_enter Tryd.func55, Tryd.ntmps55
  go_wp2_with (first | (refine wpList_ld S ?_) | (refine wpList_st S ?_; (clear S; intro ws S)))
  go_loopg [] (r.ix + n) (fun g wr => ∃ i : Nat, i ≤ g ∧ i ≤ r.ix + n ∧ Hid (i % r.data.length = (r.ix + n) % r.data.length) ∧ St w [q, m] wr [rHead q m T r.b (r.e + n : Nat) r.data.length C i post, rBlk m r.data sl])
  case atStart => exact ⟨r.ix + n, Nat.le_refl _, Nat.le_refl _, hidden rfl, S⟩
  case round =>
    obtain ⟨i, hig, hin, hmod, S⟩ := hrel
    by_cases c0 : r.data.length ≤ i
    · go_wp2_with (first | ((with_reducible show Code.wp _ (Code.region _ _ true) _ _ _); refine St.regionLast S ?_; (repeat (first | (go_big_quiet_step (fail)) | (go_big_quiet_want; (refine quiet_ld S ?_); go_big_quiet_on))); refine wpQuiet_nil ?_; clear S; intro wq S) | (refine wpList_st S ?_; (clear S; intro ws S)))
      go_roundg (gk - 1)
      case measure => omega
      case rel =>
        refine ⟨i - r.data.length, by omega, by omega, hidden (by rw [← Nat.mod_eq_sub_mod c0]; exact hmod.out), ?_⟩
        exact S.head rfl rfl (by omega)
    · have hi : i = (r.ix + n) % r.data.length := by rw [← hmod.out, Nat.mod_eq_of_lt (by omega)]
      replace hi := hidden hi
      by_cases c1 : r.data.length < r.e + n - r.b
      · go_wp2_with (first | ((with_reducible show Code.wp _ (Code.region _ _ true) _ _ _); refine St.regionLast S ?_; (repeat (first | (go_big_quiet_step (fail)) | (go_big_quiet_want; (refine quiet_ld S ?_); go_big_quiet_on))); refine wpQuiet_nil ?_; clear S; intro wq S) | (refine wpList_st S ?_; (clear S; intro ws S)))
        ((first | go_ret | go_ret2 | go_ret3 | go_end0 | skip); refine hR.out _ _ ?_)
        exact ⟨rfl, S.head (by omega) rfl (by have := hi.out; omega)⟩
      · go_wp2_with (((with_reducible show Code.wp _ (Code.region _ _ true) _ _ _); refine St.regionLast S ?_; (repeat (first | (go_big_quiet_step (fail)) | (go_big_quiet_want; (refine quiet_ld S ?_); go_big_quiet_on))); refine wpQuiet_nil ?_; clear S; intro wq S))
        ((first | go_ret | go_ret2 | go_ret3 | go_end0 | skip); refine hR.out _ _ ?_)
        exact ⟨rfl, S.head (by omega) rfl (by have := hi.out; omega)⟩
end Go.Proofs.YtbklhnpnkinadaaDoor
end
