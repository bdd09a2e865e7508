/- A segment's key is given a value. -/
import Derived.Test.YtbklhnpnkinadaaDoorK3
import Derived.Test.YtbklhnpnkinadaaDoorK6
import Derived.Test.YtbklhnpnkinadaaDoorK8
section
namespace Go.Proofs.YtbklhnpnkinadaaDoor
open Go Go.RowKit Go.Vil Go.ChangeShapes Go.WideShapes Go.ChangeAt
set_option linter.unusedSimpArgs false
set_option linter.unusedVariables false
set_option maxRecDepth 100000

def rewritten (now ends : Nat) (value : List UInt8) (e : En) : En := { e with access := now, expire := ends, value := value }

set_option maxHeartbeats 12800000 in
theorem segSet (q ck now : Nat) (T : TypeId) (N : Nat) (s : Sg) (x : Sm) (hash : Nat) (key value : List UInt8) (kn kc vn vc : Nat) (ka va : Option Addr) (sec : Int) (ev : Value) (w : World) (H : Held N s x) (hM : Mem w (clk ck now :: x.mem q T 155)) (hh : hash < 18446744073709551616)
    (hk : Src w 1 (.slice ka kn kc) kn (u8s key)) (hd : Off ka [ck, q, x.m, x.h.sb] (u8s key)) (hkc : kn ≤ kc) (hkm : kn ≤ 65535) (hv : Src w 1 (.slice va vn vc) vn (u8s value)) (hvd : Off va [ck, q, x.m, x.h.sb] (u8s value)) (hvc : vn ≤ vc) (hvm : vn ≤ 65535)
    (hnow : now ≤ 2147483648) (hsec : -1152921504606846976 ≤ sec ∧ sec ≤ 1000000) (htm : x.h.timer = .iface 97 (.pointer (some ⟨ck, 0, none⟩))) (hpast : ∀ e ∈ s.list, e.access ≤ now) (hN : N ≤ 1152921504000000000 - 134217728) (hE : GErr w [ck, q, x.m, x.h.sb] 3 ev) :
    Calls Tryd.prog 77 #[.pointer (some ⟨q, 0, none⟩), .slice ka kn kc, .slice va vn vc, .int .u64 hash, .int .i64 sec] w fun ex w' => ∃ (x' : Sm), ex = .returned (if (s.set key value hash sec now).2 then .nilIface else ev) ∧ Held (N + 134217728) (s.set key value hash sec now).1 x' ∧ x'.m = x.m ∧ x'.h.timer = x.h.timer ∧
      St w [ck, q, x.m, x.h.sb] w' (clk ck now :: x'.mem q T 155) := by
  have S : St w [ck, q, x.m, x.h.sb] w (clk ck now :: x.mem q T 155) := St.start hM
  clear hM
  obtain ⟨t, htt⟩ : ∃ t, hash / 256 % 256 = t := ⟨_, rfl⟩
  obtain ⟨h, hth⟩ : ∃ h, hash / 65536 % 65536 = h := ⟨_, rfl⟩
  have htl : t < 256 := by omega
  have hhl : h < 65536 := by omega
  obtain ⟨ps, hps⟩ := H.geo.slots.has htl
  have hpc := H.geo.slots.fit ps (List.mem_of_getElem? hps)
  have hcap := H.geo.slots.cap
  have hkl := hk.len8
  have hvl := hv.len8
  have hsz := H.geo.size
  have hszB := H.size
  have hdB : x.r.data.length ≤ 4096 := by omega
  replace hps := hidden hps
  replace H := hidden H
  have htI : (hash : Int) / 256 % 256 = (t : Int) := by omega
  have hhI : IntKind.u16.wrap ((hash : Int) / 65536) = (h : Int) := by rw [IntKind.wrap_u16]; omega
  replace hk := hidden hk
  replace hv := hidden hv
  replace hE := hidden hE
  replace hpast := hidden hpast
  replace htt := hidden htt
  replace hth := hidden hth
  replace hkl := hidden hkl
  replace hvl := hidden hvl
  replace hsz := hidden hsz
  have hmeth := methodNow (.pointer (some ⟨ck, 0, none⟩))
  refine Calls.cps ?_; intro R hR
  go_enter Tryd.func77, Tryd.ntmps77
  by_cases hbig : s.size / 4 < 24 + kn + vn
  · have hbb : decide ((x.r.data.length : Int) / 4 - 24 < (kn : Int) + (vn : Int)) = true := decide_eq_true (by have := hsz.out; omega)
    have hbig := hidden hbig
    go_wp2_with (first | (refine wpList_ldE S hE.out.1 hE.out.2 ?_) | (refine wpList_ld S ?_))
    ((first | go_ret | go_ret2 | go_ret3 | go_end0 | skip); refine hR.out _ _ ?_)
    have e1 : s.set key value hash sec now = (s, false) := by
      unfold Sg.set
      rw [if_pos (.inr (by rw [hkl.out, hvl.out]; exact hbig.out))]
    rw [e1]
    exact ⟨x, rfl, H.out.mono (by omega), rfl, rfl, S.sel (by repeat (first | exact Sel.nil | (apply Sel.cons; (repeat (first | exact Pull.head | apply Pull.tail)))))⟩
  · obtain ⟨M0, hM0⟩ : ∃ M0 : Nat, (x.r.data.length : Int) / 4 - 24 = (M0 : Int) := ⟨x.r.data.length / 4 - 24, by have := hsz.out; omega⟩
    have hM1 : kn + vn ≤ M0 := by have := hsz.out; omega
    have hM2 : 4 * (M0 + 24) ≤ x.r.data.length := by omega
    have hM3 : M0 = s.size / 4 - 24 := by have := hsz.out; omega
    have hM4 : 24 ≤ s.size / 4 := by omega
    have hbb : decide ((M0 : Int) < (kn : Int) + (vn : Int)) = false := decide_eq_false (by omega)
    replace hM3 := hidden hM3
    replace hM4 := hidden hM4
    replace hbig := hidden hbig
    go_wp2_with ((refine wpList_ld S ?_))
    refine Calls.mono (clockNow ck 99 (.int .u32 now) _ S.sel1) ?_
    rintro ex w1 ⟨rfl, C⟩
    have S2 := S.call C; clear S C; simp only [List.cons_append, List.nil_append] at S2; have S := S2; clear S2
    clear hmeth
    obtain ⟨X, hX⟩ : ∃ X, Sg.ends now sec = X := ⟨_, rfl⟩
    have hXb : X < 4294967296 := by rw [← hX]; unfold Sg.ends; split <;> omega
    replace hX := hidden hX
    go_upto_if 52 with (fail)
    go_cut [13] (fun r w' => r = .int .u32 X ∧ w' = w1)
    case first => as_aux_lemma =>
      by_cases hs0 : 0 < sec
      · have hXe : (now : Int) + sec = (X : Int) := by rw [← hX.out]; unfold Sg.ends; rw [if_neg (by omega)]; omega
        have hXw : IntKind.u32.wrap ((now : Int) + IntKind.u32.wrap sec) = (X : Int) := by rw [IntKind.wrap_u32, IntKind.wrap_u32]; omega
        go_wp2_with (fail)
        go_meet
        exact ⟨rfl, rfl⟩
      · have hX0 : X = 0 := by rw [← hX.out]; unfold Sg.ends; rw [if_pos (by omega)]
        go_wp2_with (fail)
        go_meet
        exact ⟨by rw [hX0]; rfl, rfl⟩
    case rest => as_aux_lemma =>
      obtain ⟨rfl, rfl⟩ := hcut
      go_wp2_with (fail)
      refine Calls.mono (heldSlot q T 155 N s x t ps _ H.out hps.out S.sel3) ?_
      rintro ex w2 ⟨rfl, C⟩
      have S2 := S.call C; clear S C; simp only [List.cons_append, List.nil_append] at S2; have S := S2; clear S2
      go_wp2_with (fail)
      refine Calls.mono (heldLookup q T 155 N s x t h ps key kn kc ka _ H.out hps.out S.sel3 (hk.out.over S.chg hd) (hd.mono (by simp)) hkc hkm) ?_
      rintro ex w3 ⟨i, f, rfl, hT, hF, C⟩
      have S2 := S.call C; clear S C; simp only [List.cons_append, List.nil_append] at S2; have S := S2; clear S2
      replace hT := hidden hT
      replace hF := hidden hF
      go_upto_if 76 with (first | (refine wpList_alloc S ?_; (clear S; intro bB wB hbB S)) | (refine wpList_box S ?_; (clear S; intro hB wH hhB S)))
      go_cut [] (fun w' => ∃ (s1 : Sg) (x1 : Sm) (ps1 : List Pt) (room : Nat) (b24 : List UInt8), Hid (Held N s1 x1) ∧ Hid (x1.L[t]? = some ps1) ∧ i ≤ ps1.length ∧ Hid (∀ (j : Nat) (p : Pt), j < i → ps1[j]? = some p → p.hash ≤ h) ∧ Hid (∀ (j : Nat) (p : Pt), i ≤ j → ps1[j]? = some p → h ≤ p.hash) ∧ Hid (s1.find t h key = none) ∧
        vn ≤ room ∧ 1 ≤ room ∧ kn + room ≤ M0 + 1 ∧ Hid (s.set key value hash sec now = (s1.add ⟨t, h, key, value, room, now, X, false⟩ now, true)) ∧ b24.length = 24 ∧ Hid (Stay x x1) ∧ Hid (s1.size = s.size) ∧
        St w [ck, q, x.m, x.h.sb] w' (.blk hB (.cells [.int .u32 now, .int .u32 X, .int .u16 kn, .int .u16 h, .int .u32 vn, .int .u32 room, .bool false, .int .u8 t, .int .u16 0].toArray 152 (0, 0)) :: .blk bB (.cells (u8s b24).toArray 149 (0, 0)) :: clk ck now :: x1.mem q T 155))
      case first =>
        cases f with
        | false => as_aux_lemma =>
          obtain ⟨hn0, hi0, ho1, ho2⟩ := hF.out rfl
          replace hn0 := hidden hn0
          replace ho1 := hidden ho1
          replace ho2 := hidden ho2
          clear hT hF
          have hset : s.set key value hash sec now = (s.add ⟨t, h, key, value, max vn 1, now, X, false⟩ now, true) := by
            unfold Sg.set
            rw [if_neg (by rw [hkl.out, hvl.out]; have := hbig.out; omega), htt.out, hth.out, hn0.out, hX.out, hvl.out]
          replace hset := hidden hset
          by_cases hv0 : vn = 0
          · subst hv0
            go_wp2_with (first | (refine wpList_ld S ?_) | (refine wpList_st S ?_; (clear S; intro ws S)))
            go_meet
            refine ⟨s, x, ps, 1, List.replicate 24 0, H, hps, hi0, ho1, ho2, hn0, by omega, by omega, by omega, ?_, by simp, hidden (Stay.refl x), hidden rfl, S.sel (by repeat (first | exact Sel.nil | (apply Sel.cons; (repeat (first | exact Pull.head | apply Pull.tail)))))⟩
            rw [show max 0 1 = 1 from rfl] at hset
            exact hset
          · have hbb : ((vn : Int) == 0) = false := by simp; omega
            go_wp2_with (first | (refine wpList_ld S ?_) | (refine wpList_st S ?_; (clear S; intro ws S)))
            go_meet
            refine ⟨s, x, ps, vn, List.replicate 24 0, H, hps, hi0, ho1, ho2, hn0, by omega, by omega, by omega, ?_, by simp, hidden (Stay.refl x), hidden rfl, S.sel (by repeat (first | exact Sel.nil | (apply Sel.cons; (repeat (first | exact Pull.head | apply Pull.tail)))))⟩
            rw [show max vn 1 = vn by omega] at hset
            exact hset
        | true => as_aux_lemma =>
          obtain ⟨k, e, hke, hg, hs, hh', hkey, hf, hpt⟩ := hT.out rfl
          clear hT hF
          subst hs
          subst hh'
          subst hkey
          have hok := (H.out.geo.ent k e hke).ok
          obtain ⟨k0, hLy⟩ := H.out.geo.lay hke
          obtain ⟨z, hz⟩ : ∃ z, pos (x.o0 s.list) s.list k = z := ⟨_, rfl⟩
          rw [hz] at hpt hLy
          have hil := (List.getElem?_eq_some_iff.1 hpt).1
          have q0 := (H.out.geo.slots.at' _ ps hps.out i _ hpt).1
          replace q0 : x.cs[e.slot * x.h.cap * 4 + i * 4]? = some (.int .i64 z) := q0
          have hroom := H.out.geo.slots.room hps.out
          have hfit := hLy.fit
          have hlen : e.len = 24 + e.key.length + e.room := rfl
          have h24 := hidden (En.hdr_length e)
          obtain ⟨hok1, hok2, hok3, hok4, hok5, hok6, hok7, hok8⟩ := hok
          have hE1 := hidden (show En.hdr e = hdrBytes ((e.access : Nat) : Int) (e.expire : Nat) (e.key.length : Nat) (e.hash : Nat) (e.value.length : Nat) (e.room : Nat) e.gone (e.slot : Nat) ((0 : Nat) : Int) from rfl)
          have hW24 : k0 + 24 ≤ x.W.length := by omega
          have hrW : k0 + 24 + e.key.length + e.room ≤ x.W.length := by omega
          have hzb : z ≤ 1152921504606846976 := by have := hLy.z; have := H.out.geo.ends; have := H.out.geo.snug.e; omega
          have hrmB : e.room ≤ 4096 := by have := H.out.geo.fits; omega
          obtain ⟨o, ho⟩ : ∃ o, e.slot * x.h.cap * 4 = o := ⟨_, rfl⟩
          rw [ho] at q0 hroom ⊢
          have hacc : e.access ≤ now := hpast.out e (List.mem_of_getElem? hke)
          have htt0 : 0 ≤ x.h.tt ∧ x.h.tt ≤ 17592186044416 := by have := H.out.nums.tt; have := H.out.times_lt; omega
          have hsnug := hidden H.out.geo.snug
          replace ho := hidden ho
          replace hz := hidden hz
          replace hLy := hidden hLy
          replace hlen := hidden hlen
          replace hf := hidden hf
          replace hke := hidden hke
          replace hpt := hidden hpt
          obtain ⟨gb, hgb⟩ : ∃ gb, e.gone = gb := ⟨_, rfl⟩
          go_upto_region 18 with (fail)
          have S2 : St w [ck, q, x.m, x.h.sb] wH (.blk hB (.cells hdr0.toArray 152 (0, 0)) :: .blk bB (.cells (u8s (List.replicate 24 0)).toArray 149 (0, 0)) :: clk ck now :: x.mem q T 155) := S.sel (by repeat (first | exact Sel.nil | (apply Sel.cons; (repeat (first | exact Pull.head | apply Pull.tail)))))
          clear S; have S := S2; clear S2
          refine St.regionC S [.blk x.h.sb _] 9 [([0, 1, 2, 3, 4, 5, 6, 7], 8)] [] ?_
          clear S; intro wr Cr S Sc; simp only [walkC, pick, List.getElem?_cons_succ, List.getElem?_cons_zero, List.drop_succ_cons, List.drop_zero]
          (repeat (first | (go_big_quiet_want; (refine quiet_ld Sc ?_ (hi := q0)); go_big_quiet_on) | ((go_big_quiet_step (fail)))))
          refine wpQuiet_nil ?_
          go_wp2_with fail
          refine Calls.mono (ringRead q x.m bB T 149 x.r x.W x.sl (List.replicate 24 0) k0 0 24 24 x.h.post _ .nilIface _ (by rw [hLy.out.z]; simp) S.sel3 hsnug.out (by omega) (by simp) (by omega) (by omega) (by omega)) ?_
          rintro ex w4 ⟨rfl, C⟩
          have S2 := S.call C; clear S C; simp only [List.cons_append, List.nil_append] at S2; have S := S2; clear S2
          rw [if_neg (by omega), show min 24 (x.W.length - k0) = 24 by omega]
          rw [hLy.out.hdr, splice_all _ _ (by rw [h24.out]; simp)] at S
          go_wp2_with fail
          refine ⟨(S.sel (by repeat (first | exact Sel.nil | (apply Sel.cons; (repeat (first | exact Pull.head | apply Pull.tail)))))).inSt _, ?_⟩; (repeat (fail)); refine wpQuiet_nil ?_
          go_wp2_with (fail)
          refine Calls.mono (hdrRead hB bB e.access e.expire e.key.length e.hash e.value.length e.room e.slot 0 e.gone (En.hdr e) _ _ _ _ _ _ _ _ _ 149 152 _ hE1.out hok5 hok6 (by omega) hok7 (by omega) (by omega) hok8 (by omega) S.sel2) ?_
          rintro ex w5 ⟨rfl, C⟩
          have S2 := S.call C; clear S C; simp only [List.cons_append, List.nil_append] at S2; have S := S2; clear S2
          rw [hg] at S
          go_upto_region 27 with (first | (refine wpList_ld S ?_) | (refine wpList_st S ?_; (clear S; intro ws S)))
          by_cases hrv : vn ≤ e.room
          · have hbb : decide ((vn : Int) ≤ (e.room : Int)) = true := decide_eq_true (by omega)
            refine St.regionG S 9 [] [0, 1, 2, 3, 4, 5, 6, 7, 8] ?_
            clear S; intro wr S; simp only [walkSt, pick, List.getElem?_cons_succ, List.getElem?_cons_zero, List.drop_succ_cons, List.drop_zero]; (repeat (first | (go_big_quiet_step (fail)) | (go_big_quiet_want; (refine quiet_ld S ?_); go_big_quiet_on))); refine wpQuiet_nil ?_
            go_upto_region 28 with (fail)
            have hwt : wrap64 (x.h.tt + ((now : Int) - (e.access : Int))) = x.h.tt + ((now : Int) - (e.access : Int)) := by unfold wrap64; omega
            have hwo : wrap64 (x.h.ov + 1) = x.h.ov + 1 := by have := H.out.nums.ov; have := H.out.lim; unfold wrap64; omega
            replace hwt := hidden hwt
            replace hwo := hidden hwo
            refine St.regionC S [.blk hB _] 12 [([0, 1, 2, 3, 4, 5, 6, 7, 8, 9, 10], 11)] [] ?_
            clear S; intro wr Cr S Sc; simp only [walkC, pick, List.getElem?_cons_succ, List.getElem?_cons_zero, List.drop_succ_cons, List.drop_zero]; (repeat (first | (go_big_quiet_step (fail)) | (go_big_quiet_want; (refine quiet_ld Sc ?_); go_big_quiet_on))); refine wpQuiet_nil ?_
            refine wpList_atAdd S ?_ Tryd.func89 (by kernel_rfl) (by rfl) (by kernel_rfl) (by kernel_rfl); (clear S; intro ws S)
            refine ⟨(S.sel (by repeat (first | exact Sel.nil | (apply Sel.cons; (repeat (first | exact Pull.head | apply Pull.tail)))))).inSt _, ?_⟩; (repeat (fail)); refine wpQuiet_nil ?_
            rw [hwt.out] at S
            go_wp2_with (fail)
            refine Calls.mono (hdrWrite hB bB 0 24 24 (En.hdr e) ((now : Nat) : Int) ((X : Nat) : Int) ((kn : Nat) : Int) ((e.hash : Nat) : Int) ((vn : Nat) : Int) ((e.room : Nat) : Int) ((e.slot : Nat) : Int) ((0 : Nat) : Int) false _ 149 152 (by omega) (by rw [h24.out]; omega) (by omega) (by omega) (by omega) (by omega) (by omega) (by omega) (by omega) (by omega) (by omega) (by omega) (by omega) (by omega) (by omega) (by omega) (by omega) (by omega) (by omega) S.sel2) ?_
            rintro ex w6 ⟨rfl, C⟩
            have S2 := S.call C; clear S C; simp only [List.cons_append, List.nil_append] at S2; have S := S2; clear S2
            have h24' := En.hdr_length (rewritten now X value e)
            have hbytes : hdrBytes ((now : Nat) : Int) ((X : Nat) : Int) ((kn : Nat) : Int) ((e.hash : Nat) : Int) ((vn : Nat) : Int) ((e.room : Nat) : Int) false ((e.slot : Nat) : Int) ((0 : Nat) : Int) = En.hdr (rewritten now X value e) := by
              rw [← hkl.out, ← hvl.out, ← hg]; rfl
            rw [hbytes, splice_all _ _ (by rw [h24.out, h24'])] at S
            clear hbytes
            obtain ⟨P0, hP0⟩ : ∃ P, En.hdr (rewritten now X value e) = P := ⟨_, rfl⟩
            rw [hP0] at S h24'
            replace hP0 := hidden hP0
            go_upto_region 30 with (fail)
            refine St.regionC S [.blk x.h.sb _] 9 [([0, 1, 2, 3, 4, 5, 6, 7], 8)] [] ?_
            clear S; intro wr3 Cr S Sc; simp only [walkC, pick, List.getElem?_cons_succ, List.getElem?_cons_zero, List.drop_succ_cons, List.drop_zero]
            (repeat (first | (go_big_quiet_want; (refine quiet_ld Sc ?_ (hi := q0)); go_big_quiet_on) | ((go_big_quiet_step (fail)))))
            refine wpQuiet_nil ?_
            go_wp2_with fail
            refine Calls.mono (ringWriteAt q x.m T x.r x.W x.sl P0 k0 24 24 (some ⟨bB, 0, none⟩) _ _ _ (by rw [hLy.out.z]; simp) S.sel2 hsnug.out (S.src8w (by repeat (first | exact Pull.head | apply Pull.tail)) h24') (S.offB (r := .blk bB _) (by repeat (first | exact Pull.head | apply Pull.tail)) rfl (by repeat (first | exact PullsF.nil | (apply PullsF.cons; (repeat (first | exact PullF.head rfl | apply PullF.tail)))))) (by omega) (by omega)) ?_
            rintro ex w7 ⟨rfl, C⟩
            have S2 := S.call C; clear S C; simp only [rMem, List.cons_append, List.nil_append] at S2; have S := S2; clear S2
            have hrest := Ri.overs_rest P0 x.r k0
            have hr1d : (x.r.overs k0 P0).data.length = x.r.data.length := Ri.overs_size P0 x.r k0
            have hh1 := Ri.overs_has P0 hsnug.out.has (k := k0) (by omega)
            have hs1 : Snug (x.r.overs k0 P0) (splice x.W k0 P0) ((x.r.overs k0 P0).data ++ x.sl).length := ⟨hh1, by rw [hrest.2.1]; exact hsnug.out.e, by rw [hr1d]; exact hsnug.out.size, by simp⟩
            have hW1 := splice_length x.W k0 P0 (by omega)
            have hb1 := hrest.1
            obtain ⟨ra, hra⟩ : ∃ r, x.r.overs k0 P0 = r := ⟨_, rfl⟩
            rw [hra] at S hs1 hr1d hb1
            replace hra := hidden hra
            replace hs1 := hidden hs1
            replace hb1 := hidden hb1
            replace hW1 := hidden hW1
            clear hrest hh1
            go_wp2_with fail
            refine ⟨(S.sel (by repeat (first | exact Sel.nil | (apply Sel.cons; (repeat (first | exact Pull.head | apply Pull.tail)))))).inSt _, ?_⟩; (repeat (fail)); refine wpQuiet_nil ?_
            go_upto_region 31 with (fail)
            refine St.regionC S [.blk x.h.sb _, .blk hB _] 16 [([0, 1, 2, 3, 4, 5, 6, 7, 8, 9, 10, 11, 12, 13, 14], 15)] [] ?_
            clear S; intro wr4 Cr S Sc; simp only [walkC, pick, List.getElem?_cons_succ, List.getElem?_cons_zero, List.drop_succ_cons, List.drop_zero]
            (repeat (first | (go_big_quiet_want; (refine quiet_ld Sc ?_ (hi := q0)); go_big_quiet_on) | (first | (go_big_quiet_step (fail)) | (go_big_quiet_want; (refine quiet_ld Sc ?_); go_big_quiet_on))))
            refine wpQuiet_nil ?_
            go_wp2_with fail
            refine Calls.mono (ringWriteAt q x.m T ra (splice x.W k0 P0) x.sl value (k0 + 24 + kn) vn vc va _ _ _ (by rw [hb1.out, hLy.out.z]; simp; omega) S.sel2 hs1.out (hv.out.over S.chg hvd) (hvd.mono (by simp)) hvc (by rw [hW1.out]; have := hkl.out; omega)) ?_
            rintro ex w8 ⟨rfl, C⟩
            have S2 := S.call C; clear S C; simp only [rMem, List.cons_append, List.nil_append] at S2; have S := S2; clear S2
            go_wp2_with fail
            refine ⟨(S.sel (by repeat (first | exact Sel.nil | (apply Sel.cons; (repeat (first | exact Pull.head | apply Pull.tail)))))).inSt _, ?_⟩; (repeat (fail)); refine wpQuiet_nil ?_
            go_wp2_with (fail)
            obtain ⟨wa, hrun, S2⟩ := atAdd S q 14 1
            clear S; have S := S2; clear S2
            rw [hrun]; clear hrun
            rw [hwo.out] at S
            go_wp2_with fail
            ((first | go_ret | go_ret2 | go_ret3 | go_end0 | skip); refine hR.out _ _ ?_)
            have hgetD : s.list.getD k ⟨0, 0, [], [], 0, 0, 0, true⟩ = e := by rw [List.getD_eq_getElem?_getD, hke.out]; rfl
            have hset : s.set e.key value hash sec now = ({ s.at' k (rewritten now X value) with over := s.over + 1 }, true) := by
              unfold Sg.set
              rw [if_neg (by rw [hkl.out, hvl.out]; have := hbig.out; omega), htt.out, hth.out, hf.out]
              dsimp only
              rw [hgetD, hvl.out, if_pos hrv, hX.out]
              rfl
            have HH := ((H.out.filled (k0 := k0) hke.out (by rw [hz.out]; exact hLy.out.z) (rewritten now X value) (fun _ => rfl) (fun _ => rfl) (fun _ => rfl) (fun _ => rfl) (fun _ => rfl) ⟨hok1, by show value.length ≤ e.room; rw [hvl.out]; exact hrv, hok3, hok4, by show now < _; omega, hXb, hok7, hok8⟩).over1).mono (show N + 1 ≤ N + 134217728 by omega)
            rw [hP0.out, hra.out, hkl.out] at HH
            rw [hset]
            exact ⟨_, rfl, HH, rfl, rfl, S.sel (by repeat (first | exact Sel.nil | (apply Sel.cons; (repeat (first | exact Pull.head | apply Pull.tail)))))⟩
          · have hbb : decide ((vn : Int) ≤ (e.room : Int)) = false := decide_eq_false (by omega)
            have hecb : -1152921504606846976 ≤ x.h.ec ∧ x.h.ec ≤ 1152921504606846976 := by have := H.out.nums.ec; have := H.out.count_le'; omega
            have hrs := hidden (H.out.geo.slots.rise ps (List.mem_of_getElem? hps.out))
            refine St.regionG S 9 [] [0, 1, 2, 3, 4, 5, 6, 7, 8] ?_
            clear S; intro wr S; simp only [walkSt, pick, List.getElem?_cons_succ, List.getElem?_cons_zero, List.drop_succ_cons, List.drop_zero]; (repeat (first | (go_big_quiet_step (fail)) | (go_big_quiet_want; (refine quiet_ld S ?_); go_big_quiet_on))); refine wpQuiet_nil ?_
            go_wp2_with (fail)
            rw [← ho.out]
            refine Calls.mono (delPtr q T 155 s.size s.list x k i e ps _ H.out.geo hke.out hg hps.out (by rw [hz.out]; exact hpt.out) hecb S.sel3) ?_
            rintro ex w6 ⟨rfl, r', W', cs', g', hre, C⟩
            have S2 := S.call C; clear S C
            simp only [Sm.mem, List.cons_append, List.nil_append] at S2
            have S := S2; clear S2
            have H1 := H.out.del hke.out hg ⟨g', rfl, hre, ⟨_, rfl⟩, fun t ht => List.getElem?_set_ne (fun h => ht h.symm)⟩
            obtain ⟨x1, hx1⟩ : ∃ x1 : Sm, ({ x with r := r', W := W', h := x.h.del e.slot ps.length, cs := cs', L := x.L.set e.slot (ps.eraseIdx i) } : Sm) = x1 := ⟨_, rfl⟩
            have hstay : Stay x x1 := by rw [← hx1]; exact ⟨rfl, rfl, rfl, rfl⟩
            have hLx : x1.L[e.slot]? = some (ps.eraseIdx i) := by
              rw [← hx1]
              show (x.L.set e.slot (ps.eraseIdx i))[e.slot]? = _
              rw [List.getElem?_set, if_pos rfl, if_pos (List.getElem?_eq_some_iff.1 hps.out).1]
            have S2 : St w [ck, q, x.m, x.h.sb] w6 (.blk hB (.cells [.int .u32 now, .int .u32 X, .int .u16 kn, .int .u16 e.hash, .int .u32 vn, .int .u32 e.room, .bool false, .int .u8 e.slot, .int .u16 0].toArray 152 (0, 0)) :: .blk bB (.cells (u8s (En.hdr e)).toArray 149 (0, 0)) :: clk ck now :: x1.mem q T 155) := by rw [← hx1]; exact S.sel (by repeat (first | exact Sel.nil | (apply Sel.cons; (repeat (first | exact Pull.head | apply Pull.tail)))))
            clear S; have S := S2; clear S2
            rw [hx1] at H1
            replace H1 := hidden H1
            replace hstay := hidden hstay
            replace hLx := hidden hLx
            clear g' hx1
            have hg0 : Hid (Sg.grow e.room vn = Sg.grow e.room vn) := hidden rfl
            go_wp2_with fail
            go_loopg [] vn (fun g wr => ∃ r : Nat, 1 ≤ r ∧ vn - r ≤ g ∧ r ≤ 131072 ∧ Hid (Sg.grow r vn = Sg.grow e.room vn) ∧
              St w [ck, q, x.m, x.h.sb] wr (.blk hB (.cells [.int .u32 now, .int .u32 X, .int .u16 kn, .int .u16 e.hash, .int .u32 vn, .int .u32 r, .bool false, .int .u8 e.slot, .int .u16 0].toArray 152 (0, 0)) :: .blk bB (.cells (u8s (En.hdr e)).toArray 149 (0, 0)) :: clk ck now :: x1.mem q T 155))
            case atStart => exact ⟨e.room, hok3, by omega, by omega, hidden rfl, S⟩
            case round =>
              clear hg0
              obtain ⟨r, hr1, hr2, hr3, hgr, S⟩ := hrel
              by_cases hlt : r < vn
              · have hbl : decide ((r : Int) < (vn : Int)) = true := decide_eq_true (by omega)
                go_upto_region 35 with fail
                refine St.regionG S 9 [] [0, 1, 2, 3, 4, 5, 6, 7, 8] ?_
                clear S; intro wr S; simp only [walkSt, pick, List.getElem?_cons_succ, List.getElem?_cons_zero, List.drop_succ_cons, List.drop_zero]; (repeat (first | (go_big_quiet_step (fail)) | (go_big_quiet_want; (refine quiet_ld S ?_); go_big_quiet_on))); refine wpQuiet_nil ?_
                go_wp2_with (first | (refine wpList_ld S ?_) | (refine wpList_st S ?_; (clear S; intro ws S)))
                go_roundg (gk - 1)
                case measure => omega
                case rel =>
                  refine ⟨r * 2, by omega, by omega, by omega, hidden ?_, S.sel (by repeat (first | exact Sel.nil | (apply Sel.cons; (repeat (first | exact Pull.head | apply Pull.tail)))))⟩
                  rw [← hgr.out]
                  conv => rhs; rw [Sg.grow, if_neg (by omega)]
                  rw [Nat.mul_comm]
              · have hbl : decide ((r : Int) < (vn : Int)) = false := decide_eq_false (by omega)
                have hgf : Sg.grow e.room vn = r := by rw [← hgr.out, Sg.grow, if_pos (.inr (by omega))]
                replace hgf := hidden hgf
                have hMk : (M0 : Int) - (kn : Int) = ((M0 - kn : Nat) : Int) := by omega
                go_upto_region 35 with fail
                refine St.regionG S 9 [] [0, 1, 2, 3, 4, 5, 6, 7, 8] ?_
                clear S; intro wr S; simp only [walkSt, pick, List.getElem?_cons_succ, List.getElem?_cons_zero, List.drop_succ_cons, List.drop_zero]; (repeat (first | (go_big_quiet_step (fail)) | (go_big_quiet_want; (refine quiet_ld S ?_); go_big_quiet_on))); refine wpQuiet_nil ?_
                have hfin : ∀ rm : Nat, rm = min r (M0 - kn) → s.set e.key value hash sec now = ((s.at' k gone').add ⟨e.slot, e.hash, e.key, value, rm, now, X, false⟩ now, true) := by
                  intro rm hrm
                  have hgetD : s.list.getD k ⟨0, 0, [], [], 0, 0, 0, true⟩ = e := by rw [List.getD_eq_getElem?_getD, hke.out]; rfl
                  unfold Sg.set
                  rw [if_neg (by rw [hkl.out, hvl.out]; have := hbig.out; omega), htt.out, hth.out, hf.out]
                  dsimp only
                  rw [hgetD, hvl.out, if_neg hrv, hX.out, hgf.out, hkl.out, hrm, hM3.out]
                  rfl
                have hnone : (s.at' k gone').find e.slot e.hash e.key = none := by
                  refine find_none' fun a ha hga hsa hha hka => ?_
                  obtain ⟨j, hj⟩ := List.mem_iff_getElem?.1 ha
                  replace hj : (s.list.modify k gone')[j]? = some a := hj
                  rw [get_modify] at hj
                  by_cases e1 : k = j
                  · subst e1; rw [if_pos rfl, hke.out] at hj; cases hj; cases hga
                  · rw [if_neg e1] at hj
                    exact e1 (H.out.geo.uniq k j e a hke.out hj hg hga hsa.symm hha.symm hka.symm)
                have hle : (ps.eraseIdx i).length = ps.length - 1 := List.length_eraseIdx_of_lt hil
                have hord1 : ∀ (j : Nat) (p : Pt), j < i → (ps.eraseIdx i)[j]? = some p → p.hash ≤ e.hash := by
                  intro j p hj hp
                  rw [List.getElem?_eraseIdx, if_pos hj] at hp
                  exact hrs.out j i p _ (by omega) hp hpt.out
                have hord2 : ∀ (j : Nat) (p : Pt), i ≤ j → (ps.eraseIdx i)[j]? = some p → e.hash ≤ p.hash := by
                  intro j p hj hp
                  rw [List.getElem?_eraseIdx, if_neg (by omega)] at hp
                  exact hrs.out i (j + 1) _ p (by omega) hpt.out hp
                replace hfin := hidden hfin
                replace hnone := hidden hnone
                replace hord1 := hidden hord1
                replace hord2 := hidden hord2
                replace hle := hidden hle
                by_cases hcp : M0 - kn < r
                · have hb2 : decide (((M0 - kn : Nat) : Int) < (r : Int)) = true := decide_eq_true (by omega)
                  go_wp2_with (first | (refine wpList_ld S ?_) | (refine wpList_st S ?_; (clear S; intro ws S)))
                  go_meet
                  exact ⟨s.at' k gone', x1, ps.eraseIdx i, M0 - kn, En.hdr e, H1, hLx, by have := hle.out; omega, hord1, hord2, hnone, by omega, by omega, by omega, hidden (hfin.out _ (by omega)), h24.out, hstay, hidden rfl, S.sel (by repeat (first | exact Sel.nil | (apply Sel.cons; (repeat (first | exact Pull.head | apply Pull.tail)))))⟩
                · have hb2 : decide (((M0 - kn : Nat) : Int) < (r : Int)) = false := decide_eq_false (by omega)
                  go_wp2_with ((refine wpList_ld S ?_))
                  go_meet
                  exact ⟨s.at' k gone', x1, ps.eraseIdx i, r, En.hdr e, H1, hLx, by have := hle.out; omega, hord1, hord2, hnone, by omega, by omega, by omega, hidden (hfin.out _ (by omega)), h24.out, hstay, hidden rfl, S.sel (by repeat (first | exact Sel.nil | (apply Sel.cons; (repeat (first | exact Pull.head | apply Pull.tail)))))⟩
      case rest => as_aux_lemma =>
        obtain ⟨s1, x1, ps1, room, b24, H1, hps1, hi1, ho1, ho2, hn1, hr1, hr2, hr3, hset, hb24, hst, hsz1, S⟩ := hcut
        clear hT hF
        obtain ⟨L, hL⟩ : ∃ L : Nat, (24 : Int) + (kn : Int) + (room : Int) = (L : Int) := ⟨24 + kn + room, by omega⟩
        have hLb : L ≤ x.r.data.length := by omega
        have hLs : L ≤ s1.size := by have := hsz.out; have := hsz1.out; omega
        go_upto_region 49 with ((refine wpList_ld S ?_))
        have hlen1 : Hid ((⟨t, h, key, value, room, now, X, false⟩ : En).len = L) := hidden (by show 24 + key.length + room = L; rw [hkl.out]; omega)
        have htmr := hst.out
        obtain ⟨ps2, hps2⟩ : ∃ p : List Pt, p = ps1 := ⟨_, rfl⟩
        clear hps2 ps2
        go_wp2_with (fail)
        refine Calls.mono (evacuate q T N s1 x1 L t now _ H1.out hLs htl (by omega) (by omega) S.sel3) ?_
        rintro ex w4 ⟨mod, x2, rfl, H2, hst2, hmod, C⟩
        have S2 := S.call C; clear S C
        simp only [Sm.mem, List.cons_append, List.nil_append] at S2
        have S := S2; clear S2
        have hst3 := hst.out.trans hst2
        obtain ⟨ps2, hps2⟩ := H2.geo.slots.has htl
        have hf2 := evac_find L now s1 0 t h key hn1.out
        have hfr2 := evac_free L now s1 0 hLs
        have hpl2 := H2.geo.few hps2
        have hsz2 := evac_size L now s1 0
        have hcap2 := H2.geo.cap
        have hdB2 : x2.r.data.length ≤ 4096 := by have := H2.geo.size; have := H2.size; omega
        have hdL2 : L ≤ x2.r.data.length := by have := H2.geo.size; omega
        have hec2 : -1152921504606846976 ≤ x2.h.ec ∧ x2.h.ec ≤ 1152921504606846976 := by have := H2.nums.ec; have := H2.count_le'; omega
        have htt2 : wrap64 (x2.h.tt + (now : Int)) = x2.h.tt + (now : Int) := by have := H2.nums.tt; have := H2.times_lt; unfold wrap64; omega
        have htc2 : wrap64 (x2.h.tc + 1) = x2.h.tc + 1 := by have := H2.nums.tc; have := H2.length_le; unfold wrap64; omega
        have hvv2 : 0 ≤ x2.h.vac ∧ x2.h.vac ≤ 4096 := by have := H2.free_eq; have := H2.size; have : (Sg.evac L now s1 0).free ≤ (Sg.evac L now s1 0).size := Nat.sub_le _ _; omega
        have hre2 : x2.r.e ≤ N + 120000000 := H2.lim.2.2.2.2.2.2
        have hps2len : ps2.length ≤ 4096 := by have := H2.size; omega
        have hsnug2 := hidden H2.geo.snug
        have hsl2 := hidden H2.geo.slots
        replace H2 := hidden H2
        replace hps2 := hidden hps2
        replace hf2 := hidden hf2
        replace hfr2 := hidden hfr2
        replace hsz2 := hidden hsz2
        replace hst3 := hidden hst3
        replace hmod := hidden hmod
        replace htt2 := hidden htt2
        replace htc2 := hidden htc2
        clear hst2 htmr hpl2
        go_upto_if 272 with (fail)
        go_cut [17] (fun v17 w' => ∃ j : Nat, v17 = .int .i64 j ∧ j ≤ ps2.length ∧ Hid (∀ (a : Nat) (p : Pt), a < j → ps2[a]? = some p → p.hash ≤ h) ∧ Hid (∀ (a : Nat) (p : Pt), j ≤ a → ps2[a]? = some p → h ≤ p.hash) ∧
          St w [ck, q, x.m, x.h.sb] w' (.blk hB (.cells [.int .u32 now, .int .u32 X, .int .u16 kn, .int .u16 h, .int .u32 vn, .int .u32 room, .bool false, .int .u8 t, .int .u16 0].toArray 152 (0, 0)) :: .blk bB (.cells (u8s b24).toArray 149 (0, 0)) :: clk ck now :: x2.mem q T 155))
        case first => as_aux_lemma =>
          cases mod with
          | true =>
            go_wp2_with (fail)
            refine Calls.mono (heldSlot q T 155 _ _ x2 t ps2 _ H2.out hps2.out S.sel3) ?_
            rintro ex w5 ⟨rfl, C⟩
            have S2 := S.call C; clear S C
            simp only [Sm.mem, List.cons_append, List.nil_append] at S2
            have S := S2; clear S2
            go_wp2_with (fail)
            refine Calls.mono (heldLookup q T 155 _ _ x2 t h ps2 key kn kc ka _ H2.out hps2.out S.sel3 (hk.out.over S.chg hd) (by rw [hst3.out.m, hst3.out.sb]; exact hd.mono (by simp)) hkc hkm) ?_
            rintro ex w6 ⟨i2, f2, rfl, hT2, hF2, C⟩
            have S2 := S.call C; clear S C
            simp only [Sm.mem, List.cons_append, List.nil_append] at S2
            have S := S2; clear S2
            cases f2 with
            | true =>
              exfalso
              obtain ⟨k, e, _, _, _, _, _, hf, _⟩ := hT2 rfl
              rw [hf2.out] at hf
              cases hf
            | false =>
              obtain ⟨_, hi2, ho3, ho4⟩ := hF2 rfl
              replace ho3 := hidden ho3
              replace ho4 := hidden ho4
              clear hT2 hF2
              go_wp2_with (fail)
              go_meet
              exact ⟨i2, rfl, hi2, ho3, ho4, S.sel (by repeat (first | exact Sel.nil | (apply Sel.cons; (repeat (first | exact Pull.head | apply Pull.tail)))))⟩
          | false =>
            obtain ⟨ps3, hps3, hmap⟩ := hmod.out rfl ps1 hps1.out
            have hps23 : ps3 = ps2 := by have := hps2.out; rw [hps3] at this; exact Option.some.inj this
            subst hps23
            have hlen2 : ps3.length = ps1.length := by have := congrArg List.length hmap; simpa using this
            have key2 : ∀ (a : Nat) (p : Pt), ps3[a]? = some p → ∃ p1, ps1[a]? = some p1 ∧ p1.hash = p.hash := by
              intro a p hp
              have e1 := congrArg (fun l => l[a]?) hmap
              simp only [List.getElem?_map, hp, Option.map_some] at e1
              cases e2 : ps1[a]? with
              | none => rw [e2] at e1; cases e1
              | some p1 => rw [e2] at e1; exact ⟨p1, rfl, (Option.some.inj e1).symm⟩
            replace key2 := hidden key2
            clear hmap hps3
            go_wp2_with fail
            go_meet
            refine ⟨i, rfl, by omega, hidden fun a p ha hp => ?_, hidden fun a p ha hp => ?_, S.sel (by repeat (first | exact Sel.nil | (apply Sel.cons; (repeat (first | exact Pull.head | apply Pull.tail)))))⟩
            · obtain ⟨p1, h1, h2⟩ := key2.out a p hp
              rw [← h2]; exact ho1.out a p1 ha h1
            · obtain ⟨p1, h1, h2⟩ := key2.out a p hp
              rw [← h2]; exact ho2.out a p1 ha h1
        case rest => as_aux_lemma =>
          obtain ⟨j, rfl, hj, ho3, ho4, S⟩ := hcut
          go_wp2_with (fail)
          refine Calls.mono (ringEnd q x2.m T x2.r.b x2.r.e x2.r.data.length (x2.r.data ++ x2.sl).length x2.r.ix x2.h.post _ S.sel1) ?_
          rintro ex w5 ⟨rfl, C⟩
          have S2 := S.call C; clear S C; simp only [List.cons_append, List.nil_append] at S2; have S := S2; clear S2
          go_wp2_with ((refine wpList_ld S ?_))
          refine Calls.mono (insPtr q x2.m T x2.r.b x2.r.e x2.r.data.length (x2.r.data ++ x2.sl).length x2.r.ix x2.h x2.cs x2.L t j x2.r.e h kn ps2 _ hsl2.out hps2.out hj hcap2 ho3.out ho4.out hec2 S.sel2) ?_
          rintro ex w6 ⟨rfl, c', sb', cs', hcc, hsl3, C⟩
          have S2 := S.call C; clear S C; simp only [List.cons_append, List.nil_append] at S2; have S := S2; clear S2
          obtain ⟨K, hK⟩ : ∃ K : Hd, x2.h.ins t ps2.length c' sb' = K := ⟨_, rfl⟩
          rw [hK] at S
          have hKtt : K.tt = x2.h.tt := by rw [← hK]; rfl
          have hKtc : K.tc = x2.h.tc := by rw [← hK]; rfl
          have hKv : K.vac = x2.h.vac := by rw [← hK]; rfl
          have hwt : wrap64 (K.tt + (now : Int)) = K.tt + (now : Int) := by rw [hKtt]; exact htt2.out
          have hwc : wrap64 (K.tc + 1) = K.tc + 1 := by rw [hKtc]; exact htc2.out
          have hvb : 0 ≤ K.vac ∧ K.vac ≤ 4096 := by rw [hKv]; exact hvv2
          replace hK := hidden hK
          replace hwt := hidden hwt
          replace hwc := hidden hwc
          replace hsl3 := hidden hsl3
          clear hKtt hKtc hKv
          go_wp2_with (fail)
          have h24' := En.hdr_length (⟨t, h, key, value, room, now, X, false⟩ : En)
          refine Calls.mono (hdrWrite hB bB 0 24 24 b24 ((now : Nat) : Int) ((X : Nat) : Int) ((kn : Nat) : Int) ((h : Nat) : Int) ((vn : Nat) : Int) ((room : Nat) : Int) ((t : Nat) : Int) ((0 : Nat) : Int) false _ 149 152 (by omega) (by omega) (by omega) (by omega) (by omega) (by omega) (by omega) (by omega) (by omega) (by omega) (by omega) (by omega) (by omega) (by omega) (by omega) (by omega) (by omega) (by omega) (by omega) S.sel2) ?_
          rintro ex w7 ⟨rfl, C⟩
          have S2 := S.call C; clear S C; simp only [List.cons_append, List.nil_append] at S2; have S := S2; clear S2
          have hbytes : splice b24 0 (hdrBytes ((now : Nat) : Int) ((X : Nat) : Int) ((kn : Nat) : Int) ((h : Nat) : Int) ((vn : Nat) : Int) ((room : Nat) : Int) false ((t : Nat) : Int) ((0 : Nat) : Int)) = En.hdr ⟨t, h, key, value, room, now, X, false⟩ := by
            rw [splice_all _ _ (by rw [hb24]; exact h24' ▸ (by rw [← hkl.out, ← hvl.out]; rfl))]
            rw [← hkl.out, ← hvl.out]; rfl
          rw [hbytes] at S
          obtain ⟨P0, hP0⟩ : ∃ P, En.hdr (⟨t, h, key, value, room, now, X, false⟩ : En) = P := ⟨_, rfl⟩
          rw [hP0] at S h24'
          replace hP0 := hidden hP0
          clear hbytes
          go_upto_region 56 with (fail)
          refine St.regionC S [] 5 [([0, 1, 2, 3], 4)] [] ?_
          clear S; intro wr Cr S Sc; simp only [walkC, pick, List.getElem?_cons_succ, List.getElem?_cons_zero, List.drop_succ_cons, List.drop_zero]; (repeat ((go_big_quiet_step (fail)))); refine wpQuiet_nil ?_
          go_wp2_with fail
          refine Calls.mono (ringWrite q x2.m T x2.r x2.W x2.sl P0 24 24 (some ⟨bB, 0, none⟩) K.post _ S.sel2 hsnug2.out (S.src8w (by repeat (first | exact Pull.head | apply Pull.tail)) h24') (S.offB (r := .blk bB _) (by repeat (first | exact Pull.head | apply Pull.tail)) rfl (by repeat (first | exact PullsF.nil | (apply PullsF.cons; (repeat (first | exact PullF.head rfl | apply PullF.tail)))))) (by omega) (by omega)) ?_
          rintro ex w8 ⟨rfl, C⟩
          have S2 := S.call C; clear S C; simp only [rMem, List.cons_append, List.nil_append] at S2; have S := S2; clear S2
          have hs1 := hsnug2.out.puts (p := P0) (by omega)
          have hr1e := Ri.puts_e P0 x2.r
          have hr1d : (x2.r.puts P0).data.length = x2.r.data.length := Ri.puts_size P0 x2.r
          have hr1c : ((x2.r.puts P0).data ++ x2.sl).length = (x2.r.data ++ x2.sl).length := by rw [List.length_append, List.length_append, hr1d]
          obtain ⟨ra, hra⟩ : ∃ r, x2.r.puts P0 = r := ⟨_, rfl⟩
          rw [hra] at S hs1 hr1e hr1d hr1c
          rw [← hr1c] at hs1
          replace hra := hidden hra
          replace hs1 := hidden hs1
          replace hr1e := hidden hr1e
          replace hr1c := hidden hr1c
          have hmm : x2.m = x.m := hst3.out.m
          go_wp2_with fail
          refine ⟨(S.sel (by repeat (first | exact Sel.nil | (apply Sel.cons; (repeat (first | exact Pull.head | apply Pull.tail)))))).inSt _, ?_⟩; (repeat (fail)); refine wpQuiet_nil ?_
          go_wp2_with (fail)
          refine Calls.mono (ringWrite q x2.m T ra _ x2.sl key kn kc ka K.post _ S.sel2 hs1.out (hk.out.over S.chg hd) (by rw [hst3.out.m]; exact hd.mono (by simp)) hkc (by omega)) ?_
          rintro ex w9 ⟨rfl, C⟩
          have S2 := S.call C; clear S C; simp only [rMem, List.cons_append, List.nil_append] at S2; have S := S2; clear S2
          have hs2 := hs1.out.puts (p := key) (by have := hr1e.out; rw [h24'] at this; have := hkl.out; omega)
          have hr2e := Ri.puts_e key ra
          have hr2d : (ra.puts key).data.length = ra.data.length := Ri.puts_size key ra
          have hr2c : ((ra.puts key).data ++ x2.sl).length = (ra.data ++ x2.sl).length := by rw [List.length_append, List.length_append, hr2d]
          obtain ⟨rb, hrb⟩ : ∃ r, ra.puts key = r := ⟨_, rfl⟩
          rw [hrb] at S hs2 hr2e hr2d hr2c
          rw [← hr2c] at hs2
          replace hrb := hidden hrb
          replace hs2 := hidden hs2
          replace hr2e := hidden hr2e
          replace hr2c := hidden hr2c
          go_wp2_with (fail)
          refine Calls.mono (ringWrite q x2.m T rb _ x2.sl value vn vc va K.post _ S.sel2 hs2.out (hv.out.over S.chg hvd) (by rw [hst3.out.m]; exact hvd.mono (by simp)) hvc (by omega)) ?_
          rintro ex w10 ⟨rfl, C⟩
          have S2 := S.call C; clear S C; simp only [rMem, List.cons_append, List.nil_append] at S2; have S := S2; clear S2
          have hs3 := hs2.out.puts (p := value) (by have := hr2e.out; have := hr1e.out; rw [h24'] at this; have := hkl.out; have := hvl.out; omega)
          have hr3e := Ri.puts_e value rb
          have hr3d : (rb.puts value).data.length = rb.data.length := Ri.puts_size value rb
          have hr3c : ((rb.puts value).data ++ x2.sl).length = (rb.data ++ x2.sl).length := by rw [List.length_append, List.length_append, hr3d]
          obtain ⟨rc, hrc⟩ : ∃ r, rb.puts value = r := ⟨_, rfl⟩
          rw [hrc] at S hs3 hr3e hr3d hr3c
          rw [← hr3c] at hs3
          replace hrc := hidden hrc
          replace hs3 := hidden hs3
          replace hr3e := hidden hr3e
          replace hr3c := hidden hr3c
          obtain ⟨d, hd'⟩ : ∃ d : Nat, (room : Int) - (vn : Int) = (d : Int) := ⟨room - vn, by omega⟩
          go_upto_region 59 with (fail)
          refine St.regionC S [.blk hB _] 14 [([0, 1, 2, 3, 4, 5, 6, 7, 8, 9, 10, 11, 12], 13)] [] ?_
          clear S; intro wr Cr S Sc; simp only [walkC, pick, List.getElem?_cons_succ, List.getElem?_cons_zero, List.drop_succ_cons, List.drop_zero]; (repeat (first | (go_big_quiet_step (fail)) | (go_big_quiet_want; (refine quiet_ld Sc ?_); go_big_quiet_on))); refine wpQuiet_nil ?_
          go_wp2_with fail
          refine Calls.mono (ringSkip q x2.m T rc _ x2.sl d K.post _ rfl _ S.sel2 hs3.out (by omega)) ?_
          rintro ex w11 ⟨rfl, C⟩
          have S2 := S.call C; clear S C; simp only [rMem, List.cons_append, List.nil_append] at S2; have S := S2; clear S2
          go_wp2_with fail
          refine ⟨(S.sel (by repeat (first | exact Sel.nil | (apply Sel.cons; (repeat (first | exact Pull.head | apply Pull.tail)))))).inSt _, ?_⟩; (repeat (fail)); refine wpQuiet_nil ?_
          go_wp2_with (fail)
          obtain ⟨wa, hrun, S2⟩ := atAdd S q 10 (now : Int)
          clear S; have S := S2; clear S2
          rw [hrun]; clear hrun
          rw [hwt.out] at S
          go_wp2_with (fail)
          obtain ⟨wb, hrun, S2⟩ := atAdd S q 9 1
          clear S; have S := S2; clear S2
          rw [hrun]; clear hrun
          rw [hwc.out] at S
          go_wp2_with (first | (refine wpList_ld S ?_) | (refine wpList_st S ?_; (clear S; intro ws S)))
          ((first | go_ret | go_ret2 | go_ret3 | go_end0 | skip); refine hR.out _ _ ?_)
          obtain ⟨U, hU, hUp⟩ := Ri.skip_puts hs3.out.has d
          have hK' := hK.out
          subst hK'
          have hfree : Sg.used (Sg.evac L now s1 0).list + (⟨t, h, key, value, room, now, X, false⟩ : En).len ≤ (Sg.evac L now s1 0).size := by
            rw [hlen1.out]
            have h1 := hfr2.out
            have h2 := H2.out.used_le
            unfold Sg.free at h1
            omega
          have hsl4 := hsl3.out
          rw [← hkl.out] at hsl4
          have HH := H2.out.add (e := ⟨t, h, key, value, room, now, X, false⟩) rfl ⟨by show key.length ≤ 65535; rw [hkl.out]; exact hkm, by show value.length ≤ room; rw [hvl.out]; exact hr1, hr2, by show room ≤ _; omega, by show now < _; omega, hXb, hhl, htl⟩ hfree hps2.out hj hf2.out (pad := U) (by rw [hU]; show d = room - value.length; rw [hvl.out]; omega) hsl4 (by omega) (by rw [hlen1.out]; omega)
          have hring : x2.r.puts (En.hdr ⟨t, h, key, value, room, now, X, false⟩ ++ key ++ value ++ U) = rc.skip d := by
            rw [Ri.puts_append, Ri.puts_append, Ri.puts_append, hP0.out, hra.out, hrb.out, hrc.out, hUp]
          dsimp only at HH
          rw [hring, hlen1.out] at HH
          have hset2 : s.set key value hash sec now = ({ Sg.evac L now s1 0 with list := (Sg.evac L now s1 0).list ++ [⟨t, h, key, value, room, now, X, false⟩] }, true) := by
            rw [hset.out]; unfold Sg.add; rw [hlen1.out]
          rw [hset2]
          exact ⟨_, rfl, HH.mono (by omega), hst3.out.m, hst3.out.timer, S.sel (by repeat (first | exact Sel.nil | (apply Sel.cons; (repeat (first | exact Pull.head | apply Pull.tail)))))⟩
end Go.Proofs.YtbklhnpnkinadaaDoor
end
