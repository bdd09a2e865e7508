/- A new entry in a segment that is held; what making room keeps. · The ring buffer of the library: bytes moved. -/
import Derived.Test.YtbklhnpnkinadaaDoorK2
import Derived.Test.YtbklhnpnkinadaaDoorK3
section
namespace Go.Proofs.YtbklhnpnkinadaaDoor
open Go.Vil Go.Vil.Ri Go.RowKit
set_option linter.unusedVariables false
set_option linter.unusedSimpArgs false

theorem Snug.puts {r : Ri} {W : List UInt8} {c : Nat} {p : List UInt8} (h : Snug r W c) (he : r.e + p.length ≤ 1152921504606846976) : Snug (r.puts p) (last r.size (W ++ p)) c :=
  ⟨puts_has p h.has, by rw [puts_e]; exact he, by have := puts_size p r; have h2 : (r.puts p).data.length = r.data.length := this; rw [h2]; exact h.size, by have := puts_size p r; have h2 : (r.puts p).data.length = r.data.length := this; rw [h2]; exact h.cap⟩
theorem none_of_find {s : Sg} {t h : Nat} {key : List UInt8} (hf : s.find t h key = none) : ∀ e ∈ s.list, e.gone = false → e.slot = t → e.hash = h → e.key ≠ key := by
  intro e he hg hs hh hk
  unfold Sg.find at hf
  rw [List.findIdx?_eq_none_iff] at hf
  have := hf e he
  rw [(is_iff e t h key).2 ⟨hg, hs, hh, hk⟩] at this
  cases this
theorem find_none' {s : Sg} {t h : Nat} {key : List UInt8} (hn : ∀ e ∈ s.list, e.gone = false → e.slot = t → e.hash = h → e.key ≠ key) : s.find t h key = none :=
  find_none fun k e hk he => by
    obtain ⟨a, b, c, d⟩ := (is_iff e t h key).1 he
    exact hn e (List.mem_of_getElem? hk) a b c d
theorem evac_size (need now : Nat) (s : Sg) (row : Nat) : (Sg.evac need now s row).size = s.size := by
  refine Sg.evac_ind (motive := fun s row => (Sg.evac need now s row).size = s.size) need now ?_ ?_ ?_ ?_ ?_ s row
  · intro s row h; rw [Sg.evac_full h]
  · intro s row h hl; rw [Sg.evac_nil hl]
  · intro s row e l h hl hg ih; rw [Sg.evac_gone h hl hg, ih]; rfl
  · intro s row e l h hl hg hk ih; rw [Sg.evac_keep h hl hg hk, ih]; rfl
  · intro s row e l h hl hg hk ih; rw [Sg.evac_drop h hl hg hk, ih]; unfold Sg.dropS; split <;> rfl
theorem evac_sub (need now : Nat) (s : Sg) (row : Nat) : ∀ e ∈ (Sg.evac need now s row).list, e ∈ s.list := by
  refine Sg.evac_ind (motive := fun s row => ∀ e ∈ (Sg.evac need now s row).list, e ∈ s.list) need now ?_ ?_ ?_ ?_ ?_ s row
  · intro s row h; rw [Sg.evac_full h]; exact fun e he => he
  · intro s row h hl; rw [Sg.evac_nil hl]; exact fun e he => he
  · intro s row e l h hl hg ih a ha
    rw [Sg.evac_gone h hl hg] at ha
    rw [hl]; exact List.mem_cons_of_mem _ (ih a ha)
  · intro s row e l h hl hg hk ih a ha
    rw [Sg.evac_keep h hl hg hk] at ha
    have h2 : a ∈ l ++ [e] := ih a ha
    rw [hl]; simpa [or_comm] using h2
  · intro s row e l h hl hg hk ih a ha
    rw [Sg.evac_drop h hl hg hk] at ha
    have := ih a ha
    rw [Sg.dropS_list] at this
    rw [hl]; exact List.mem_cons_of_mem _ this
theorem evac_free (need now : Nat) (s : Sg) (row : Nat) (hn : need ≤ s.size) : need ≤ (Sg.evac need now s row).free := by
  refine Sg.evac_ind (motive := fun s row => need ≤ s.size → need ≤ (Sg.evac need now s row).free) need now ?_ ?_ ?_ ?_ ?_ s row hn
  · intro s row h _; rw [Sg.evac_full h]; exact h
  · intro s row h hl hn; exact absurd (show need ≤ s.free by unfold Sg.free; rw [hl]; exact hn) h
  · intro s row e l h hl hg ih hn; rw [Sg.evac_gone h hl hg]; exact ih hn
  · intro s row e l h hl hg hk ih hn; rw [Sg.evac_keep h hl hg hk]; exact ih hn
  · intro s row e l h hl hg hk ih hn; rw [Sg.evac_drop h hl hg hk]; exact ih (by unfold Sg.dropS; split <;> exact hn)
theorem evac_find (need now : Nat) (s : Sg) (row t h : Nat) (key : List UInt8) (hf : s.find t h key = none) : (Sg.evac need now s row).find t h key = none :=
  find_none' fun e he => none_of_find hf e (evac_sub need now s row e he)

set_option maxHeartbeats 200000 in
/-- A new entry. -/
theorem Held.add {N : Nat} {s : Sg} {x : Sm} (H : Held N s x) {e : En} (hg : e.gone = false) (hok : En.ok e) (hfree : Sg.used s.list + e.len ≤ s.size) {ps : List Pt} (hps : x.L[e.slot]? = some ps) {j : Nat} (hj : j ≤ ps.length)
    (hf : s.find e.slot e.hash e.key = none) {pad : List UInt8} (hpad : pad.length = e.room - e.value.length) {c' sb' : Nat} {cs' : List Go.Value} (hsl : Slots (x.h.ins e.slot ps.length c' sb') cs' (x.L.set e.slot (ps.insertIdx j (En.pt e x.r.e)))) (hc : c' ≤ 8192) (hN : N + e.len ≤ 1152921504606846976) :
    Held (N + 4096) { s with list := s.list ++ [e] } { x with r := x.r.puts (En.hdr e ++ e.key ++ e.value ++ pad), W := last s.size (x.W ++ (En.hdr e ++ e.key ++ e.value ++ pad)), h := { x.h.ins e.slot ps.length c' sb' with tt := x.h.tt + e.access, tc := x.h.tc + 1, vac := x.h.vac - e.len }, cs := cs', L := x.L.set e.slot (ps.insertIdx j (En.pt e x.r.e)) } := by
  obtain ⟨n1, n2, n3, n4, n5, n6, n7, n8, n9, n10⟩ := H.nums
  obtain ⟨a1, a2, a3, a4, a5, a6, a7⟩ := H.lim
  have g := H.geo
  have hsz := H.size
  have h24 := En.hdr_length e
  have hel : e.len = 24 + e.key.length + e.room := rfl
  have hv := hok.2.1
  have hplen : (En.hdr e ++ e.key ++ e.value ++ pad).length = e.len := by simp only [List.length_append]; omega
  obtain ⟨P, hP⟩ : ∃ P, En.hdr e ++ e.key ++ e.value ++ pad = P := ⟨_, rfl⟩
  rw [hP] at hplen ⊢
  have hsize : x.r.size = s.size := g.size
  have hh := g.snug.has
  have hle := hh.le
  have hfit := hh.fit
  have hlen := hh.len
  unfold Ri.len at hfit hlen
  have r1 := Ri.puts_has P hh
  rw [hsize] at r1
  have r2 := Ri.puts_b P x.r hfit
  have r3 := Ri.puts_e P x.r
  rw [hplen] at r2 r3
  have r4 : (x.r.puts P).data.length = x.r.data.length := Ri.puts_size P x.r
  obtain ⟨r', hr'⟩ : ∃ r', x.r.puts P = r' := ⟨_, rfl⟩
  rw [hr'] at r1 r2 r3 r4 ⊢
  have hb : r'.b = x.r.b + (x.W.length + e.len - s.size) := by rw [r2, hsize]; omega
  have g1 := g.added hg hok hfree hps hj (fun i a ha b1 b2 b3 => none_of_find hf a (List.mem_of_getElem? ha) b1 b2 b3) hpad (by rw [hP]; exact r1) hb r3 (by omega) r4 hsl hc (sb' := []) (m' := 0)
  rw [hP] at g1
  obtain ⟨W', hW'⟩ : ∃ W', last s.size (x.W ++ P) = W' := ⟨_, rfl⟩
  rw [hW'] at g1 ⊢
  have g2 := g1.head (h' := { x.h.ins e.slot ps.length c' sb' with tt := x.h.tt + e.access, tc := x.h.tc + 1, vac := x.h.vac - e.len }) rfl rfl
  refine ⟨g2, ⟨n1, n2, ?_, ?_, ?_, n6, n7, n8, n9, ?_⟩, hsz, ?_⟩
  · show x.h.ec + 1 = (Sg.count (s.list ++ [e]) : Nat)
    rw [n3]; unfold Sg.count; rw [List.filter_append, List.length_append]
    simp [hg]
  · show x.h.tc + 1 = ((s.list ++ [e]).length : Nat)
    rw [n4]; simp
  · show x.h.tt + e.access = (Sg.times (s.list ++ [e]) : Nat)
    rw [n5, times_append]
    show _ = ((Sg.times s.list + (e.access + 0) : Nat) : Int)
    omega
  · show x.h.vac - e.len = (s.size : Int) - (Sg.used (s.list ++ [e]) : Nat)
    rw [n10, used_append]
    show _ = (s.size : Int) - ((Sg.used s.list + (e.len + 0) : Nat) : Int)
    omega
  · exact ⟨by show s.missed ≤ _; omega, by show s.hit ≤ _; omega, by show s.evacuated ≤ _; omega, by show s.expired ≤ _; omega, by show s.over ≤ _; omega, by show s.touched ≤ _; omega, by show r'.e ≤ _; rw [r3]; omega⟩
end Go.Proofs.YtbklhnpnkinadaaDoor
end
section
namespace Go.Proofs.YtbklhnpnkinadaaDoor
open Go Go.RowKit Go.Vil
set_option linter.unusedSimpArgs false
set_option linter.unusedVariables false
set_option maxRecDepth 100000

set_option maxHeartbeats 6400000 in
theorem ringMoveA (q m : Nat) (T : TypeId) (r : Ri) (W sl : List UInt8) (k n : Nat) (post : List Value) (z : Int) (w : World) (hz : z = r.b + k)
    (hM : Mem w (rMem q m T r sl post)) (h : Snug r W (r.data ++ sl).length) (hk : k + n ≤ W.length) (hA : r.at' k ≤ r.ix) :
    Calls Tryd.prog 53 #[.pointer (some ⟨q, 0, none⟩), .int .i64 z, .int .i64 n] w fun e w' =>
      e = .returned (.int .i64 r.e) ∧ St w [q, m] w' (rMem q m T (r.puts ((W.drop k).take n)) sl post) := by
  subst hz
  have S : St w [q, m] w [rHead q m T r.b r.e r.data.length (r.data ++ sl).length r.ix post, rBlk m r.data sl] := St.start hM
  clear hM
  have hsn := hidden h
  obtain ⟨hh, h2, h3, h4⟩ := h
  have h5 := hh.le
  have h6 := hh.len
  have h7 := hh.fit
  have h8 := hh.ix
  have hat := Ri.at_lt hh k
  have hsz : r.size = r.data.length := rfl
  have hle : r.len = r.e - r.b := rfl
  have hk2 : r.b + k + n ≤ r.e := by omega
  have hb1 : decide ((r.e : Int) < (r.b : Int) + (k : Int) + (n : Int)) = false := decide_eq_false (by omega)
  have hpl : ((W.drop k).take n).length = n := by rw [List.length_take, List.length_drop]; omega
  have hn3 : n ≤ r.data.length := by omega
  have hlow := @Ri.evac_low r W hh k n hk
  have hhigh := @Ri.evac_high r W hh k n hk
  have hsame := @Ri.moved_same r W hh k n hk
  have hone := Ri.puts_one r ((W.drop k).take n)
  have htwo := Ri.puts_two r ((W.drop k).take n) (by omega) h8
  have hpin := @Ri.piece_in r W hh sl k n hk
  have htsrc := fun ha => @Ri.evac_two_src r W hh k n hk ha sl
  have hwrap := @Ri.evac_wrap r W hh k n hk
  rw [hpl] at hone htwo
  rw [hsz] at h7 h8 hat hhigh hsame hone htwo hpin htsrc hwrap
  generalize hP : (W.drop k).take n = p at *
  have hcl : (r.data ++ sl).length = r.data.length + sl.length := List.length_append
  unfold rMem
  have hbE := hidden (show (r.puts p).b = max r.b (r.e + n - r.data.length) by rw [Ri.puts_b p r (by omega), hpl]; rfl)
  have heE := hidden (show (r.puts p).e = r.e + n by rw [Ri.puts_e, hpl])
  have hdl : (r.puts p).data.length = r.data.length := Ri.puts_size p r
  have hdc : ((r.puts p).data ++ sl).length = (r.data ++ sl).length := by rw [List.length_append, hdl, List.length_append]
  rw [hdl, hdc]
  generalize hC : (r.data ++ sl).length = C at *
  have hlen : r.e - r.b ≤ r.data.length := by omega
  have hone := hidden (fun h => hone h (by omega))
  replace htwo := hidden htwo
  replace hlow := hidden hlow
  replace hhigh := hidden hhigh
  replace hsame := hidden hsame
  replace hpin := hidden hpin
  replace htsrc := hidden htsrc
  replace hwrap := hidden hwrap
  replace hpl := hidden hpl
  replace hP := hidden hP
  replace hcl := hidden hcl
  replace hh := hidden hh
  replace hk := hidden hk
  clear hle hsz hdl hdc h6
  refine Calls.cps ?_; intro R hR
  go_enter Tryd.func53, Tryd.ntmps53
  go_wp2_with ((refine wpList_ld S ?_))
  refine Calls.mono (ringOff q m T r W C k post _ _ rfl S.sel1 hsn.out (by have := hk.out; omega)) ?_
  rintro e w2 ⟨rfl, C1⟩
  have S2 := S.call C1; clear S C1; simp only [List.cons_append, List.nil_append] at S2; have S := S2; clear S2
  generalize r.at' k = at0 at *
  go_upto_if 36 with ((refine wpList_ld S ?_))
  go_cut [] (fun w' => St w [q, m] w' [rHead q m T r.b r.e r.data.length C (r.puts p).ix post, rBlk m (r.puts p).data sl])
  case first =>
    by_cases c1 : at0 = r.ix
    · have hs := hsame.out c1
      have hbb : ((at0 : Int) == (r.ix : Int)) = true := by simp [c1]
      have hr1 : (r.puts p).data = r.data := by rw [hs]
      have hr2 : (r.puts p).ix = (r.ix + n) % r.data.length := by rw [hs]
      clear hs
      by_cases c2 : r.data.length ≤ r.ix + n
      · have hm : (r.ix + n) % r.data.length = r.ix + n - r.data.length := by
          rw [Nat.mod_eq_sub_mod c2, Nat.mod_eq_of_lt (by omega)]
        rw [hm] at hr2
        replace hr1 := hidden hr1
        replace hr2 := hidden hr2
        replace c1 := hidden c1
        clear hm
        go_wp2_with (first | ((with_reducible show Code.wp _ (Code.region _ _ true) _ _ _); refine St.regionLast S ?_; (repeat (first | (go_big_quiet_step (fail)) | (go_big_quiet_want; (refine quiet_ld S ?_); go_big_quiet_on))); refine wpQuiet_nil ?_; clear S; intro wq S) | (refine wpList_ld S ?_) | (refine wpList_st S ?_; (clear S; intro ws S)))
        go_meet
        rw [hr1.out, hr2.out]
        exact S.head rfl rfl (by omega)
      · have hm : (r.ix + n) % r.data.length = r.ix + n := Nat.mod_eq_of_lt (by omega)
        rw [hm] at hr2
        replace hr1 := hidden hr1
        replace hr2 := hidden hr2
        replace c1 := hidden c1
        clear hm
        go_wp2_with (first | ((with_reducible show Code.wp _ (Code.region _ _ true) _ _ _); refine St.regionLast S ?_; (repeat (first | (go_big_quiet_step (fail)) | (go_big_quiet_want; (refine quiet_ld S ?_); go_big_quiet_on))); refine wpQuiet_nil ?_; clear S; intro wq S) | (refine wpList_ld S ?_) | (refine wpList_st S ?_; (clear S; intro ws S)))
        go_meet
        rw [hr1.out, hr2.out]
        exact S.head rfl rfl (by omega)
    · have hbb : ((at0 : Int) == (r.ix : Int)) = false := by simp; omega
      have c2 : at0 < r.ix := by omega
      · have hl1 := hlow.out c2
        have hbb2 : decide ((at0 : Int) < (r.ix : Int)) = true := decide_eq_true (by omega)
        by_cases c3 : r.data.length ≤ r.ix + n
        · have hw := htwo.out c3
          have hr1 : (r.puts p).data = splice (splice r.data r.ix (p.take (r.data.length - r.ix))) 0 (p.drop (r.data.length - r.ix)) := by rw [hw]
          have hr2 : (r.puts p).ix = r.ix + n - r.data.length := by rw [hw]
          clear hw
          replace hr1 := hidden hr1
          replace hr2 := hidden hr2
          have hp1 : (p.take (r.data.length - r.ix)).length = r.data.length - r.ix := by rw [List.length_take]; have := hpl.out; omega
          have hp2 : (p.drop (r.data.length - r.ix)).length = n - (r.data.length - r.ix) := by rw [List.length_drop]; have := hpl.out; omega
          go_upto_region 9 with ((refine wpList_ld S ?_))
          refine St.regionC S [rHead q m T r.b r.e r.data.length C r.ix post] 20 [([0, 1, 2, 3, 4, 5, 6, 7, 8, 9, 10, 11, 12, 13, 14, 15, 16, 17], 18)] [19] ?_
          clear S; intro wr Cr S Sc; simp only [walkC, pick, List.getElem?_cons_succ, List.getElem?_cons_zero, List.drop_succ_cons, List.drop_zero]
          (repeat (first | (go_big_quiet_want; (first | (refine quiet_slcB r.ix ?_; rw [cutN_low (by omega), Nat.zero_add]) | (refine quiet_slcBH at0 (at0 + n) ?_; rw [cutN_low (by omega), Nat.zero_add, Nat.add_sub_cancel_left])); go_big_quiet_on) | (first | (go_big_quiet_step (fail)) | (go_big_quiet_want; (refine quiet_ld Sc ?_); go_big_quiet_on))))
          refine wpQuiet_nil ?_
          have hsrc : Src wr 1 (.slice (some ⟨m, at0, none⟩) (n) (C - at0)) (n) (u8s (p)) := by
            refine St.srcIn (b := m) (o := at0) (n := n) (l := r.data ++ sl) S (by repeat (first | exact Pull.head | apply Pull.tail)) ?_ ?_
            · rw [List.length_append]; omega
            · exact hpin.out (by omega)
          refine wpList_copyM S hsrc (r.data.length - r.ix) ?_ (hfit := by rw [List.length_append]; omega)
          clear S hsrc; intro ws S
          refine ⟨(S.sel (by repeat (first | exact Sel.nil | (apply Sel.cons; (repeat (first | exact Pull.head | apply Pull.tail)))))).inSt _, ?_⟩; (repeat ((go_big_quiet_step (fail)))); refine wpQuiet_nil ?_
          rw [splice_app _ _ _ _ (by rw [hp1]; omega)] at S
          have ht := htsrc.out c2 c3
          rw [splice_app _ _ _ _ (by rw [hp1]; omega)] at ht
          have hD1 : (splice r.data r.ix (p.take (r.data.length - r.ix))).length = r.data.length := splice_length _ _ _ (by rw [hp1]; omega)
          generalize splice r.data r.ix (p.take (r.data.length - r.ix)) = D1 at *
          replace ht := hidden ht
          replace hp1 := hidden hp1
          replace hp2 := hidden hp2
          have hcle := hcl.out
          have hbb3 : ((r.ix : Int) + ((r.data.length - r.ix : Nat) : Int) == (r.data.length : Int)) = true := by simp; omega
          go_upto_region 12 with (first | ((with_reducible show Code.wp _ (Code.region _ _ true) _ _ _); refine St.regionLast S ?_; (repeat (first | (go_big_quiet_step (fail)) | (go_big_quiet_want; (refine quiet_ld S ?_); go_big_quiet_on))); refine wpQuiet_nil ?_; clear S; intro wq S) | (refine wpList_ld S ?_) | (refine wpList_st S ?_; (clear S; intro ws S)))
          refine St.regionC S [rHead q m T r.b r.e r.data.length C ((r.ix : Int) + ((r.data.length - r.ix : Nat) : Int)) post] 19 [([0, 1, 2, 3, 4, 5, 6, 7, 8, 9, 10, 11, 12, 13, 14, 15], 16)] [17, 18] ?_
          clear S; intro wr Cr S Sc; simp only [walkC, pick, List.getElem?_cons_succ, List.getElem?_cons_zero, List.drop_succ_cons, List.drop_zero]
          (repeat (first | (go_big_quiet_want; ((refine quiet_slcBH (at0 + (r.data.length - r.ix)) (at0 + n) ?_; rw [cutN_low (by omega), Nat.zero_add, show at0 + n - (at0 + (r.data.length - r.ix)) = n - (r.data.length - r.ix) by omega])); go_big_quiet_on) | (first | (go_big_quiet_step (fail)) | (go_big_quiet_want; (refine quiet_ld Sc ?_); go_big_quiet_on))))
          refine wpQuiet_nil ?_
          have hsrc : Src wr 1 (.slice (some ⟨m, at0 + (r.data.length - r.ix), none⟩) (n - (r.data.length - r.ix)) (C - (at0 + (r.data.length - r.ix)))) (n - (r.data.length - r.ix)) (u8s (p.drop (r.data.length - r.ix))) := by
            refine St.srcIn (b := m) (o := at0 + (r.data.length - r.ix)) (n := n - (r.data.length - r.ix)) (l := D1 ++ sl) S (by repeat (first | exact Pull.head | apply Pull.tail)) ?_ ?_
            · rw [List.length_append]; omega
            · exact ht.out
          refine wpList_copyM S hsrc (n - (r.data.length - r.ix)) ?_ (hfit := by rw [List.length_append]; omega)
          clear S hsrc; intro ws S
          refine ⟨(S.sel (by repeat (first | exact Sel.nil | (apply Sel.cons; (repeat (first | exact Pull.head | apply Pull.tail)))))).inSt _, ?_⟩; (repeat ((go_big_quiet_step (fail)))); refine wpQuiet_nil ?_
          rw [List.take_of_length_le (Nat.le_of_eq hp2.out), splice_app _ _ _ _ (by rw [hp2.out]; omega), ← hr1.out] at S
          go_wp2_with ((refine wpList_st S ?_; (clear S; intro ws S)))
          go_meet
          exact S.head rfl rfl (by have := hr2.out; omega)
        · have hw := hone (by omega)
          have hr1 : (r.puts p).data = splice r.data r.ix p := by rw [hw]
          have hr2 : (r.puts p).ix = r.ix + n := by rw [hw]
          clear hw
          replace hr1 := hidden hr1
          replace hr2 := hidden hr2
          go_upto_region 9 with ((refine wpList_ld S ?_))
          refine St.regionC S [rHead q m T r.b r.e r.data.length C r.ix post] 20 [([0, 1, 2, 3, 4, 5, 6, 7, 8, 9, 10, 11, 12, 13, 14, 15, 16, 17], 18)] [19] ?_
          clear S; intro wr Cr S Sc; simp only [walkC, pick, List.getElem?_cons_succ, List.getElem?_cons_zero, List.drop_succ_cons, List.drop_zero]
          (repeat (first | (go_big_quiet_want; (first | (refine quiet_slcB r.ix ?_; rw [cutN_low (by omega), Nat.zero_add]) | (refine quiet_slcBH at0 (at0 + n) ?_; rw [cutN_low (by omega), Nat.zero_add, Nat.add_sub_cancel_left])); go_big_quiet_on) | (first | (go_big_quiet_step (fail)) | (go_big_quiet_want; (refine quiet_ld Sc ?_); go_big_quiet_on))))
          refine wpQuiet_nil ?_
          have hsrc : Src wr 1 (.slice (some ⟨m, at0, none⟩) (n) (C - at0)) (n) (u8s (p)) := by
            refine St.srcIn (b := m) (o := at0) (n := n) (l := r.data ++ sl) S (by repeat (first | exact Pull.head | apply Pull.tail)) ?_ ?_
            · rw [List.length_append]; omega
            · exact hpin.out (by omega)
          refine wpList_copyM S hsrc (n) ?_ (hfit := by rw [List.length_append]; omega)
          clear S hsrc; intro ws S
          refine ⟨(S.sel (by repeat (first | exact Sel.nil | (apply Sel.cons; (repeat (first | exact Pull.head | apply Pull.tail)))))).inSt _, ?_⟩; (repeat ((go_big_quiet_step (fail)))); refine wpQuiet_nil ?_
          rw [List.take_of_length_le (Nat.le_of_eq hpl.out), splice_app _ _ _ _ (by rw [hpl.out]; omega), ← hr1.out] at S
          have hbb3 : ((r.ix : Int) + (n : Int) == (r.data.length : Int)) = false := by simp; omega
          go_wp2_with (first | ((with_reducible show Code.wp _ (Code.region _ _ true) _ _ _); refine St.regionLast S ?_; (repeat (first | (go_big_quiet_step (fail)) | (go_big_quiet_want; (refine quiet_ld S ?_); go_big_quiet_on))); refine wpQuiet_nil ?_; clear S; intro wq S) | (refine wpList_ld S ?_) | (refine wpList_st S ?_; (clear S; intro ws S)))
          go_meet
          exact S.head rfl rfl (by have := hr2.out; omega)
  case rest =>
    have S := hcut
    clear hcut
    by_cases c1 : r.b < r.e + n - r.data.length
    · go_wp2_with (first | ((with_reducible show Code.wp _ (Code.region _ _ true) _ _ _); refine St.regionLast S ?_; (repeat (first | (go_big_quiet_step (fail)) | (go_big_quiet_want; (refine quiet_ld S ?_); go_big_quiet_on))); refine wpQuiet_nil ?_; clear S; intro wq S) | (refine wpList_ld S ?_) | (refine wpList_st S ?_; (clear S; intro ws S)))
      ((first | go_ret | go_ret2 | go_ret3 | go_end0 | skip); refine hR.out _ _ ?_)
      exact ⟨rfl, by rw [hbE.out, heE.out]; exact S.head (by omega) (by omega) rfl⟩
    · go_wp2_with (first | ((with_reducible show Code.wp _ (Code.region _ _ true) _ _ _); refine St.regionLast S ?_; (repeat (first | (go_big_quiet_step (fail)) | (go_big_quiet_want; (refine quiet_ld S ?_); go_big_quiet_on))); refine wpQuiet_nil ?_; clear S; intro wq S) | (refine wpList_ld S ?_) | (refine wpList_st S ?_; (clear S; intro ws S)))
      ((first | go_ret | go_ret2 | go_ret3 | go_end0 | skip); refine hR.out _ _ ?_)
      exact ⟨rfl, by rw [hbE.out, heE.out]; exact S.head (by omega) (by omega) rfl⟩
end Go.Proofs.YtbklhnpnkinadaaDoor
end
