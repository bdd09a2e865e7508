/- The ring buffer of the library: what is small; a ring made smaller. · A segment's counts are set to nothing; it is cleared. · A segment is cleared. · What is counted of a segment. · An entry of a segment is touched. · The hash XXH64 over a list of bytes, as both texts reckon it. · The hash XXH64 by the library. · The hash of keys by the library. · The ring buffer of the library: what is refused. · An operation of a segment: what it is given, and how it ends. -/
import Derived.Test.YtbklhnpnkinadaaDoorK2
import Derived.Test.YtbklhnpnkinadaaDoorK3
import Derived.Deep.CutRange
import Derived.Deep.DeepCutAuto
section
namespace Go.Proofs.YtbklhnpnkinadaaDoor
open Go Go.RowKit Go.Vil
set_option linter.unusedSimpArgs false
set_option linter.unusedVariables false
set_option maxRecDepth 100000

theorem ringBegin (q m : Nat) (T : TypeId) (b e : Int) (N C : Nat) (ix : Int) (post : List Value) (w : World) (hM : Mem w [rHead q m T b e N C ix post]) :
    Calls Tryd.prog 58 #[.pointer (some ⟨q, 0, none⟩)] w fun e' w' => e' = .returned (.int .i64 b) ∧ St w [q] w' [rHead q m T b e N C ix post] := by
  have S : St w [q] w [rHead q m T b e N C ix post] := St.start hM
  clear hM
  refine Calls.cps ?_; intro R hR
  go_enter Tryd.func58, Tryd.ntmps58
  go_wp2_with ((refine wpList_ld S ?_))
  ((first | go_ret | go_ret2 | go_ret3 | go_end0 | skip); refine hR.out _ _ ?_)
  exact ⟨rfl, S⟩
theorem ringEnd (q m : Nat) (T : TypeId) (b e : Int) (N C : Nat) (ix : Int) (post : List Value) (w : World) (hM : Mem w [rHead q m T b e N C ix post]) :
    Calls Tryd.prog 59 #[.pointer (some ⟨q, 0, none⟩)] w fun e' w' => e' = .returned (.int .i64 e) ∧ St w [q] w' [rHead q m T b e N C ix post] := by
  have S : St w [q] w [rHead q m T b e N C ix post] := St.start hM
  clear hM
  refine Calls.cps ?_; intro R hR
  go_enter Tryd.func59, Tryd.ntmps59
  go_wp2_with ((refine wpList_ld S ?_))
  ((first | go_ret | go_ret2 | go_ret3 | go_end0 | skip); refine hR.out _ _ ?_)
  exact ⟨rfl, S⟩
theorem ringSize (q m : Nat) (T : TypeId) (b e : Int) (N C : Nat) (ix : Int) (post : List Value) (w : World) (hM : Mem w [rHead q m T b e N C ix post]) (hN : N ≤ 1073741824) :
    Calls Tryd.prog 60 #[.pointer (some ⟨q, 0, none⟩)] w fun e' w' => e' = .returned (.int .i64 N) ∧ St w [q] w' [rHead q m T b e N C ix post] := by
  have S : St w [q] w [rHead q m T b e N C ix post] := St.start hM
  clear hM
  refine Calls.cps ?_; intro R hR
  go_enter Tryd.func60, Tryd.ntmps60
  go_wp2_with ((refine wpList_ld S ?_))
  ((first | go_ret | go_ret2 | go_ret3 | go_end0 | skip); refine hR.out _ _ ?_)
  exact ⟨rfl, S⟩
theorem ringReset (q m : Nat) (T : TypeId) (b e z : Int) (N C : Nat) (ix : Int) (post : List Value) (w : World) (hM : Mem w [rHead q m T b e N C ix post]) :
    Calls Tryd.prog 56 #[.pointer (some ⟨q, 0, none⟩), .int .i64 z] w fun e' w' => e' = .returned (.tuple #[]) ∧ St w [q] w' [rHead q m T z z N C 0 post] := by
  have S : St w [q] w [rHead q m T b e N C ix post] := St.start hM
  clear hM
  refine Calls.cps ?_; intro R hR
  go_enter Tryd.func56, Tryd.ntmps56
  go_wp2_with ((refine wpList_st S ?_; (clear S; intro ws S)))
  ((first | go_ret | go_ret2 | go_ret3 | go_end0 | skip); refine hR.out _ _ ?_)
  exact ⟨rfl, S⟩
set_option maxHeartbeats 800000 in
theorem ringDump (q m : Nat) (T : TypeId) (b e : Int) (l sl : List UInt8) (C : Nat) (ix : Int) (post : List Value) (w : World) (hM : Mem w [rHead q m T b e l.length C ix post, rBlk m l sl]) (hN : l.length ≤ 1073741824) :
    Calls Tryd.prog 57 #[.pointer (some ⟨q, 0, none⟩)] w fun e' w' => ∃ nb, e' = .returned (.slice (some ⟨nb, 0, none⟩) l.length l.length) ∧ St w [q, m] w' [.blk nb (.cells (u8s l).toArray 5 (0, 0)), rHead q m T b e l.length C ix post, rBlk m l sl] := by
  have S : St w [q, m] w [rHead q m T b e l.length C ix post, rBlk m l sl] := St.start hM
  clear hM
  obtain ⟨N, hNl⟩ : ∃ N, l.length = N := ⟨_, rfl⟩
  rw [hNl] at hN S ⊢
  replace hNl := hidden hNl
  refine Calls.cps ?_; intro R hR
  go_enter Tryd.func57, Tryd.ntmps57
  go_upto_region 2 with (first | (refine wpList_mk8 (ln := N) (cn := N) S ?_; (clear S; intro nb wb hnb S)) | (refine wpList_ld S ?_))
  have hsrc : Src wb 1 (.slice (some ⟨m, 0, none⟩) N C) N (u8s l) := by
    refine St.srcIn (b := m) (o := 0) (n := N) (l := l ++ sl) S (by repeat (first | exact Pull.head | apply Pull.tail)) ?_ ?_
    · have := hNl.out; rw [List.length_append]; omega
    · have := hNl.out; rw [List.drop_zero, List.take_append_of_le_length (by omega), List.take_of_length_le (by omega)]
  go_wp2_with (first | (refine wpList_copyM S hsrc N ?_ (hfit := by rw [List.length_replicate]; omega); (clear S; intro ws S)) | (refine wpList_ld S ?_))
  ((first | go_ret | go_ret2 | go_ret3 | go_end0 | skip); refine hR.out _ _ ?_)
  rw [List.take_of_length_le (Nat.le_of_eq hNl.out), splice_all _ _ (by rw [List.length_replicate]; exact hNl.out)] at S
  exact ⟨nb, rfl, S⟩

set_option maxHeartbeats 800000 in
theorem newRing (n : Nat) (b : Int) (w : World) (hn : n ≤ 1073741824) :
    Calls Tryd.prog 39 #[.int .i64 n, .int .i64 b] w fun e' w' => ∃ m, e' = .returned (.agg #[.int .i64 b, .int .i64 b, .slice (some ⟨m, 0, none⟩) n n, .int .i64 0]) ∧ St w [] w' [.blk m (.cells (u8s (List.replicate n 0)).toArray 5 (0, 0))] := by
  have S := St.begin w
  refine Calls.cps ?_; intro R hR
  go_enter Tryd.func39, Tryd.ntmps39
  go_wp2_with (first | (refine wpList_mk8 (ln := n) (cn := n) S ?_; (clear S; intro mb wb hmb S)) | (refine wpList_st S ?_; (clear S; intro ws S)) | (refine wpList_alloc S ?_; (clear S; intro nb wb hnb S)))
  refine Calls.mono (ringReset nb mb 85 0 0 b n n 0 [] _ S.sel1) ?_
  rintro e w2 ⟨rfl, C⟩
  have S2 := S.call C; clear S C; simp only [List.cons_append, List.nil_append] at S2; have S := S2; clear S2
  go_wp2_with (fail)
  refine ret_of (results_c S) ?_
  refine hR.out _ _ ?_
  exact ⟨_, rfl, S.sel (by repeat (first | exact Sel.nil | (apply Sel.cons; (repeat (first | exact Pull.head | apply Pull.tail)))))⟩
theorem zzRing (oa : Option Addr) (n c : Nat) (b e ix : Int) (w : World) :
    Calls Tryd.prog 34 #[.slice oa n c, .int .i64 b, .int .i64 e, .int .i64 ix] w fun e' w' => e' = .returned (.agg #[.int .i64 b, .int .i64 e, .slice oa n c, .int .i64 ix]) ∧ St w [] w' [] := by
  have S := St.begin w
  refine Calls.cps ?_; intro R hR
  go_enter Tryd.func34, Tryd.ntmps34
  go_wp2_with (first | (refine wpList_alloc S ?_; (clear S; intro nb wb hnb S)) | (refine wpList_stA S ?_; (clear S; intro ws S; simp only [splice, List.take_zero, List.take_succ_cons, List.drop_succ_cons, List.drop_zero, List.drop_nil, List.length_cons, List.length_nil, Nat.reduceAdd, Nat.zero_add, List.nil_append, List.cons_append, List.append_nil] at S)))
  refine ret_of (results_c S) ?_
  refine hR.out _ _ ?_
  exact ⟨rfl, S.sel (by repeat (first | exact Sel.nil | (apply Sel.cons; (repeat (first | exact Pull.head | apply Pull.tail)))))⟩
theorem zzRingParts (q m : Nat) (T : TypeId) (b e : Int) (N C : Nat) (ix : Int) (post : List Value) (w : World) (hM : Mem w [rHead q m T b e N C ix post]) :
    Calls Tryd.prog 36 #[.pointer (some ⟨q, 0, none⟩)] w fun e' w' => e' = .returned (.tuple #[.slice (some ⟨m, 0, none⟩) N C, .int .i64 b, .int .i64 e, .int .i64 ix]) ∧ St w [q] w' [rHead q m T b e N C ix post] := by
  have S : St w [q] w [rHead q m T b e N C ix post] := St.start hM
  clear hM
  refine Calls.cps ?_; intro R hR
  go_enter Tryd.func36, Tryd.ntmps36
  go_wp2_with (((with_reducible show Code.wp _ (Code.region _ _ true) _ _ _); refine St.regionLast S ?_; (repeat (first | (go_big_quiet_step (fail)) | (go_big_quiet_want; (refine quiet_ld S ?_); go_big_quiet_on))); refine wpQuiet_nil ?_; clear S; intro wq S))
  refine ret_of results_tttt ?_
  refine hR.out _ _ ?_
  exact ⟨rfl, S⟩
end Go.Proofs.YtbklhnpnkinadaaDoor
end
section
namespace Go.Proofs.YtbklhnpnkinadaaDoor
open Go Go.RowKit Go.Vil Go.ChangeShapes Go.WideShapes Go.ChangeAt
set_option linter.unusedSimpArgs false
set_option linter.unusedVariables false
set_option maxRecDepth 100000

set_option maxHeartbeats 1600000 in
theorem segReset (q : Nat) (T TB : TypeId) (N : Nat) (s : Sg) (x : Sm) (w : World) (H : Held N s x) (hM : Mem w (x.mem q T TB)) :
    Calls Tryd.prog 84 #[.pointer (some ⟨q, 0, none⟩)] w fun ex w' => ∃ (x' : Sm), ex = .returned (.tuple #[]) ∧ Held N { s with missed := 0, hit := 0, evacuated := 0, expired := 0, over := 0 } x' ∧ Stay x x' ∧ St w [q, x.m, x.h.sb] w' (x'.mem q T TB) := by
  have S : St w [q, x.m, x.h.sb] w (x.mem q T TB) := St.start hM
  clear hM
  replace H := hidden H
  refine Calls.cps ?_; intro R hR
  go_enter Tryd.func84, Tryd.ntmps84
  go_wp2_with (fail)
  obtain ⟨wa, hrun, S2⟩ := atStore S q 12 0
  clear S; have S := S2; clear S2
  rw [hrun]; clear hrun
  go_wp2_with (fail)
  obtain ⟨wa, hrun, S2⟩ := atStore S q 13 0
  clear S; have S := S2; clear S2
  rw [hrun]; clear hrun
  go_wp2_with (fail)
  obtain ⟨wa, hrun, S2⟩ := atStore S q 14 0
  clear S; have S := S2; clear S2
  rw [hrun]; clear hrun
  go_wp2_with (fail)
  obtain ⟨wa, hrun, S2⟩ := atStore S q 7 0
  clear S; have S := S2; clear S2
  rw [hrun]; clear hrun
  go_wp2_with (fail)
  obtain ⟨wa, hrun, S2⟩ := atStore S q 6 0
  clear S; have S := S2; clear S2
  rw [hrun]; clear hrun
  go_wp2_with fail
  ((first | go_ret | go_ret2 | go_ret3 | go_end0 | skip); refine hR.out _ _ ?_)
  exact ⟨{ x with h := { x.h with tev := 0, tex := 0, ov := 0, hit := 0, miss := 0 } }, rfl, H.out.reset, ⟨rfl, rfl, rfl, rfl⟩, S.sel (by repeat (first | exact Sel.nil | (apply Sel.cons; (repeat (first | exact Pull.head | apply Pull.tail)))))⟩

/-- Nothing is held. -/
theorem held_fresh (N size : Nat) (r : Ri) (m nb : Nat) (sl : List UInt8) (h : Hd) (cs : List Value) (tou : Nat) (h1 : 1 ≤ size) (hs : size ≤ 4096) (hr : r.data.length = size) (hb : r.b = 0) (he : r.e = 0) (hx : r.ix = 0) (hcs : cs.length = 1024) (ho : ∀ u ∈ cs, u.oneCell' = true)
    (hl : h.lens = List.replicate 256 0) (hc : h.cap = 1) (hn : h.miss = 0 ∧ h.hit = 0 ∧ h.ec = 0 ∧ h.tc = 0 ∧ h.tt = 0 ∧ h.tev = 0 ∧ h.tex = 0 ∧ h.ov = 0 ∧ h.tou = (tou : Int) ∧ h.vac = (size : Int)) (hN : tou ≤ N) :
    Held N { Sg.fresh size with touched := tou } ⟨m, r, [], sl, h, cs, List.replicate 256 []⟩ := by
  have hgo : Go.Vil.Ri.Has r [] := Ri.empty_has (by show 1 ≤ r.data.length; omega) (by omega) hx
  have hrep : ∀ (t : Nat) (ps : List Pt), (List.replicate 256 ([] : List Pt))[t]? = some ps → ps = [] := by
    intro t ps h
    rw [List.getElem?_replicate] at h
    split at h <;> simp_all
  have hmem : ∀ ps ∈ (List.replicate 256 ([] : List Pt)), ps = [] := fun ps h => (List.mem_replicate.1 h).2
  obtain ⟨n1, n2, n3, n4, n5, n6, n7, n8, n9, n10⟩ := hn
  refine ⟨⟨⟨hgo, by show r.e ≤ _; omega, by show r.data.length ≤ _; omega, by show r.data.length ≤ (r.data ++ sl).length; simp⟩, hr, by simp [Sg.fresh, Sg.used], by intro i e h; simp [Sg.fresh] at h, ⟨by simp, by rw [hl]; rfl, by rw [hcs, hc], fun ps h => by rw [hmem ps h]; simp, by rw [hc]; omega, by rw [hc]; omega, fun t ps h => by rw [hrep t ps h]; intro j p hj; simp at hj, fun ps h => by rw [hmem ps h]; intro i j a b _ ha; simp at ha, ho⟩, ?_, fun ps h => by rw [hmem ps h]; intro i j a b ha; simp at ha, ?_, by intro i j a b ha; simp [Sg.fresh] at ha, by show h.cap ≤ _; omega⟩, ⟨by simp [Sg.fresh, n1], by simp [Sg.fresh, n2], by simp [Sg.fresh, Sg.count, n3], by simp [Sg.fresh, n4], by simp [Sg.fresh, Sg.times, n5], by simp [Sg.fresh, n6], by simp [Sg.fresh, n7], by simp [Sg.fresh, n8], n9, by simp [Sg.fresh, Sg.used, n10]⟩, hs, ?_⟩
  · intro t ps h p
    rw [hrep t ps h]
    simp [Sg.fresh]
  · show ((List.replicate 256 ([] : List Pt)).map List.length).sum = 0
    simp
  · exact ⟨Nat.zero_le _, Nat.zero_le _, Nat.zero_le _, Nat.zero_le _, Nat.zero_le _, hN, by show r.e ≤ N; omega⟩
end Go.Proofs.YtbklhnpnkinadaaDoor
end
section
namespace Go.Proofs.YtbklhnpnkinadaaDoor
open Go Go.RowKit Go.Vil Go.ChangeShapes Go.WideShapes Go.ChangeAt
set_option linter.unusedSimpArgs false
set_option linter.unusedVariables false
set_option maxRecDepth 100000

set_option maxHeartbeats 3200000 in
theorem segClear (q : Nat) (T : TypeId) (N : Nat) (s : Sg) (x : Sm) (w : World) (H : Held N s x) (h1 : 1 ≤ s.size) (hM : Mem w (x.mem q T 155)) :
    Calls Tryd.prog 83 #[.pointer (some ⟨q, 0, none⟩)] w fun ex w' => ∃ (x' : Sm), ex = .returned (.tuple #[]) ∧ Held N { Sg.fresh s.size with touched := s.touched } x' ∧ x'.h.timer = x.h.timer ∧ x'.m = x.m ∧ St w [q, x.m, x.h.sb] w' (x'.mem q T 155) := by
  have S : St w [q, x.m, x.h.sb] w (x.mem q T 155) := St.start hM
  clear hM
  have hll := H.geo.slots.lens_len
  have hsz := H.geo.size
  have hsz2 := H.size
  have hdB : x.r.data.length ≤ 4096 := by omega
  replace hsz := hidden hsz
  replace H := hidden H
  refine Calls.cps ?_; intro R hR
  go_enter Tryd.func83, Tryd.ntmps83
  go_wp2_with ((refine wpList_ld S ?_))
  refine Calls.mono (ringReset q x.m T x.r.b x.r.e 0 x.r.data.length (x.r.data ++ x.sl).length x.r.ix x.h.post _ S.sel1) ?_
  rintro ex w2 ⟨rfl, C⟩
  have S2 := S.call C; clear S C; simp only [List.cons_append, List.nil_append] at S2; have S := S2; clear S2
  go_upto_region 3 with ((refine wpList_st S ?_; (clear S; intro ws S)))
  obtain ⟨D, hD⟩ : ∃ D, x.r.data.length = D := ⟨_, rfl⟩
  obtain ⟨C0, hC0⟩ : ∃ C0, (x.r.data ++ x.sl).length = C0 := ⟨_, rfl⟩
  rw [hD, hC0] at S
  rw [hD] at hdB ⊢
  replace hD := hidden hD
  replace hC0 := hidden hC0
  obtain ⟨K, hK⟩ : ∃ K : Hd, ({ x.h with vac := (D : Int) } : Hd) = K := ⟨_, rfl⟩
  have hKl : K.lens.length = 256 := by rw [← hK]; exact hll
  have S2 : St w [q, x.m, x.h.sb] ws [rHead q x.m T 0 0 D C0 0 K.post, rBlk x.m x.r.data x.sl] := by rw [← hK]; exact S.sel (by repeat (first | exact Sel.nil | (apply Sel.cons; (repeat (first | exact Pull.head | apply Pull.tail)))))
  clear S; have S := S2; clear S2
  replace hK := hidden hK
  have q2 : ((K.cells x.m 0 0 D C0 0).set 273 (.int .i32 1))[273]? = some (.int .i32 1) := by rw [List.getElem?_set, if_pos rfl, if_pos (by rw [Hd.long]; omega)]
  go_upto_region 6 with (first | (refine wpList_ld S ?_ (hi := q2)) | (refine wpList_mkC S ?_ (ln := 256) (cn := 256); (clear S; intro nb wb cs0 hnb hcs0 hone0 S)) | (refine wpList_stG S ?_ (hi := by first | (rw [Hd.long]; omega) | (rw [List.length_set, Hd.long]; omega)); (clear S; intro ws S)))
  rw [Hd.set_cap (K := 256) (v := 1) 1 (by decide) (by decide) hKl] at S
  replace hcs0 := hidden hcs0
  replace hone0 := hidden hone0
  clear q2
  have hz0 : Hid (∀ i, i < 0 → K.lens[i]? = some 0) := hidden (by intro i h; omega)
  go_loopg [3] 256 (fun g i wr => ∃ (j : Nat) (lens : List Nat), j ≤ 256 ∧ 256 - j ≤ g ∧ i = .int .i64 j ∧ lens.length = 256 ∧ Hid (∀ i, i < j → lens[i]? = some 0) ∧
    St w [q, x.m, x.h.sb] wr [.blk nb (.cells cs0.toArray 155 (0, 0)), rHead q x.m T 0 0 D C0 0 ({ K with cap := 1, sb := nb, lens := lens } : Hd).post, rBlk x.m x.r.data x.sl])
  case atStart => exact ⟨0, K.lens, by omega, by omega, rfl, hKl, hz0, S.sel (by repeat (first | exact Sel.nil | (apply Sel.cons; (repeat (first | exact Pull.head | apply Pull.tail)))))⟩
  case round =>
    obtain ⟨j, lens, hj1, hj2, rfl, hll2, hz, S⟩ := hrel
    clear hz0
    by_cases hlt : j < 256
    · go_wp2_with ((refine wpList_st S ?_ (hi := by rw [Hd.long]; show _ < 19 + lens.length; omega) (hc' := Hd.set_len (h := { K with cap := 1, sb := nb, lens := lens }) 0 rfl (by show j < lens.length; omega)); (clear S; intro ws S)))
      go_roundg (gk - 1)
      case measure => omega
      case rel =>
        refine ⟨j + 1, lens.set j 0, by omega, by omega, rfl, by rw [List.length_set]; exact hll2, hidden fun i hi => ?_, S⟩
        rw [List.getElem?_set]
        by_cases e : j = i
        · rw [if_pos e, if_pos (by omega)]
        · rw [if_neg e]; exact hz.out i (by omega)
    · obtain rfl : j = 256 := by omega
      go_wp2_with (fail)
      obtain ⟨wa, hrun, S2⟩ := atStore S q 7 0
      clear S; have S := S2; clear S2
      rw [hrun]; clear hrun
      go_wp2_with (fail)
      obtain ⟨wa, hrun, S2⟩ := atStore S q 6 0
      clear S; have S := S2; clear S2
      rw [hrun]; clear hrun
      go_wp2_with (fail)
      obtain ⟨wa, hrun, S2⟩ := atStore S q 8 0
      clear S; have S := S2; clear S2
      rw [hrun]; clear hrun
      go_wp2_with (fail)
      obtain ⟨wa, hrun, S2⟩ := atStore S q 9 0
      clear S; have S := S2; clear S2
      rw [hrun]; clear hrun
      go_wp2_with (fail)
      obtain ⟨wa, hrun, S2⟩ := atStore S q 10 0
      clear S; have S := S2; clear S2
      rw [hrun]; clear hrun
      go_wp2_with (fail)
      obtain ⟨wa, hrun, S2⟩ := atStore S q 12 0
      clear S; have S := S2; clear S2
      rw [hrun]; clear hrun
      go_wp2_with (fail)
      obtain ⟨wa, hrun, S2⟩ := atStore S q 13 0
      clear S; have S := S2; clear S2
      rw [hrun]; clear hrun
      go_wp2_with (fail)
      obtain ⟨wa, hrun, S2⟩ := atStore S q 14 0
      clear S; have S := S2; clear S2
      rw [hrun]; clear hrun
      go_wp2_with fail
      ((first | go_ret | go_ret2 | go_ret3 | go_end0 | skip); refine hR.out _ _ ?_)
      obtain ⟨n1, n2, n3, n4, n5, n6, n7, n8, n9, n10⟩ := H.out.nums
      have hlr : lens = List.replicate 256 0 := by
        apply List.ext_getElem?
        intro i
        rw [List.getElem?_replicate]
        by_cases e : i < 256
        · rw [if_pos e]; exact hz.out i e
        · rw [if_neg e]; exact List.getElem?_eq_none (by omega)
      have hKt : K.tou = x.h.tou := by rw [← hK.out]
      have hKv : K.vac = (D : Int) := by rw [← hK.out]
      have hKm : K.timer = x.h.timer := by rw [← hK.out]
      have hDs : D = s.size := by rw [← hD.out]; exact hsz.out
      refine ⟨⟨x.m, ⟨x.r.data, 0, 0, 0⟩, [], x.sl, { K with cap := 1, sb := nb, lens := lens, hit := 0, miss := 0, ec := 0, tc := 0, tt := 0, tev := 0, tex := 0, ov := 0 }, cs0, List.replicate 256 []⟩, rfl, ?_, hKm, rfl, ?_⟩
      · exact held_fresh N s.size ⟨x.r.data, 0, 0, 0⟩ x.m nb x.sl _ cs0 s.touched h1 hsz2 hsz.out rfl rfl rfl hcs0.out hone0.out hlr rfl ⟨rfl, rfl, rfl, rfl, rfl, rfl, rfl, rfl, hKt.trans n9, by rw [← hDs]; exact hKv⟩ H.out.lim.2.2.2.2.2.1
      · have S2 : St w [q, x.m, x.h.sb] _ [rHead q x.m T 0 0 D C0 0 ({ K with cap := 1, sb := nb, lens := lens, hit := 0, miss := 0, ec := 0, tc := 0, tt := 0, tev := 0, tex := 0, ov := 0 } : Hd).post, rBlk x.m x.r.data x.sl, .blk nb (.cells cs0.toArray 155 (0, 0))] := S.sel (by repeat (first | exact Sel.nil | (apply Sel.cons; (repeat (first | exact Pull.head | apply Pull.tail)))))
        rw [← hD.out, ← hC0.out] at S2
        exact S2
end Go.Proofs.YtbklhnpnkinadaaDoor
end
section
namespace Go.Proofs.YtbklhnpnkinadaaDoor
open Go Go.RowKit Go.Vil
set_option linter.unusedSimpArgs false
set_option linter.unusedVariables false
set_option maxRecDepth 100000

def counted (h : Hd) : List Value := [.int .i64 h.miss, .int .i64 h.hit, .int .i64 h.ec, .int .i64 h.tc, .int .i64 h.tt, .int .i64 h.tev, .int .i64 h.tex, .int .i64 h.ov, .int .i64 h.tou, .int .i64 h.vac]
set_option maxHeartbeats 3200000 in
theorem zzCounts (q : Nat) (T TB : TypeId) (x : Sm) (w : World) (hM : Mem w (x.mem q T TB)) :
    Calls Tryd.prog 71 #[.pointer (some ⟨q, 0, none⟩)] w fun e w' => e = .returned (.agg (counted x.h).toArray) ∧ St w [q, x.m, x.h.sb] w' (x.mem q T TB) := by
  have S : St w [q, x.m, x.h.sb] w (x.mem q T TB) := St.start hM
  clear hM
  refine Calls.cps ?_; intro R hR
  go_enter Tryd.func71, Tryd.ntmps71
  go_upto_region 1 with ((refine wpList_alloc S ?_; (clear S; intro nb wb hnb S)))
  refine St.regionG S 41 [] [0, 1, 2, 3, 4, 5, 6, 7, 8, 9, 10, 11, 12, 13, 14, 15, 16, 17, 18, 19, 20, 21, 22, 23, 24, 25, 26, 27, 28, 29, 30, 31, 32, 33, 34, 35, 36, 37, 38, 39, 40] ?_
  clear S; intro wr S; simp only [walkSt, pick, List.getElem?_cons_succ, List.getElem?_cons_zero, List.drop_succ_cons, List.drop_zero]
  (repeat (first | (go_big_quiet_step (fail)) | (go_big_quiet_want; (refine quiet_ld S ?_); go_big_quiet_on)))
  refine wpQuiet_nil ?_
  go_wp2_with ((refine wpList_stA S ?_; (clear S; intro ws S; simp only [splice, List.take_zero, List.take_succ_cons, List.drop_succ_cons, List.drop_zero, List.drop_nil, List.length_cons, List.length_nil, Nat.reduceAdd, Nat.zero_add, List.nil_append, List.cons_append, List.append_nil] at S)))
  refine ret_of (results_c S) ?_
  refine hR.out _ _ ?_
  exact ⟨rfl, S.sel (by repeat (first | exact Sel.nil | (apply Sel.cons; (repeat (first | exact Pull.head | apply Pull.tail)))))⟩
end Go.Proofs.YtbklhnpnkinadaaDoor
end
section
namespace Go.Proofs.YtbklhnpnkinadaaDoor
open Go Go.RowKit Go.Vil Go.ChangeShapes Go.WideShapes Go.ChangeAt
set_option linter.unusedSimpArgs false
set_option linter.unusedVariables false
set_option maxRecDepth 100000

def timed (now ends : Nat) (e : En) : En := { e with access := now, expire := ends }
/-- How an entry is touched. -/
inductive Tch (s : Sg) (t h now : Nat) (key : List UInt8) (sec : Int) (ev : Value) : Sg → Value → Prop
  | none : s.find t h key = none → Tch s t h now key sec ev s ev
  | ended (i : Nat) (e : En) : s.find t h key = some i → s.list[i]? = some e → Sg.ended e.expire now = true →
      Tch s t h now key sec ev { s.at' i gone' with expired := s.expired + 1, missed := s.missed + 1 } ev
  | there (i : Nat) (e : En) : s.find t h key = some i → s.list[i]? = some e → Sg.ended e.expire now = false →
      Tch s t h now key sec ev { s.at' i (timed now (Sg.ends now sec)) with touched := s.touched + 1 } .nilIface

set_option maxHeartbeats 3200000 in
theorem segTouch (q ck now : Nat) (T TB : TypeId) (N : Nat) (s : Sg) (x : Sm) (hash : Nat) (key : List UInt8) (kn kc : Nat) (ka : Option Addr) (ev : Value) (w : World) (H : Held N s x) (hM : Mem w (clk ck now :: x.mem q T TB)) (hnow : now ≤ 2147483648) (sec : Int) (hsec : -1152921504606846976 ≤ sec ∧ sec ≤ 1000000) (htm : x.h.timer = .iface 97 (.pointer (some ⟨ck, 0, none⟩))) (hpast : ∀ e ∈ s.list, e.access ≤ now) (hN : N ≤ 1152921504000000000) (hh : hash < 18446744073709551616)
    (hk : Src w 1 (.slice ka kn kc) kn (u8s key)) (hd : Off ka [ck, q, x.m, x.h.sb] (u8s key)) (hkc : kn ≤ kc) (hkm : kn ≤ 65535) (hE : GErr w [ck, q, x.m, x.h.sb] 4 ev) :
    Calls Tryd.prog 79 #[.pointer (some ⟨q, 0, none⟩), .slice ka kn kc, .int .u64 hash, .int .i64 sec] w fun ex w' => ∃ (s' : Sg) (x' : Sm) (v : Value), ex = .returned v ∧ Tch s (hash / 256 % 256) (hash / 65536 % 65536) now key sec ev s' v ∧ Held (N + 1) s' x' ∧ Stay x x' ∧
      St w [ck, q, x.m, x.h.sb] w' (clk ck now :: x'.mem q T TB) := by
  have S : St w [ck, q, x.m, x.h.sb] w (clk ck now :: x.mem q T TB) := St.start hM
  clear hM
  obtain ⟨t, htt⟩ : ∃ t, hash / 256 % 256 = t := ⟨_, rfl⟩
  obtain ⟨h, hth⟩ : ∃ h, hash / 65536 % 65536 = h := ⟨_, rfl⟩
  rw [htt, hth]
  have htl : t < 256 := by omega
  obtain ⟨ps, hps⟩ := H.geo.slots.has htl
  have hpc := H.geo.slots.fit ps (List.mem_of_getElem? hps)
  have hcap := H.geo.slots.cap
  have hkl := hk.len8
  have hwo : wrap64 (x.h.tou + 1) = x.h.tou + 1 := by have := H.nums.tou; have := H.lim; unfold wrap64; omega
  replace hwo := hidden hwo
  have hwm : wrap64 (x.h.miss + 1) = x.h.miss + 1 := by have := H.nums.miss; have := H.lim; unfold wrap64; omega
  have hwx : wrap64 (x.h.tex + 1) = x.h.tex + 1 := by have := H.nums.tex; have := H.lim; unfold wrap64; omega
  have htt0 : 0 ≤ x.h.tt ∧ x.h.tt ≤ 17592186044416 := by have := H.nums.tt; have := H.times_lt; omega
  have hecb : -1152921504606846976 ≤ x.h.ec ∧ x.h.ec ≤ 1152921504606846976 := by have := H.nums.ec; have := H.count_le'; omega
  replace hwm := hidden hwm
  replace hwx := hidden hwx
  replace hpast := hidden hpast
  replace hps := hidden hps
  replace H := hidden H
  have htI : (hash : Int) / 256 % 256 = (t : Int) := by omega
  have hhI : IntKind.u16.wrap ((hash : Int) / 65536) = (h : Int) := by rw [IntKind.wrap_u16]; omega
  replace hk := hidden hk
  replace hE := hidden hE
  clear htt hth
  refine Calls.cps ?_; intro R hR
  go_enter Tryd.func79, Tryd.ntmps79
  go_wp2_with (fail)
  refine Calls.mono (heldSlot q T TB N s x t ps _ H.out hps.out S.sel3) ?_
  rintro ex w2 ⟨rfl, C⟩
  have S2 := S.call C; clear S C; simp only [List.cons_append, List.nil_append] at S2; have S := S2; clear S2
  go_wp2_with (fail)
  refine Calls.mono (heldLookup q T TB N s x t h ps key kn kc ka _ H.out hps.out S.sel3 (hk.out.over S.chg hd) (hd.mono (by simp)) hkc hkm) ?_
  rintro ex w3 ⟨i, f, rfl, hT, hF, C⟩
  have S2 := S.call C; clear S C; simp only [List.cons_append, List.nil_append] at S2; have S := S2; clear S2
  cases f with
  | false =>
    have hn := hidden (hF rfl).1
    clear hT hF
    go_wp2_with ((refine wpList_ldE S hE.out.1 hE.out.2 ?_))
    ((first | go_ret | go_ret2 | go_ret3 | go_end0 | skip); refine hR.out _ _ ?_)
    exact ⟨s, x, ev, rfl, .none hn.out, H.out.mono (Nat.le_succ N), Stay.refl x, S.sel (by repeat (first | exact Sel.nil | (apply Sel.cons; (repeat (first | exact Pull.head | apply Pull.tail)))))⟩
  | true =>
    obtain ⟨k, e, hke, hg, hs, hh', hkey, hf, hpt⟩ := hT rfl
    clear hT hF
    subst hs
    have hok := (H.out.geo.ent k e hke).ok
    obtain ⟨k0, hL⟩ := H.out.geo.lay hke
    obtain ⟨z, hz⟩ : ∃ z, pos (x.o0 s.list) s.list k = z := ⟨_, rfl⟩
    rw [hz] at hpt hL
    have hil := (List.getElem?_eq_some_iff.1 hpt).1
    have q0 := (H.out.geo.slots.at' _ ps hps.out i _ hpt).1
    replace q0 : x.cs[e.slot * x.h.cap * 4 + i * 4]? = some (.int .i64 z) := q0
    have hroom := H.out.geo.slots.room hps.out
    have hfit := hL.fit
    have hlen : e.len = 24 + e.key.length + e.room := rfl
    have h24 := hidden (En.hdr_length e)
    obtain ⟨hok1, hok2, hok3, hok4, hok5, hok6, hok7, hok8⟩ := hok
    have hE1 := hidden (show En.hdr e = hdrBytes ((e.access : Nat) : Int) (e.expire : Nat) (e.key.length : Nat) (e.hash : Nat) (e.value.length : Nat) (e.room : Nat) e.gone (e.slot : Nat) ((0 : Nat) : Int) from rfl)
    have hW24 : k0 + 24 ≤ x.W.length := by omega
    obtain ⟨o, ho⟩ : ∃ o, e.slot * x.h.cap * 4 = o := ⟨_, rfl⟩
    rw [ho] at q0 hroom ⊢
    replace ho := hidden ho
    have hsnug := hidden H.out.geo.snug
    replace hz := hidden hz
    replace hL := hidden hL
    replace hlen := hidden hlen
    replace hf := hidden hf
    replace hke := hidden hke
    replace hg := hidden hg
    replace hpt := hidden hpt
    replace hh' := hidden hh'
    replace hkey := hidden hkey
    go_upto_region 11 with ((refine wpList_alloc S ?_; (clear S; intro bB wB hbB S)))
    have S2 : St w [ck, q, x.m, x.h.sb] wB (.blk bB (.cells (u8s (List.replicate 24 0)).toArray 149 (0, 0))  :: clk ck now :: x.mem q T TB) := S.sel (by repeat (first | exact Sel.nil | (apply Sel.cons; (repeat (first | exact Pull.head | apply Pull.tail)))))
    clear S; have S := S2; clear S2
    refine St.regionC S [.blk x.h.sb _] 9 [([0, 1, 2, 3, 4, 5, 6, 7], 8)] [] ?_
    clear S; intro wr Cr S Sc; simp only [walkC, pick, List.getElem?_cons_succ, List.getElem?_cons_zero, List.drop_succ_cons, List.drop_zero]
    (repeat (first | (go_big_quiet_want; (refine quiet_ld Sc ?_ (hi := q0)); go_big_quiet_on) | ((go_big_quiet_step (fail)))))
    refine wpQuiet_nil ?_
    go_wp2_with fail
    refine Calls.mono (ringRead q x.m bB T 149 x.r x.W x.sl (List.replicate 24 0) k0 0 24 24 x.h.post _ .nilIface _ (by rw [hL.out.z]; simp) S.sel3 hsnug.out (by omega) (by simp) (by omega) (by omega) (by omega)) ?_
    rintro ex w4 ⟨rfl, C⟩
    have S2 := S.call C; clear S C; simp only [List.cons_append, List.nil_append] at S2; have S := S2; clear S2
    rw [if_neg (by omega), show min 24 (x.W.length - k0) = 24 by omega]
    rw [hL.out.hdr, splice_all _ _ (by rw [h24.out]; simp)] at S
    go_wp2_with fail
    refine ⟨(S.sel (by repeat (first | exact Sel.nil | (apply Sel.cons; (repeat (first | exact Pull.head | apply Pull.tail)))))).inSt _, ?_⟩; (repeat (fail)); refine wpQuiet_nil ?_
    go_wp2_with ((refine wpList_box S ?_; (clear S; intro hB wH hhB S)))
    refine Calls.mono (hdrRead hB bB e.access e.expire e.key.length e.hash e.value.length e.room e.slot 0 e.gone (En.hdr e) _ _ _ _ _ _ _ _ _ 149 152 _ hE1.out hok5 hok6 (by omega) hok7 (by omega) (by omega) hok8 (by omega) S.sel2) ?_
    rintro ex w5 ⟨rfl, C⟩
    have S2 := S.call C; clear S C; simp only [List.cons_append, List.nil_append] at S2; have S := S2; clear S2
    have S2 : St w [ck, q, x.m, x.h.sb] w5 (.blk hB (.cells (hdrCells e).toArray 152 (0, 0)) :: .blk bB (.cells (u8s (En.hdr e)).toArray 149 (0, 0))  :: clk ck now :: x.mem q T TB) := S.sel (by repeat (first | exact Sel.nil | (apply Sel.cons; (repeat (first | exact Pull.head | apply Pull.tail)))))
    clear S; have S := S2; clear S2
    have hmeth := methodNow (.pointer (some ⟨ck, 0, none⟩))
    go_wp2_with ((refine wpList_ld S ?_))
    refine Calls.mono (clockNow ck 99 (.int .u32 now) _ S.sel1) ?_
    rintro ex w6 ⟨rfl, C⟩
    have S2 := S.call C; clear S C; simp only [List.cons_append, List.nil_append] at S2; have S := S2; clear S2
    clear hmeth
    go_wp2_with ((refine wpList_ld S ?_))
    refine Calls.mono (isExpired e.expire now _ hok6 (by omega)) ?_
    rintro ex w7 ⟨rfl, C⟩
    have S2 := S.same C.chg; clear S C; have S := S2; clear S2
    have hacc : e.access ≤ now := hpast.out e (List.mem_of_getElem? hke.out)
    by_cases hx : Sg.ended e.expire now = true
    · rw [hx]
      replace hx := hidden hx
      go_wp2_with (fail)
      rw [← ho.out]
      refine Calls.mono (delPtr' q T TB s.size s.list x k i e ps _ H.out.geo hke.out hg.out hps.out (by rw [hz.out]; exact hpt.out) hecb S.sel3) ?_
      rintro ex w8 ⟨rfl, x1, D, C⟩
      have S2 := S.call C; clear S C
      simp only [Sm.mem, List.cons_append, List.nil_append] at S2
      have S := S2; clear S2
      have H1 := H.out.del hke.out hg.out D
      obtain ⟨dn, hdn⟩ := D.h
      have hx1 : x1.h.tex = x.h.tex := by rw [hdn]; rfl
      have hx2 : x1.h.miss = x.h.miss := by rw [hdn]; rfl
      have hst := D.stay
      replace H1 := hidden H1
      replace hx1 := hidden hx1
      replace hx2 := hidden hx2
      clear D hdn
      go_wp2_with (fail)
      obtain ⟨wa, hrun, S2⟩ := atAdd S q 13 1
      clear S; have S := S2; clear S2
      rw [hrun]
      rw [hx1.out, hwx.out, ← hx1.out] at S
      go_wp2_with ((refine wpList_ldE S hE.out.1 hE.out.2 ?_))
      obtain ⟨wb, hrun2, S2⟩ := atAdd S q 6 1
      clear S; have S := S2; clear S2
      rw [hrun2]
      rw [hx2.out, hwm.out, ← hx2.out] at S
      go_wp2_with fail
      ((first | go_ret | go_ret2 | go_ret3 | go_end0 | skip); refine hR.out _ _ ?_)
      exact ⟨_, { x1 with h := { x1.h with tex := x1.h.tex + 1, miss := x1.h.miss + 1 } }, _, rfl, .ended k e hf.out hke.out hx.out, H1.out.lost1, hst.trans ⟨rfl, rfl, rfl, rfl⟩, S.sel (by repeat (first | exact Sel.nil | (apply Sel.cons; (repeat (first | exact Pull.head | apply Pull.tail)))))⟩
    · rw [Bool.eq_false_iff.2 hx]
      replace hx := hidden (Bool.eq_false_iff.2 hx)
      have hwt : wrap64 (x.h.tt + ((now : Int) - (e.access : Int))) = x.h.tt + ((now : Int) - (e.access : Int)) := by unfold wrap64; omega
      replace hwt := hidden hwt
      obtain ⟨X, hX⟩ : ∃ X, Sg.ends now sec = X := ⟨_, rfl⟩
      have hXb : X < 4294967296 := by rw [← hX]; unfold Sg.ends; split <;> omega
      replace hX := hidden hX
      go_upto_if 87 with (fail)
      go_cut [18] (fun r w' => r = .int .u32 X ∧ w' = w7)
      case first =>
        by_cases hs0 : 0 < sec
        · have hXe : (now : Int) + sec = (X : Int) := by rw [← hX.out]; unfold Sg.ends; rw [if_neg (by omega)]; omega
          have hXw : IntKind.u32.wrap ((now : Int) + IntKind.u32.wrap sec) = (X : Int) := by rw [IntKind.wrap_u32, IntKind.wrap_u32]; omega
          go_wp2_with (fail)
          go_meet
          exact ⟨rfl, rfl⟩
        · have hX0 : X = 0 := by rw [← hX.out]; unfold Sg.ends; rw [if_pos (by omega)]
          go_wp2_with (fail)
          go_meet
          exact ⟨by rw [hX0]; rfl, rfl⟩
      case rest =>
        obtain ⟨rfl, rfl⟩ := hcut
        go_upto_region 26 with (first | (refine wpList_ld S ?_) | (refine wpList_st S ?_; (clear S; intro ws S)))
        refine St.regionC S [.blk hB _] 12 [([0, 1, 2, 3, 4, 5, 6, 7, 8, 9, 10], 11)] [] ?_
        clear S; intro wr Cr S Sc; simp only [walkC, pick, List.getElem?_cons_succ, List.getElem?_cons_zero, List.drop_succ_cons, List.drop_zero]; (repeat (first | (go_big_quiet_step (fail)) | (go_big_quiet_want; (refine quiet_ld Sc ?_); go_big_quiet_on))); refine wpQuiet_nil ?_
        refine wpList_atAdd S ?_ Tryd.func89 (by kernel_rfl) (by rfl) (by kernel_rfl) (by kernel_rfl); (clear S; intro ws S)
        refine ⟨(S.sel (by repeat (first | exact Sel.nil | (apply Sel.cons; (repeat (first | exact Pull.head | apply Pull.tail)))))).inSt _, ?_⟩; (repeat (fail)); refine wpQuiet_nil ?_
        rw [hwt.out] at S
        go_wp2_with (fail)
        refine Calls.mono (hdrWrite hB bB 0 24 24 (En.hdr e) ((now : Nat) : Int) ((X : Nat) : Int) ((e.key.length : Nat) : Int) ((e.hash : Nat) : Int) ((e.value.length : Nat) : Int) ((e.room : Nat) : Int) ((e.slot : Nat) : Int) ((0 : Nat) : Int) e.gone _ 149 152 (by omega) (by rw [h24.out]; omega) (by omega) (by omega) (by omega) (by omega) (by omega) (by omega) (by omega) (by omega) (by omega) (by omega) (by omega) (by omega) (by omega) (by omega) (by omega) (by omega) (by omega) S.sel2) ?_
        rintro ex w8 ⟨rfl, C⟩
        have S2 := S.call C; clear S C; simp only [List.cons_append, List.nil_append] at S2; have S := S2; clear S2
        have h24' := En.hdr_length (timed now X e)
        rw [show hdrBytes ((now : Nat) : Int) ((X : Nat) : Int) ((e.key.length : Nat) : Int) ((e.hash : Nat) : Int) ((e.value.length : Nat) : Int) ((e.room : Nat) : Int) e.gone ((e.slot : Nat) : Int) ((0 : Nat) : Int) = En.hdr (timed now X e) from rfl, splice_all _ _ (by rw [h24.out, h24'])] at S
        replace h24' := hidden h24'
        go_upto_region 28 with (fail)
        refine St.regionC S [.blk x.h.sb _] 9 [([0, 1, 2, 3, 4, 5, 6, 7], 8)] [] ?_
        clear S; intro wr3 Cr S Sc; simp only [walkC, pick, List.getElem?_cons_succ, List.getElem?_cons_zero, List.drop_succ_cons, List.drop_zero]
        (repeat (first | (go_big_quiet_want; (refine quiet_ld Sc ?_ (hi := q0)); go_big_quiet_on) | ((go_big_quiet_step (fail)))))
        refine wpQuiet_nil ?_
        go_wp2_with fail
        refine Calls.mono (ringWriteAt q x.m T x.r x.W x.sl (En.hdr (timed now X e)) k0 24 24 (some ⟨bB, 0, none⟩) _ _ _ (by rw [hL.out.z]; simp) S.sel2 hsnug.out (S.src8w (by repeat (first | exact Pull.head | apply Pull.tail)) h24'.out) (S.offB (r := .blk bB _) (by repeat (first | exact Pull.head | apply Pull.tail)) rfl (by repeat (first | exact PullsF.nil | (apply PullsF.cons; (repeat (first | exact PullF.head rfl | apply PullF.tail)))))) (by omega) (by omega)) ?_
        rintro ex w9 ⟨rfl, C⟩
        have S2 := S.call C; clear S C; simp only [rMem, List.cons_append, List.nil_append] at S2; have S := S2; clear S2
        go_wp2_with fail
        refine ⟨(S.sel (by repeat (first | exact Sel.nil | (apply Sel.cons; (repeat (first | exact Pull.head | apply Pull.tail)))))).inSt _, ?_⟩; (repeat (fail)); refine wpQuiet_nil ?_
        go_wp2_with (fail)
        obtain ⟨wa, hrun, S2⟩ := atAdd S q 15 1
        clear S; have S := S2; clear S2
        rw [hrun]
        rw [hwo.out] at S
        go_wp2_with fail
        ((first | go_ret | go_ret2 | go_ret3 | go_end0 | skip); refine hR.out _ _ ?_)
        have hHd := (H.out.header (k0 := k0) hke.out (by rw [hz.out]; exact hL.out.z) (timed now X) (fun _ => rfl) (fun _ => rfl) (fun _ => rfl) (fun _ => rfl) (fun _ => rfl) (fun _ => rfl) ⟨hok1, hok2, hok3, hok4, (by show now < _; omega), hXb, hok7, hok8⟩).touch1
        refine ⟨_, _, _, rfl, ?_, hHd, ⟨rfl, rfl, rfl, rfl⟩, S.sel (by repeat (first | exact Sel.nil | (apply Sel.cons; (repeat (first | exact Pull.head | apply Pull.tail)))))⟩
        rw [← hX.out]
        exact .there k e hf.out hke.out hx.out
end Go.Proofs.YtbklhnpnkinadaaDoor
end
section
namespace Go.Proofs.YtbklhnpnkinadaaDoor
open Go.RowKit Go.Vil
set_option linter.unusedSimpArgs false
set_option linter.unusedVariables false

/-- The four lanes behind all blocks of 32 bytes, and the bytes that are left. -/
def lanes (v1 v2 v3 v4 : Int) (l : List UInt8) : Int × Int × Int × Int × List UInt8 :=
  if h : 32 ≤ l.length then
    lanes (rnd v1 (leVal (l.take 8))) (rnd v2 (leVal ((l.drop 8).take 8))) (rnd v3 (leVal ((l.drop 16).take 8))) (rnd v4 (leVal ((l.drop 24).take 8))) (l.drop 32)
  else (v1, v2, v3, v4, l)
termination_by l.length
decreasing_by simp; omega
theorem lanes_more (v1 v2 v3 v4 : Int) (l : List UInt8) (h : 32 ≤ l.length) : lanes v1 v2 v3 v4 l = lanes (rnd v1 (leVal (l.take 8))) (rnd v2 (leVal ((l.drop 8).take 8))) (rnd v3 (leVal ((l.drop 16).take 8))) (rnd v4 (leVal ((l.drop 24).take 8))) (l.drop 32) := by
  rw [lanes, dif_pos h]
theorem lanes_end (v1 v2 v3 v4 : Int) (l : List UInt8) (h : ¬ 32 ≤ l.length) : lanes v1 v2 v3 v4 l = (v1, v2, v3, v4, l) := by
  rw [lanes, dif_neg h]

/-- The hash behind eight bytes more. -/
def eight (h : Int) (x : Int) : Int := IntKind.u64.wrap (IntKind.u64.wrap (turn (Go.bits .xor .u64 h (rnd 0 x)) 27 * 11400714785074694791) + 9650029242287828579)
def four (h : Int) (x : Int) : Int := IntKind.u64.wrap (IntKind.u64.wrap (turn (Go.bits .xor .u64 h (IntKind.u64.wrap (x * 11400714785074694791))) 23 * 14029467366897019727) + 1609587929392839161)
def one (h : Int) (c : UInt8) : Int := IntKind.u64.wrap (turn (Go.bits .xor .u64 h (IntKind.u64.wrap (IntKind.u64.wrap (c.toNat : Int) * 2870177450012600261))) 11 * 11400714785074694791)
def eights (h : Int) (l : List UInt8) : Int × List UInt8 :=
  if hl : 8 ≤ l.length then eights (eight h (leVal (l.take 8))) (l.drop 8) else (h, l)
termination_by l.length
decreasing_by simp; omega
theorem eights_more (h : Int) (l : List UInt8) (hl : 8 ≤ l.length) : eights h l = eights (eight h (leVal (l.take 8))) (l.drop 8) := by
  rw [eights, dif_pos hl]
theorem eights_end (h : Int) (l : List UInt8) (hl : ¬ 8 ≤ l.length) : eights h l = (h, l) := by
  rw [eights, dif_neg hl]
def fours (p : Int × List UInt8) : Int × List UInt8 := if 4 ≤ p.2.length then (four p.1 (leVal (p.2.take 4)), p.2.drop 4) else p
def ones (h : Int) : List UInt8 → Int
  | [] => h
  | c :: l => ones (one h c) l
/-- The end. -/
def xlast (h : Int) : Int :=
  let a := IntKind.u64.wrap (Go.bits .xor .u64 h (h / 8589934592) * 14029467366897019727)
  let b := IntKind.u64.wrap (Go.bits .xor .u64 a (a / 536870912) * 1609587929392839161)
  Go.bits .xor .u64 b (b / 4294967296)
def merged (p : Int × Int × Int × Int × List UInt8) : Int :=
  mrg (mrg (mrg (mrg (IntKind.u64.wrap (IntKind.u64.wrap (IntKind.u64.wrap (turn p.1 1 + turn p.2.1 7) + turn p.2.2.1 12) + turn p.2.2.2.1 18)) p.1) p.2.1) p.2.2.1) p.2.2.2.1
def begun (l : List UInt8) : Int × Int × Int × Int × List UInt8 := lanes 6983438078262162902 14029467366897019727 0 7046029288634856825 l
/-- The hash of bytes, so many ahead of them counted in. -/
def xx (l : List UInt8) : Int :=
  let p := if 32 ≤ l.length then (merged (begun l), (begun l).2.2.2.2) else (2870177450012600261, l)
  let q := fours (eights (IntKind.u64.wrap (p.1 + IntKind.u64.wrap (l.length : Int))) p.2)
  xlast (ones q.1 q.2)
theorem xx_of (l l' : List UInt8) (z : Int) (n : Nat) (hn : l.length = n) (hb : (n : Int) ≤ 4294967296) (hz : (z, l') = if 32 ≤ l.length then (merged (begun l), (begun l).2.2.2.2) else (2870177450012600261, l)) :
    xx l = xlast (ones (fours (eights (IntKind.u64.wrap (z + (n : Int))) l')).1 (fours (eights (IntKind.u64.wrap (z + (n : Int))) l')).2) := by
  have hw : IntKind.u64.wrap (l.length : Int) = (n : Int) := by rw [IntKind.wrap_u64, hn]; omega
  unfold xx
  simp only [← hz, hw]
theorem fours_more (h : Int) (l : List UInt8) (hl : 4 ≤ l.length) : fours (h, l) = (four h (leVal (l.take 4)), l.drop 4) := by
  unfold fours; rw [if_pos hl]
theorem fours_end (h : Int) (l : List UInt8) (hl : ¬ 4 ≤ l.length) : fours (h, l) = (h, l) := by
  unfold fours; rw [if_neg hl]
end Go.Proofs.YtbklhnpnkinadaaDoor
end
section
namespace Go.Proofs.YtbklhnpnkinadaaDoor
open Go Go.RowKit Go.Vil
set_option linter.unusedSimpArgs false
set_option linter.unusedVariables false

section
variable {P : Program} {ops : Array Oper} {Q : Exit → Act → World → Prop} {rest : List Oper} {o : Oper} {a : Act} {w w' : World}
theorem run_slc3 {ty e : TypeId} {z : Value} {size bytes : Nat} [ht : TSlice P ty e] [he : TElem P e z size bytes] (x lo hi mx : Operand) (ho : o.op = .slice ty x (some lo) (some hi) (some mx)) {ad : Addr} {n c : Nat} (hx : a.eval x = .slice (some ad) n c) {kl kh km : IntKind} {l h m : Int} (hlo : a.eval lo = .int kl l) (hhi : a.eval hi = .int kh h) (hmx : a.eval mx = .int km m)
    (h0 : 0 ≤ l) (h1 : l ≤ h) (h2 : h ≤ m) (h3 : m ≤ c) : (execOp a.eval o).run P w = .ok (.value (.slice (some (cutAt ad l.toNat m.toNat size)) (h.toNat - l.toNat) (m.toNat - l.toNat))) w := by
  obtain ⟨inf, hi, hz, hsize, hby, hzs⟩ := he.is
  subst hsize
  have eh : (h.toNat : Int) = h := Int.toNat_of_nonneg (by omega)
  have em : (m.toNat : Int) = m := Int.toNat_of_nonneg (by omega)
  simp [execOp, ho, hx, hlo, hhi, hmx, Instr.sliceAt, Instr.slice, run_underlying ht.is, sizeOf, typeInfo, hi, Instr.sliceBounds, run_sliceBound, h0, h1, h2, h3, eh, em, (by omega : 0 ≤ h), (by omega : 0 ≤ m), cutAt]
  split <;> simp
/-- x[l:h:m]. -/
theorem wpList_slc3 {ty e : TypeId} {z : Value} {size bytes : Nat} {x lo hi mx : Operand} {ad : Addr} {n c : Nat} {kl kh km : IntKind} {l h mm : Int} {a' : Act} (ln m cn : Nat)
    (k : wpList P ops Q rest a' w)
    (hw : Region.wanted o (yielded ops a.tmps) = true := by rfl) (ho : o.op = .slice ty x (some lo) (some hi) (some mx) := by rfl) (ht : TSlice P ty e := by infer_instance) (he : TElem P e z size bytes := by infer_instance)
    (hx : slot a x = some (.slice (some ad) n c) := by rfl) (hlo : slot a lo = some (.int kl l) := by rfl) (hhi : slot a hi = some (.int kh h) := by rfl) (hmx : slot a mx = some (.int km mm) := by rfl)
    (hl : l.toNat = ln := by omega) (hm : h.toNat = ln + m := by omega) (hcn : mm.toNat = cn := by omega) (h0 : 0 ≤ l := by omega) (h1 : l ≤ h := by omega) (h2 : h ≤ mm := by omega) (h3 : mm ≤ c := by omega)
    (hput : Put a o.dst (.slice (some (cutAt ad ln cn size)) m (cn - ln)) a' := by exact put_of (by conv => lhs; simp only [List.set_cons_succ, List.set_cons_zero])) : wpList P ops Q (o :: rest) a w := by
  have := run_slc3 (P := P) (w := w) (o := o) (a := a) x lo hi mx ho (eval_slot hx) (eval_slot hlo) (eval_slot hhi) (eval_slot hmx) h0 h1 h2 h3
  rw [hl, hm, hcn, Nat.add_sub_cancel_left] at this
  exact wpList_run hw this (hput.is ▸ k)
end

set_option maxHeartbeats 1600000 in
set_option maxRecDepth 100000 in
theorem sum64 (v : Value) (n : Nat) (l : List UInt8) (w : World) (hs : Src w 1 v n (u8s l)) (hv : ∃ a c, v = .slice a n c ∧ n ≤ maxLen ∧ n ≤ c) (hp : w.cell? ⟨5, 0, none⟩ = some (.int .u64 11400714785074694791)) (hsm : (n : Int) ≤ 4294967296) :
    Calls Tryd.prog 85 #[v] w fun e w' => e = .returned (.int .u64 (xx l)) ∧ St w [] w' [] := by
  have S := St.begin w
  obtain ⟨a, c, rfl, hm, hc⟩ := hv
  unfold maxLen at hm
  have hs := hidden hs
  go_enter Tryd.func85, Tryd.ntmps85
  go_upto_if 15 with fail
  go_cut [0, 4] from 5 (fun b h w' => ∃ (a : Option Addr) (n' c' : Nat) (l' : List UInt8) (z : Int), b = .slice a n' c' ∧ h = .int .u64 z ∧ n' ≤ n ∧ n' ≤ c' ∧ Hid (Src w 1 (.slice a n' c') n' (u8s l')) ∧ Hid ((z, l') = if 32 ≤ l.length then (merged (begun l), (begun l).2.2.2.2) else (2870177450012600261, l)) ∧ St w [] w' [])
  case first =>
    by_cases h32 : 32 ≤ n
    · have h32' : ¬ ((n : Int) < 32) := by omega
      obtain ⟨a, rfl⟩ : ∃ x, a = some x := by
        cases a with
        | some x => exact ⟨x, rfl⟩
        | none =>
          have h1 := (hs.out.2.2 : n = n ∧ u8s l = []).2
          have h2 := hs.out.len8
          simp [u8s] at h1; subst h1; simp at h2; omega
      go_wp2_with (first | (refine wpList_ldc S ?_))
      go_loopg [0, 5, 6, 7, 8] n (fun g b v1 v2 v3 v4 wr => ∃ (ad : Addr) (n' c' : Nat) (l' : List UInt8) (z1 z2 z3 z4 : Int), b = .slice (some ad) n' c' ∧ v1 = .int .u64 z1 ∧ v2 = .int .u64 z2 ∧ v3 = .int .u64 z3 ∧ v4 = .int .u64 z4 ∧ n' ≤ g ∧ n' ≤ n ∧ n' ≤ c' ∧ Hid (Src w 1 (.slice (some ad) n' c') n' (u8s l')) ∧ Hid (U64 z1 ∧ U64 z2 ∧ U64 z3 ∧ U64 z4) ∧ Hid (lanes z1 z2 z3 z4 l' = begun l) ∧ St w [] wr [])
      case atStart => exact ⟨a, n, c, l, _, _, _, _, rfl, rfl, rfl, rfl, rfl, Nat.le_refl _, Nat.le_refl _, hc, hs, hidden ⟨wrap_u64' _, by unfold U64; omega, by unfold U64; omega, wrap_u64' _⟩, hidden rfl, S⟩
      case round =>
        obtain ⟨ad, n', c', l', z1, z2, z3, z4, rfl, rfl, rfl, rfl, rfl, hg, hn', hc', hs', hU, hla, S⟩ := hrel
        by_cases hlt : 32 ≤ n'
        · have hlt' : ¬ ((n' : Int) < 32) := by omega
          go_wp2_with ((refine wpList_slc3 0 8 n' ?_))
          refine Calls.mono (xxu64 _ 8 _ _ _ (((show Src w 1 (.slice (some ad) n' n') n' (u8s l') from hs'.out).cut 0 8 _ (by omega) (Nat.le_refl _)).on S.chg) (by omega) (by unfold maxLen; omega)) ?_
          rintro e w2 ⟨rfl, C⟩
          have S2 := S.call C; clear S C; simp only [List.cons_append, List.nil_append] at S2; have S := S2; clear S2
          rw [List.take_take, Nat.min_self]
          go_wp2_with fail
          refine Calls.mono (round _ _ _) ?_
          rintro e w2 ⟨rfl, C⟩
          have S2 := S.call C; clear S C; simp only [List.cons_append, List.nil_append] at S2; have S := S2; clear S2
          go_wp2_with ((refine wpList_slc3 8 8 n' ?_))
          refine Calls.mono (xxu64 _ 8 _ _ _ (((show Src w 1 (.slice (some ad) n' n') n' (u8s l') from hs'.out).cut 8 8 _ (by omega) (Nat.le_refl _)).on S.chg) (by omega) (by unfold maxLen; omega)) ?_
          rintro e w2 ⟨rfl, C⟩
          have S2 := S.call C; clear S C; simp only [List.cons_append, List.nil_append] at S2; have S := S2; clear S2
          rw [List.take_take, Nat.min_self]
          go_wp2_with fail
          refine Calls.mono (round _ _ _) ?_
          rintro e w2 ⟨rfl, C⟩
          have S2 := S.call C; clear S C; simp only [List.cons_append, List.nil_append] at S2; have S := S2; clear S2
          go_wp2_with ((refine wpList_slc3 16 8 n' ?_))
          refine Calls.mono (xxu64 _ 8 _ _ _ (((show Src w 1 (.slice (some ad) n' n') n' (u8s l') from hs'.out).cut 16 8 _ (by omega) (Nat.le_refl _)).on S.chg) (by omega) (by unfold maxLen; omega)) ?_
          rintro e w2 ⟨rfl, C⟩
          have S2 := S.call C; clear S C; simp only [List.cons_append, List.nil_append] at S2; have S := S2; clear S2
          rw [List.take_take, Nat.min_self]
          go_wp2_with fail
          refine Calls.mono (round _ _ _) ?_
          rintro e w2 ⟨rfl, C⟩
          have S2 := S.call C; clear S C; simp only [List.cons_append, List.nil_append] at S2; have S := S2; clear S2
          go_wp2_with ((refine wpList_slc3 24 8 n' ?_))
          refine Calls.mono (xxu64 _ 8 _ _ _ (((show Src w 1 (.slice (some ad) n' n') n' (u8s l') from hs'.out).cut 24 8 _ (by omega) (Nat.le_refl _)).on S.chg) (by omega) (by unfold maxLen; omega)) ?_
          rintro e w2 ⟨rfl, C⟩
          have S2 := S.call C; clear S C; simp only [List.cons_append, List.nil_append] at S2; have S := S2; clear S2
          rw [List.take_take, Nat.min_self]
          go_wp2_with fail
          refine Calls.mono (round _ _ _) ?_
          rintro e w2 ⟨rfl, C⟩
          have S2 := S.call C; clear S C; simp only [List.cons_append, List.nil_append] at S2; have S := S2; clear S2
          go_wp2_with ((refine wpList_slc3 32 (n' - 32) n' ?_))
          have hll := hs'.out.len8
          rw [lanes_more _ _ _ _ _ (by omega)] at hla
          have hs2 := hidden ((show Src w 1 (.slice (some ad) n' n') n' (u8s l') from hs'.out).cut 32 (n' - 32) (n' - 32) (by omega) (Nat.le_refl _))
          rw [List.take_of_length_le (by simp; omega)] at hs2
          go_roundg (gk - 1)
          case measure => omega
          case rel => exact ⟨_, _, _, _, _, _, _, _, rfl, rfl, rfl, rfl, rfl, by omega, by omega, Nat.le_refl _, hs2, hidden ⟨rnd_u64 _ _, rnd_u64 _ _, rnd_u64 _ _, rnd_u64 _ _⟩, hla, S⟩
        · have hlt' : (n' : Int) < 32 := by omega
          go_wp2_with fail
          refine Calls.mono (rol1 z1 _ hU.out.1) ?_
          rintro e w2 ⟨rfl, C⟩
          have S2 := S.call C; clear S C; simp only [List.cons_append, List.nil_append] at S2; have S := S2; clear S2
          go_wp2_with fail
          refine Calls.mono (rol7 z2 _ hU.out.2.1) ?_
          rintro e w2 ⟨rfl, C⟩
          have S2 := S.call C; clear S C; simp only [List.cons_append, List.nil_append] at S2; have S := S2; clear S2
          go_wp2_with fail
          refine Calls.mono (rol12 z3 _ hU.out.2.2.1) ?_
          rintro e w2 ⟨rfl, C⟩
          have S2 := S.call C; clear S C; simp only [List.cons_append, List.nil_append] at S2; have S := S2; clear S2
          go_wp2_with fail
          refine Calls.mono (rol18 z4 _ hU.out.2.2.2) ?_
          rintro e w2 ⟨rfl, C⟩
          have S2 := S.call C; clear S C; simp only [List.cons_append, List.nil_append] at S2; have S := S2; clear S2
          go_wp2_with fail
          refine Calls.mono (merge _ _ _) ?_
          rintro e w2 ⟨rfl, C⟩
          have S2 := S.call C; clear S C; simp only [List.cons_append, List.nil_append] at S2; have S := S2; clear S2
          go_wp2_with fail
          refine Calls.mono (merge _ _ _) ?_
          rintro e w2 ⟨rfl, C⟩
          have S2 := S.call C; clear S C; simp only [List.cons_append, List.nil_append] at S2; have S := S2; clear S2
          go_wp2_with fail
          refine Calls.mono (merge _ _ _) ?_
          rintro e w2 ⟨rfl, C⟩
          have S2 := S.call C; clear S C; simp only [List.cons_append, List.nil_append] at S2; have S := S2; clear S2
          go_wp2_with fail
          refine Calls.mono (merge _ _ _) ?_
          rintro e w2 ⟨rfl, C⟩
          have S2 := S.call C; clear S C; simp only [List.cons_append, List.nil_append] at S2; have S := S2; clear S2
          go_wp2_with fail
          go_meet
          have hb := hla.out
          rw [lanes_end _ _ _ _ _ (by have := hs'.out.len8; omega)] at hb
          exact ⟨some ad, n', c', l', merged (z1, z2, z3, z4, l'), rfl, rfl, hn', hc', hs', hidden (by rw [if_pos (by have := hs.out.len8; omega), ← hb]), S⟩
    · have h32' : (n : Int) < 32 := by omega
      go_wp2_with fail
      go_meet
      exact ⟨a, n, c, l, _, rfl, rfl, Nat.le_refl _, hc, hs, hidden (by rw [if_neg (by have := hs.out.len8; omega)]), S⟩
  case rest =>
    obtain ⟨a', n', c', l', z, hb, hh, hn', hc', hs', hz, S⟩ := hcut
    subst hb hh
    have hll := hidden hs'.out.len8
    go_wp2_with fail
    go_loopg [4, 9] n' (fun g h i wr => ∃ (j : Nat) (h' : Int), j + g = n' ∧ i = .int .i64 j ∧ h = .int .u64 h' ∧ Hid (eights h' (l'.drop j) = eights (IntKind.u64.wrap (z + n)) l') ∧ Hid (U64 h') ∧ St w [] wr [])
    case atStart => exact ⟨0, _, by omega, rfl, rfl, hidden rfl, hidden (wrap_u64' _), S⟩
    case round =>
      obtain ⟨j, h', hj, rfl, rfl, he, hu, S⟩ := hrel
      by_cases hlt : (j : Int) + 8 ≤ n'
      · obtain ⟨ad, rfl⟩ : ∃ x, a' = some x := by
          cases a' with
          | some x => exact ⟨x, rfl⟩
          | none =>
            have h1 := (hs'.out.2.2 : n' = n' ∧ u8s l' = []).2
            have h2 := hll.out
            simp [u8s] at h1; subst h1; simp at h2; omega
        go_wp2_with (first | (refine wpList_slc3 j 8 n' ?_))
        refine Calls.mono (xxu64 _ 8 _ _ _ (((show Src w 1 (.slice (some ad) n' n') n' (u8s l') from hs'.out).cut j 8 _ (by omega) (Nat.le_refl _)).on S.chg) (by omega) (by unfold maxLen; omega)) ?_
        rintro e w2 ⟨rfl, C⟩
        have S2 := S.call C; clear S C; simp only [List.cons_append, List.nil_append] at S2; have S := S2; clear S2
        rw [List.take_take, Nat.min_self]
        go_wp2_with fail
        refine Calls.mono (round _ _ _) ?_
        rintro e w2 ⟨rfl, C⟩
        have S2 := S.call C; clear S C; simp only [List.cons_append, List.nil_append] at S2; have S := S2; clear S2
        go_wp2_with fail
        refine Calls.mono (rol27 _ _ (xor_u64 _ _ hu.out (rnd_u64 _ _))) ?_
        rintro e w2 ⟨rfl, C⟩
        have S2 := S.call C; clear S C; simp only [List.cons_append, List.nil_append] at S2; have S := S2; clear S2
        go_wp2_with fail
        have he := he.out
        rw [eights_more _ _ (by have := hll.out; simp; omega)] at he
        go_roundg (gk - 8)
        case measure => omega
        case rel => exact ⟨j + 8, _, by omega, rfl, rfl, hidden (by rw [← he, List.drop_drop]; rfl), hidden (wrap_u64' _), S⟩
      · have he2 := hidden (he.out.symm.trans (eights_end h' (l'.drop j) (by have := hll.out; simp; omega)))
        by_cases h4 : (j : Int) + 4 ≤ n'
        · obtain ⟨ad, rfl⟩ : ∃ x, a' = some x := by
            cases a' with
            | some x => exact ⟨x, rfl⟩
            | none =>
              have h1 := (hs'.out.2.2 : n' = n' ∧ u8s l' = []).2
              have h2 := hll.out
              simp [u8s] at h1; subst h1; simp at h2; omega
          go_wp2_with (first | (refine wpList_slc3 j 4 n' ?_))
          refine Calls.mono (xxu32 _ 4 _ _ _ (((show Src w 1 (.slice (some ad) n' n') n' (u8s l') from hs'.out).cut j 4 _ (by omega) (Nat.le_refl _)).on S.chg) (by omega) (by unfold maxLen; omega)) ?_
          rintro e w2 ⟨rfl, C⟩
          have S2 := S.call C; clear S C; simp only [List.cons_append, List.nil_append] at S2; have S := S2; clear S2
          rw [List.take_take, Nat.min_self]
          go_wp2_with fail
          have hv : IntKind.u64.wrap ((leVal ((l'.drop j).take 4) : Nat) : Int) = ((leVal ((l'.drop j).take 4) : Nat) : Int) := by
            have h1 := leVal_lt ((l'.drop j).take 4)
            have h2 : ((l'.drop j).take 4).length = 4 := by have := hll.out; simp; omega
            rw [h2] at h1
            rw [IntKind.wrap_u64]; omega
          rw [hv]
          refine Calls.mono (rol23 _ _ (xor_u64 _ _ hu.out (wrap_u64' _))) ?_
          rintro e w2 ⟨rfl, C⟩
          have S2 := S.call C; clear S C; simp only [List.cons_append, List.nil_append] at S2; have S := S2; clear S2
          go_wp2_with fail
          go_loopg [4, 9] (n' - (j + 4)) (fun g h i wr => ∃ (k : Nat) (h1 : Int), k + g = n' ∧ i = .int .i64 k ∧ h = .int .u64 h1 ∧ Hid (ones h1 (l'.drop k) = ones (four h' (leVal ((l'.drop j).take 4))) (l'.drop (j + 4))) ∧ Hid (U64 h1) ∧ St w [] wr [])
          case atStart => exact ⟨(j + 4), _, by omega, rfl, rfl, hidden rfl, hidden (show U64 (four h' (leVal ((l'.drop j).take 4))) from wrap_u64' _), S⟩
          case round =>
            obtain ⟨k, h1, hk, rfl, rfl, ho, hu1, S⟩ := hrel
            by_cases hkn : k < n'
            · have g0 := hs'.out.byte k (by omega)
              have hdr : l'.drop k = l'.getD k 0 :: l'.drop (k + 1) := by
                rw [List.drop_eq_getElem_cons (by have := hll.out; omega)]
                simp [List.getD, List.getElem?_eq_getElem (show k < l'.length by have := hll.out; omega)]
              generalize l'.getD k 0 = x at g0 hdr
              have ho2 := hidden (show ones (one h1 x) (l'.drop (k + 1)) = ones h1 (l'.drop k) by rw [hdr]; rfl)
              clear hdr
              go_wp2_with (first | (refine wpList_ldc S ?_))
              refine Calls.mono (rol11 _ _ (xor_u64 _ _ hu1.out (wrap_u64' _))) ?_
              rintro e w2 ⟨rfl, C⟩
              have S2 := S.call C; clear S C; simp only [List.cons_append, List.nil_append] at S2; have S := S2; clear S2
              go_wp2_with fail
              go_roundg (gk - 1)
              case measure => omega
              case rel => exact ⟨k + 1, one h1 x, by omega, rfl, rfl, hidden (ho2.out.trans ho.out), hidden (wrap_u64' _), S⟩
            · go_wp2_with fail
              go_ret
              have e1 : l'.drop k = [] := List.drop_eq_nil_of_le (by have := hll.out; omega)
              have e2 := ho.out
              rw [e1] at e2
              refine ⟨retI ?_, S⟩
              show xlast h1 = xx l
              have e3 : h1 = ones (four h' (leVal ((l'.drop j).take 4))) (l'.drop (j + 4)) := e2
              rw [xx_of l l' z n hs.out.len8 hsm hz.out, he2.out, fours_more _ _ (by have := hll.out; simp; omega), List.drop_drop, e3]
        · go_wp2_with fail
          go_loopg [4, 9] (n' - j) (fun g h i wr => ∃ (k : Nat) (h1 : Int), k + g = n' ∧ i = .int .i64 k ∧ h = .int .u64 h1 ∧ Hid (ones h1 (l'.drop k) = ones h' (l'.drop j)) ∧ Hid (U64 h1) ∧ St w [] wr [])
          case atStart => exact ⟨j, _, by omega, rfl, rfl, hidden rfl, hu, S⟩
          case round =>
            obtain ⟨k, h1, hk, rfl, rfl, ho, hu1, S⟩ := hrel
            by_cases hkn : k < n'
            · obtain ⟨ad, rfl⟩ : ∃ x, a' = some x := by
                cases a' with
                | some x => exact ⟨x, rfl⟩
                | none =>
                  have h1 := (hs'.out.2.2 : n' = n' ∧ u8s l' = []).2
                  have h2 := hll.out
                  simp [u8s] at h1; subst h1; simp at h2; omega
              have g0 := hs'.out.byte k (by omega)
              have hdr : l'.drop k = l'.getD k 0 :: l'.drop (k + 1) := by
                rw [List.drop_eq_getElem_cons (by have := hll.out; omega)]
                simp [List.getD, List.getElem?_eq_getElem (show k < l'.length by have := hll.out; omega)]
              generalize l'.getD k 0 = x at g0 hdr
              have ho2 := hidden (show ones (one h1 x) (l'.drop (k + 1)) = ones h1 (l'.drop k) by rw [hdr]; rfl)
              clear hdr
              go_wp2_with (first | (refine wpList_ldc S ?_))
              refine Calls.mono (rol11 _ _ (xor_u64 _ _ hu1.out (wrap_u64' _))) ?_
              rintro e w2 ⟨rfl, C⟩
              have S2 := S.call C; clear S C; simp only [List.cons_append, List.nil_append] at S2; have S := S2; clear S2
              go_wp2_with fail
              go_roundg (gk - 1)
              case measure => omega
              case rel => exact ⟨k + 1, one h1 x, by omega, rfl, rfl, hidden (ho2.out.trans ho.out), hidden (wrap_u64' _), S⟩
            · go_wp2_with fail
              go_ret
              have e1 : l'.drop k = [] := List.drop_eq_nil_of_le (by have := hll.out; omega)
              have e2 := ho.out
              rw [e1] at e2
              refine ⟨retI ?_, S⟩
              show xlast h1 = xx l
              have e3 : h1 = ones h' (l'.drop j) := e2
              rw [xx_of l l' z n hs.out.len8 hsm hz.out, he2.out, fours_end _ _ (by have := hll.out; simp; omega), e3]
end Go.Proofs.YtbklhnpnkinadaaDoor
end
section
namespace Go.Proofs.YtbklhnpnkinadaaDoor
open Go Go.RowKit Go.Vil
set_option linter.unusedSimpArgs false
set_option linter.unusedVariables false

theorem hashFunc (v : Value) (n : Nat) (l : List UInt8) (w : World) (hs : Src w 1 v n (u8s l)) (hv : ∃ a c, v = .slice a n c ∧ n ≤ maxLen ∧ n ≤ c) (hp : w.cell? ⟨5, 0, none⟩ = some (.int .u64 11400714785074694791)) (hsm : (n : Int) ≤ 4294967296) :
    Calls Tryd.prog 76 #[v] w fun e w' => e = .returned (.int .u64 (xx l)) ∧ St w [] w' [] := by
  have S := St.begin w
  have hs := hidden hs
  have hv := hidden hv
  go_enter Tryd.func76, Tryd.ntmps76
  go_wp2_with fail
  refine Calls.mono (sum64 v n l _ (hs.out.on S.chg) hv.out (S.chg.cell hp (by simp)) hsm) ?_
  rintro e w2 ⟨rfl, C⟩
  have S2 := S.call C; clear S C; simp only [List.cons_append, List.nil_append] at S2; have S := S2; clear S2
  go_wp2_with fail
  go_ret
  exact ⟨rfl, S⟩
theorem zzHash (v : Value) (n : Nat) (l : List UInt8) (w : World) (hs : Src w 1 v n (u8s l)) (hv : ∃ a c, v = .slice a n c ∧ n ≤ maxLen ∧ n ≤ c) (hp : w.cell? ⟨5, 0, none⟩ = some (.int .u64 11400714785074694791)) (hsm : (n : Int) ≤ 4294967296) :
    Calls Tryd.prog 63 #[v] w fun e w' => e = .returned (.int .u64 (xx l)) ∧ St w [] w' [] := by
  have S := St.begin w
  have hs := hidden hs
  have hv := hidden hv
  go_enter Tryd.func63, Tryd.ntmps63
  go_wp2_with fail
  refine Calls.mono (hashFunc v n l _ (hs.out.on S.chg) hv.out (S.chg.cell hp (by simp)) hsm) ?_
  rintro e w2 ⟨rfl, C⟩
  have S2 := S.call C; clear S C; simp only [List.cons_append, List.nil_append] at S2; have S := S2; clear S2
  go_wp2_with fail
  go_ret
  exact ⟨rfl, S⟩
end Go.Proofs.YtbklhnpnkinadaaDoor
end
section
namespace Go.Proofs.YtbklhnpnkinadaaDoor
open Go Go.RowKit Go.Vil
set_option linter.unusedSimpArgs false
set_option linter.unusedVariables false
set_option maxRecDepth 100000

theorem GErr.call {w w' : World} {bs bs' : List Nat} {L F : List Res} {g : Nat} {v : Value} (h : GErr w bs g v) (S : St w bs w' L)
    (hp : PullsF bs' L F := by repeat (first | exact PullsF.nil | (apply PullsF.cons; (repeat (first | exact PullF.head rfl | apply PullF.tail))))) : GErr w' bs' g v := by
  have hlt := World.block_lt_of_cell? w _ h.1
  refine ⟨S.chg.cell h.1 h.2, fun hm => ?_⟩
  obtain ⟨rs, h1, h2⟩ := hp.perm
  rw [← h1] at hm
  obtain ⟨r, hr, hrf⟩ := List.mem_filterMap.1 hm
  rcases S.org r (h2.mem_iff.2 (List.mem_append_left _ hr)) g hrf with h | h
  · exact absurd h (by have := ‹GErr w bs g v›; exact this.2)
  · exact absurd hlt (Nat.not_lt.2 h)
/-- The errors of a ring buffer. -/
structure Errs (w : World) (bs : List Nat) (ev0 ev1 : Value) : Prop where
  e0 : GErr w bs 0 ev0
  e1 : GErr w bs 1 ev1
  i0 : ∃ t p, ev0 = .iface t p
  i1 : ∃ t p, ev1 = .iface t p
theorem Errs.call {w w' : World} {bs bs' : List Nat} {L F : List Res} {ev0 ev1 : Value} (h : Errs w bs ev0 ev1) (S : St w bs w' L)
    (hp : PullsF bs' L F := by repeat (first | exact PullsF.nil | (apply PullsF.cons; (repeat (first | exact PullF.head rfl | apply PullF.tail))))) : Errs w' bs' ev0 ev1 :=
  ⟨h.e0.call S hp, h.e1.call S hp, h.i0, h.i1⟩

set_option maxHeartbeats 800000 in
theorem ringRead0 (q m : Nat) (T : TypeId) (b e : Int) (N C : Nat) (ix : Int) (post : List Value) (oa : Option Addr) (n c : Nat) (z : Int) (ev : Value) (w : World)
    (hM : Mem w [rHead q m T b e N C ix post]) (hb : -1152921504606846976 ≤ b ∧ b ≤ 1152921504606846976) (he : -1152921504606846976 ≤ e ∧ e ≤ 1152921504606846976) (hz : -1152921504606846976 ≤ z ∧ z ≤ 1152921504606846976) (h : z < b ∨ e < z) (hE : GErr w [q] 0 ev) :
    Calls Tryd.prog 49 #[.pointer (some ⟨q, 0, none⟩), .slice oa n c, .int .i64 z] w fun e' w' =>
      e' = .returned (.tuple #[.int .i64 0, ev]) ∧ St w [q] w' [rHead q m T b e N C ix post] := by
  have S : St w [q] w [rHead q m T b e N C ix post] := St.start hM
  clear hM
  obtain ⟨hb1, hb2⟩ := hb
  obtain ⟨he1, he2⟩ := he
  obtain ⟨hz1, hz2⟩ := hz
  replace hE := hidden hE
  refine Calls.cps ?_; intro R hR
  go_enter Tryd.func49, Tryd.ntmps49
  by_cases c1 : e < z
  · have hbb : decide (e < z) = true := decide_eq_true c1
    clear h
    go_wp2_with (first | (refine wpList_ldE S hE.out.1 hE.out.2 ?_) | (refine wpList_ld S ?_))
    ((first | go_ret | go_ret2 | go_ret3 | go_end0 | skip); refine hR.out _ _ ?_)
    exact ⟨rfl, S⟩
  · have hbb : decide (e < z) = false := decide_eq_false c1
    have c2 : z < b := by omega
    have hbb2 : decide (z < b) = true := decide_eq_true c2
    clear h
    go_wp2_with (first | (refine wpList_ldE S hE.out.1 hE.out.2 ?_) | (refine wpList_ld S ?_))
    ((first | go_ret | go_ret2 | go_ret3 | go_end0 | skip); refine hR.out _ _ ?_)
    exact ⟨rfl, S⟩

set_option maxHeartbeats 800000 in
theorem ringWriteAt0 (q m : Nat) (T : TypeId) (b e : Int) (N C : Nat) (ix : Int) (post : List Value) (oa : Option Addr) (n c : Nat) (z : Int) (ev : Value) (w : World)
    (hM : Mem w [rHead q m T b e N C ix post]) (hb : -1152921504606846976 ≤ b ∧ b ≤ 1152921504606846976) (he : -1152921504606846976 ≤ e ∧ e ≤ 1152921504606846976) (hz : -1152921504606846976 ≤ z ∧ z ≤ 1152921504606846976) (hn : n ≤ 1073741824) (h : z < b ∨ e < z + n) (hE : GErr w [q] 0 ev) :
    Calls Tryd.prog 50 #[.pointer (some ⟨q, 0, none⟩), .slice oa n c, .int .i64 z] w fun e' w' =>
      e' = .returned (.tuple #[.int .i64 0, ev]) ∧ St w [q] w' [rHead q m T b e N C ix post] := by
  have S : St w [q] w [rHead q m T b e N C ix post] := St.start hM
  clear hM
  obtain ⟨hb1, hb2⟩ := hb
  obtain ⟨he1, he2⟩ := he
  obtain ⟨hz1, hz2⟩ := hz
  replace hE := hidden hE
  refine Calls.cps ?_; intro R hR
  go_enter Tryd.func50, Tryd.ntmps50
  by_cases c1 : e < z + n
  · have hbb : decide (e < z + n) = true := decide_eq_true c1
    clear h
    go_wp2_with (first | (refine wpList_ldE S hE.out.1 hE.out.2 ?_) | (refine wpList_ld S ?_))
    ((first | go_ret | go_ret2 | go_ret3 | go_end0 | skip); refine hR.out _ _ ?_)
    exact ⟨rfl, S⟩
  · have hbb : decide (e < z + n) = false := decide_eq_false c1
    have c2 : z < b := by omega
    have hbb2 : decide (z < b) = true := decide_eq_true c2
    clear h
    go_wp2_with (first | (refine wpList_ldE S hE.out.1 hE.out.2 ?_) | (refine wpList_ld S ?_))
    ((first | go_ret | go_ret2 | go_ret3 | go_end0 | skip); refine hR.out _ _ ?_)
    exact ⟨rfl, S⟩

set_option maxHeartbeats 800000 in
theorem ringSlice0 (q m : Nat) (T : TypeId) (b e : Int) (N C : Nat) (ix : Int) (post : List Value) (z n : Int) (ev : Value) (w : World)
    (hM : Mem w [rHead q m T b e N C ix post]) (hb : -1152921504606846976 ≤ b ∧ b ≤ 1152921504606846976) (he : -1152921504606846976 ≤ e ∧ e ≤ 1152921504606846976) (hz : -1152921504606846976 ≤ z ∧ z ≤ 1152921504606846976) (h : z < b ∨ e < z) (hE : GErr w [q] 0 ev) :
    Calls Tryd.prog 51 #[.pointer (some ⟨q, 0, none⟩), .int .i64 z, .int .i64 n] w fun e' w' =>
      e' = .returned (.tuple #[.slice none 0 0, ev]) ∧ St w [q] w' [rHead q m T b e N C ix post] := by
  have S : St w [q] w [rHead q m T b e N C ix post] := St.start hM
  clear hM
  obtain ⟨hb1, hb2⟩ := hb
  obtain ⟨he1, he2⟩ := he
  obtain ⟨hz1, hz2⟩ := hz
  replace hE := hidden hE
  refine Calls.cps ?_; intro R hR
  go_enter Tryd.func51, Tryd.ntmps51
  by_cases c1 : e < z
  · have hbb : decide (e < z) = true := decide_eq_true c1
    clear h
    go_wp2_with (first | ((with_reducible show Code.wp _ (Code.region _ _ true) _ _ _); refine St.regionLast S ?_; (repeat (first | (go_big_quiet_want; refine quiet_ldE S hE.out.1 hE.out.2 ?_; go_big_quiet_on) | ((go_big_quiet_step (fail))))); refine wpQuiet_nil ?_; clear S; intro wq S) | (refine wpList_ld S ?_))
    ((first | go_ret | go_ret2 | go_ret3 | go_end0 | skip); refine hR.out _ _ ?_)
    exact ⟨rfl, S⟩
  · have hbb : decide (e < z) = false := decide_eq_false c1
    have c2 : z < b := by omega
    have hbb2 : decide (z < b) = true := decide_eq_true c2
    clear h
    go_wp2_with (first | ((with_reducible show Code.wp _ (Code.region _ _ true) _ _ _); refine St.regionLast S ?_; (repeat (first | (go_big_quiet_want; refine quiet_ldE S hE.out.1 hE.out.2 ?_; go_big_quiet_on) | ((go_big_quiet_step (fail))))); refine wpQuiet_nil ?_; clear S; intro wq S) | (refine wpList_ld S ?_))
    ((first | go_ret | go_ret2 | go_ret3 | go_end0 | skip); refine hR.out _ _ ?_)
    exact ⟨rfl, S⟩

set_option maxHeartbeats 800000 in
theorem ringEqual0 (q m : Nat) (T : TypeId) (b e : Int) (N C : Nat) (ix : Int) (post : List Value) (oa : Option Addr) (n c : Nat) (z : Int) (w : World)
    (hM : Mem w [rHead q m T b e N C ix post]) (hb : -1152921504606846976 ≤ b ∧ b ≤ 1152921504606846976) (he : -1152921504606846976 ≤ e ∧ e ≤ 1152921504606846976) (hz : -1152921504606846976 ≤ z ∧ z ≤ 1152921504606846976) (hn : n ≤ 1073741824) (h : z < b ∨ e < z + n) :
    Calls Tryd.prog 52 #[.pointer (some ⟨q, 0, none⟩), .slice oa n c, .int .i64 z] w fun e' w' =>
      e' = .returned (.bool false) ∧ St w [q] w' [rHead q m T b e N C ix post] := by
  have S : St w [q] w [rHead q m T b e N C ix post] := St.start hM
  clear hM
  obtain ⟨hb1, hb2⟩ := hb
  obtain ⟨he1, he2⟩ := he
  obtain ⟨hz1, hz2⟩ := hz
  refine Calls.cps ?_; intro R hR
  go_enter Tryd.func52, Tryd.ntmps52
  by_cases c1 : e < z + n
  · have hbb : decide (e < z + n) = true := decide_eq_true c1
    clear h
    go_wp2_with ((refine wpList_ld S ?_))
    ((first | go_ret | go_ret2 | go_ret3 | go_end0 | skip); refine hR.out _ _ ?_)
    exact ⟨rfl, S⟩
  · have hbb : decide (e < z + n) = false := decide_eq_false c1
    have c2 : z < b := by omega
    have hbb2 : decide (z < b) = true := decide_eq_true c2
    clear h
    go_wp2_with ((refine wpList_ld S ?_))
    ((first | go_ret | go_ret2 | go_ret3 | go_end0 | skip); refine hR.out _ _ ?_)
    exact ⟨rfl, S⟩

set_option maxHeartbeats 800000 in
theorem ringMove0 (q m : Nat) (T : TypeId) (b e : Int) (N C : Nat) (ix : Int) (post : List Value) (z : Int) (n : Nat) (w : World)
    (hM : Mem w [rHead q m T b e N C ix post]) (hb : -1152921504606846976 ≤ b ∧ b ≤ 1152921504606846976) (he : -1152921504606846976 ≤ e ∧ e ≤ 1152921504606846976) (hz : -1152921504606846976 ≤ z ∧ z ≤ 1152921504606846976) (hn : n ≤ 1073741824) (h : z < b ∨ e < z + n) :
    Calls Tryd.prog 53 #[.pointer (some ⟨q, 0, none⟩), .int .i64 z, .int .i64 n] w fun e' w' =>
      e' = .returned (.int .i64 (-1)) ∧ St w [q] w' [rHead q m T b e N C ix post] := by
  have S : St w [q] w [rHead q m T b e N C ix post] := St.start hM
  clear hM
  obtain ⟨hb1, hb2⟩ := hb
  obtain ⟨he1, he2⟩ := he
  obtain ⟨hz1, hz2⟩ := hz
  refine Calls.cps ?_; intro R hR
  go_enter Tryd.func53, Tryd.ntmps53
  by_cases c1 : e < z + n
  · have hbb : decide (e < z + n) = true := decide_eq_true c1
    clear h
    go_wp2_with ((refine wpList_ld S ?_))
    ((first | go_ret | go_ret2 | go_ret3 | go_end0 | skip); refine hR.out _ _ ?_)
    exact ⟨rfl, S⟩
  · have hbb : decide (e < z + n) = false := decide_eq_false c1
    have c2 : z < b := by omega
    have hbb2 : decide (z < b) = true := decide_eq_true c2
    clear h
    go_wp2_with ((refine wpList_ld S ?_))
    ((first | go_ret | go_ret2 | go_ret3 | go_end0 | skip); refine hR.out _ _ ?_)
    exact ⟨rfl, S⟩

theorem wrongNilR (w : World) : Calls Tryd.prog 48 #[.nilIface] w fun e w' => e = .returned (.int .i64 0) ∧ St w [] w' [] := by
  have S := St.begin w
  refine Calls.cps ?_; intro R hR
  go_enter Tryd.func48, Tryd.ntmps48
  go_wp2_with (fail)
  refine hR.out _ _ ?_
  exact ⟨rfl, S⟩
theorem wrongErrR (v : Value) (w : World) (h : ∃ t p, v = .iface t p) : Calls Tryd.prog 48 #[v] w fun e w' => e = .returned (.int .i64 1) ∧ St w [] w' [] := by
  obtain ⟨t, p, rfl⟩ := h
  have S := St.begin w
  refine Calls.cps ?_; intro R hR
  go_enter Tryd.func48, Tryd.ntmps48
  go_wp2_with (fail)
  refine hR.out _ _ ?_
  exact ⟨rfl, S⟩
end Go.Proofs.YtbklhnpnkinadaaDoor
end
section
namespace Go.Proofs.YtbklhnpnkinadaaDoor
open Go Go.RowKit Go.Vil
set_option linter.unusedSimpArgs false
set_option linter.unusedVariables false
set_option maxRecDepth 100000

theorem idleF (p : Option Addr) : Idle Tryd.prog 62 #[.pointer p] := by
  intro w
  refine callsD_of_wpS Tryd.func62 rfl fun c₀ cs hu => ?_
  apply wpS_seq
  apply wpS_region
  simp [wpOpsS, go_sem, recoverD, hu, Tryd.ntmps62, Exit.thenS]
  refine wpS_cond (t := false) (by simp [Act.eval, Array.replicate]) ?_
  simp only [Bool.false_eq_true, if_false]
  refine wpS_of_wp (wp_skip ?_)
  cases c₀
  simp_all [bodyPostS, results, Tryd.results62]

/-- The cells of an operation. -/
abbrev fopCells (k : Int) (kv vv : Value) (ex : Int) (now hash : Nat) (own is : Bool) (num : Int) (keys : Value) : Array Value := #[.int .i64 k, kv, vv, .int .i64 ex, .int .u32 now, .int .u64 hash, .bool own, .bool is, .int .i64 num, keys]
/-- How an operation of a segment ends. -/
def SDoEnd (q ck m sb now N : Nat) (x : Sm) (w : World) (p : Sg × FAns) (e : Ending) (w' : World) : Prop :=
  ∃ (x' : Sm) (dv nv : Value), e = .returned (.agg #[.int .i64 p.2.fault, dv, .int .u32 p.2.number, .bool p.2.is, .bool false, nv, .slice none 0 0]) ∧ Held (N + 268435456) p.1 x' ∧ x'.m = x.m ∧ x'.h.timer = x.h.timer ∧
    St w [ck, q, m, sb] w' (.row 5 1 dv p.2.value.length (u8s p.2.value) :: .row 2 1 nv p.2.numbers.length (p.2.numbers.map fun n => .int .i64 n) :: clk ck now :: x'.mem q 105 155)
/-- The hash that counts. -/
def hashOf (own : Bool) (hash : Nat) (key : List UInt8) : Nat := if own then (xx key).toNat else hash
theorem xx_u64 (l : List UInt8) : U64 (xx l) := by
  unfold xx xlast
  have hd : ∀ (a : Int) (k : Int), 1 ≤ k → U64 a → U64 (a / k) := by
    intro a k hk ha
    obtain ⟨h1, h2⟩ := ha
    exact ⟨Int.ediv_nonneg h1 (by omega), Int.lt_of_le_of_lt (Int.ediv_le_self _ h1) h2⟩
  exact xor_u64 _ _ (wrap_u64' _) (hd _ _ (by decide) (wrap_u64' _))
theorem xx_nat (l : List UInt8) : (((xx l).toNat : Nat) : Int) = xx l := Int.toNat_of_nonneg (xx_u64 l).1
theorem hashOf_lt (own : Bool) (hash : Nat) (key : List UInt8) (h : hash < 18446744073709551616) : hashOf own hash key < 18446744073709551616 := by
  have := (xx_u64 key).2
  have := xx_nat key
  unfold hashOf; split <;> omega
theorem hashOf_own (hash h0 : Nat) (key : List UInt8) (h : hashOf true hash key = h0) : xx key = (h0 : Int) := by
  rw [← h]; unfold hashOf; rw [if_pos rfl]; exact (xx_nat key).symm
theorem hashOf_told (hash h0 : Nat) (key : List UInt8) (h : hashOf false hash key = h0) : hash = h0 := by
  rw [← h]; unfold hashOf; rw [if_neg (by decide)]
theorem counted_nums {N : Nat} {s : Sg} {x : Sm} (H : Held N s x) : counted x.h = s.nums.map fun n => .int .i64 n := by
  obtain ⟨n1, n2, n3, n4, n5, n6, n7, n8, n9, n10⟩ := H.nums
  have hf := H.free_eq
  unfold counted Sg.nums
  rw [n1, n2, n3, n4, n5, n6, n7, n8, n9, hf]; rfl
theorem step_nums (s : Sg) (key value : List UInt8) (ex : Int) (now h : Nat) : s.step ⟨10, key, value, ex, now, h⟩ = (s, ⟨0, [], 0, false, s.nums⟩) := rfl
/-- What an operation is given. -/
structure SArg (q ck now N : Nat) (s : Sg) (x : Sm) (key value : List UInt8) (kn kc vn vc : Nat) (ka va : Option Addr) (ex : Int) (hash : Nat) (e1 e2 : Value) (w : World) : Prop where
  H : Held N s x
  size1 : 1 ≤ s.size
  mem : Mem w (clk ck now :: x.mem q 105 155)
  kS : Src w 1 (.slice ka kn kc) kn (u8s key)
  koff : Off ka [ck, q, x.m, x.h.sb] (u8s key)
  cK : kn ≤ kc
  mK : kn ≤ 65535
  vS : Src w 1 (.slice va vn vc) vn (u8s value)
  voff : Off va [ck, q, x.m, x.h.sb] (u8s value)
  cV : vn ≤ vc
  mV : vn ≤ 65535
  cH : hash < 18446744073709551616
  cNow : now ≤ 2147483648
  cEx : -1152921504606846976 ≤ ex ∧ ex ≤ 1000000
  timer : x.h.timer = .iface 97 (.pointer (some ⟨ck, 0, none⟩))
  past : ∀ e ∈ s.list, e.access ≤ now
  cN : N ≤ 1152921504000000000 - 134217728
  nf : GErr w [ck, q, x.m, x.h.sb] 4 e1
  le : GErr w [ck, q, x.m, x.h.sb] 3 e2
  pr : GErr w [ck, q, x.m, x.h.sb] 5 (.int .u64 11400714785074694791)
  i1 : ∃ t p, e1 = .iface t p
  i2 : ∃ t p, e2 = .iface t p
theorem wrongOf (ok : Bool) (ev v : Value) (w : World) (h : ∃ t p, ev = .iface t p) (hv : v = if ok then .nilIface else ev) : Calls Tryd.prog 48 #[v] w fun e w' => ∃ f : Int, e = .returned (.int .i64 f) ∧ Hid (f = if ok then 0 else 1) ∧ St w [] w' [] := by
  subst hv
  cases ok with
  | true => exact (wrongNilR w).mono fun e w' h => ⟨0, h.1, hidden rfl, h.2⟩
  | false => exact (wrongErrR ev w h).mono fun e w' h => ⟨1, h.1, hidden rfl, h.2⟩
theorem wrongErrOf (r : Option (Nat × En)) (ev : Value) (w : World) (h : ∃ t p, ev = .iface t p) : Calls Tryd.prog 48 #[errOf ev r] w fun e w' => ∃ f : Int, e = .returned (.int .i64 f) ∧ Hid (f = if r.isSome then 0 else 1) ∧ St w [] w' [] := by
  cases r with
  | some p => exact (wrongNilR w).mono fun e w' h => ⟨0, h.1, hidden rfl, h.2⟩
  | none => exact (wrongErrR ev w h).mono fun e w' h => ⟨1, h.1, hidden rfl, h.2⟩
theorem step_del (s : Sg) (key value : List UInt8) (ex : Int) (now h : Nat) : s.step ⟨7, key, value, ex, now, h⟩ =
    ((match s.find (h / 256 % 256) (h / 65536 % 65536) key with | none => s | some i => s.at' i gone'), ⟨0, [], 0, (s.find (h / 256 % 256) (h / 65536 % 65536) key).isSome, []⟩) := by
  cases hf : s.find (h / 256 % 256) (h / 65536 % 65536) key with
  | none => unfold Sg.step; simp only [hf]; rfl
  | some i => unfold Sg.step; simp only [hf]; rfl
theorem step_ttl (s : Sg) (key value : List UInt8) (ex : Int) (now h : Nat) (ev : Value) : ∃ (n : Nat) (ok : Bool), (match s.find (h / 256 % 256) (h / 65536 % 65536) key with
        | none => Value.tuple #[.int .u32 0, ev]
        | some i => if Sg.ended (s.list.getD i ⟨0, 0, [], [], 0, 0, 0, true⟩).expire now = true then .tuple #[.int .u32 0, ev] else .tuple #[.int .u32 ((if (s.list.getD i ⟨0, 0, [], [], 0, 0, 0, true⟩).expire ≠ 0 then (s.list.getD i ⟨0, 0, [], [], 0, 0, 0, true⟩).expire - now else 0 : Nat) : Int), .nilIface]) = .tuple #[.int .u32 n, if ok then .nilIface else ev] ∧
    s.step ⟨6, key, value, ex, now, h⟩ = (s, ⟨if ok then 0 else 1, [], n, false, []⟩) := by
  cases hf : s.find (h / 256 % 256) (h / 65536 % 65536) key with
  | none => exact ⟨0, false, rfl, by unfold Sg.step; simp only [hf]; rfl⟩
  | some i =>
    by_cases he : Sg.ended (s.list.getD i ⟨0, 0, [], [], 0, 0, 0, true⟩).expire now = true
    · exact ⟨0, false, by simp only [if_pos he]; rfl, by unfold Sg.step; simp only [hf, Int.reduceEq, if_false, if_true, or_false, or_true, false_or, true_or, if_pos he]; rfl⟩
    · exact ⟨_, true, by simp only [if_neg he]; rfl, by unfold Sg.step; simp only [hf, Int.reduceEq, if_false, if_true, or_false, or_true, false_or, true_or, if_neg he]⟩
theorem step_tch {s s1 : Sg} {num : Int} {key value : List UInt8} {now h0 : Nat} {ex : Int} {e1 v : Value} (hn : num = 5) (h : Tch s (h0 / 256 % 256) (h0 / 65536 % 65536) now key ex e1 s1 v) (hi : ∃ t p, e1 = .iface t p) :
    ∃ ok : Bool, v = (if ok then .nilIface else e1) ∧ s.step ⟨5, key, value, ex, now, h0⟩ = (s1, ⟨if ok then 0 else 1, [], 0, false, []⟩) := by
  cases h with
  | none hf => exact ⟨false, rfl, by unfold Sg.step; simp only [hf]; rfl⟩
  | ended i e hf hi he =>
    have hgetD : s.list.getD i ⟨0, 0, [], [], 0, 0, 0, true⟩ = e := by rw [List.getD_eq_getElem?_getD, hi]; rfl
    refine ⟨false, rfl, ?_⟩
    unfold Sg.step
    simp only [hf, hgetD, Int.reduceEq, if_false, if_true, or_false, or_true, false_or, true_or, if_pos he]; rfl
  | there i e hf hi he =>
    have hgetD : s.list.getD i ⟨0, 0, [], [], 0, 0, 0, true⟩ = e := by rw [List.getD_eq_getElem?_getD, hi]; rfl
    refine ⟨true, rfl, ?_⟩
    unfold Sg.step
    simp only [hf, hgetD, he, Int.reduceEq, if_false, if_true, or_false, or_true, false_or, true_or, Bool.false_eq_true]; rfl
end Go.Proofs.YtbklhnpnkinadaaDoor
end
