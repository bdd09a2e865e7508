/- The ring buffer of the library: bytes compared. · A pointer of a slot is looked for by its key. · What a segment's memory holds beside its list of entries: the geometry, and how it changes. · How the geometry of a segment changes: an entry is deleted, the oldest one goes, is kept, a new one comes. · Atomic reads, writes and sums of a cell of a block that is known. · The ring buffer of the library: bytes written over others. · A pointer of a slot is deleted: its entry is marked, the pointers behind it move up. · A pointer of a slot is deleted by its offset. · A segment's memory and its list of entries with all that is counted. · A key is looked for in a segment that is held. · The slots of a segment are made twice as long. · A pointer is put into a slot, which grows for it if need be. · Whether an entry has ended; the time of a clock. · A pointer of a slot is given another offset. · How long a key of a segment still lives. · How what is held changes: counts, and an entry's header. · An entry of a segment is located: to be looked at alone. · A segment's deletion of a key. · An entry of a segment is located, to be got: its time is told, or it is found to have ended. · The ring buffer of the library: nothing read, to nowhere. · The value of an entry of a segment, once the entry is located. · What locating an entry comes to, in the words of the plain segment. · The library's doors to a segment. · The ring buffer of the library: a part of it. · The value of an entry of a segment is shown to a function, once the entry is located. -/
import Derived.Test.YtbklhnpnkinadaaDoorK1
import Derived.Test.YtbklhnpnkinadaaDoorK2
import Derived.Laws.Externs
import Derived.Conc.AtomicLaws2
section
namespace Go.Proofs.YtbklhnpnkinadaaDoor
open Go Go.RowKit Go.Vil
set_option linter.unusedSimpArgs false
set_option linter.unusedVariables false
set_option maxRecDepth 100000

set_option maxHeartbeats 800000 in
theorem bytesEqual (oa ob : Option Addr) (n c n' d : Nat) (xs ys : List UInt8) (w : World) (hu : Src w 1 (.slice oa n c) n (u8s xs)) (hv : Src w 1 (.slice ob n' d) n' (u8s ys)) :
    Calls Tryd.prog 75 #[.slice oa n c, .slice ob n' d] w fun e w' => e = .returned (.bool (decide (xs = ys))) ∧ St w [] w' [] := by
  have S := St.begin w
  replace hu := hidden hu
  replace hv := hidden hv
  refine Calls.cps ?_; intro R hR
  go_enter Tryd.func75, Tryd.ntmps75
  go_wp2_with (first | (refine wpList_b2s (hu.out.on S.chg) ?_) | (refine wpList_b2s (hv.out.on S.chg) ?_))
  ((first | go_ret | go_ret2 | go_ret3 | go_end0 | skip); refine hR.out _ _ ?_)
  exact ⟨retB (by by_cases h : xs = ys <;> simp [h]), S⟩

set_option maxHeartbeats 1600000 in
theorem ringEqual (q m : Nat) (T : TypeId) (r : Ri) (W sl p : List UInt8) (k n c : Nat) (oa : Option Addr) (post : List Value) (z : Int) (w : World) (hz : z = r.b + k)
    (hM : Mem w (rMem q m T r sl post)) (h : Snug r W (r.data ++ sl).length) (hs : Src w 1 (.slice oa n c) n (u8s p)) (hd : Off oa [q, m] (u8s p)) (hc : n ≤ c) (hk : k + n ≤ W.length) :
    Calls Tryd.prog 52 #[.pointer (some ⟨q, 0, none⟩), .slice oa n c, .int .i64 z] w fun e w' =>
      e = .returned (.bool (decide (p = (W.drop k).take n))) ∧ St w [q, m] w' (rMem q m T r sl post) := by
  subst hz
  have S : St w [q, m] w [rHead q m T r.b r.e r.data.length (r.data ++ sl).length r.ix post, rBlk m r.data sl] := St.start hM
  clear hM
  have hsn := hidden h
  obtain ⟨hh, h2, h3, h4⟩ := h
  have hpn := hs.len8
  have h5 := hh.le
  have h6 := hh.len
  have h7 := hh.fit
  have hat := Ri.at_lt hh k
  have hsz : r.size = r.data.length := rfl
  have hle : r.len = r.e - r.b := rfl
  have hk2 : r.b + k + n ≤ r.e := by omega
  have hb1 : decide ((r.e : Int) < (r.b : Int) + (k : Int) + (n : Int)) = false := decide_eq_false (by omega)
  have hone := @Ri.piece_one r W hh k n hk
  have htwo := @Ri.piece_two r W hh k n hk
  rw [hsz] at h7 hat hone htwo
  have hn3 : n ≤ r.data.length := by omega
  have hcl : (r.data ++ sl).length = r.data.length + sl.length := List.length_append
  unfold rMem
  generalize hC : (r.data ++ sl).length = C at *
  replace hcl := hidden hcl
  replace hone := hidden hone
  replace htwo := hidden htwo
  replace hh := hidden hh
  replace hk := hidden hk
  replace hs := hidden hs
  replace hpn := hidden hpn
  clear hle hsz
  refine Calls.cps ?_; intro R hR
  go_enter Tryd.func52, Tryd.ntmps52
  go_wp2_with ((refine wpList_ld S ?_))
  refine Calls.mono (ringOff q m T r W C k post _ _ rfl S.sel1 hsn.out (by have := hk.out; omega)) ?_
  rintro e w2 ⟨rfl, C1⟩
  have S2 := S.call C1; clear S C1; simp only [List.cons_append, List.nil_append] at S2; have S := S2; clear S2
  generalize r.at' k = at0 at *
  by_cases c1 : at0 + n ≤ r.data.length
  · have hsrc : Src w2 1 (.slice (some ⟨m, at0, none⟩) n (C - at0)) n (u8s ((W.drop k).take n)) := by
      have := S.src8 (b := m) (o := at0) (m := n) (c := C - at0) (l := r.data ++ sl) (by repeat (first | exact Pull.head | apply Pull.tail)) (by rw [List.length_append]; omega)
      rwa [List.drop_append_of_le_length (by omega), List.take_append_of_le_length (by rw [List.length_drop]; omega), ← hone.out c1] at this
    replace hsrc := hidden hsrc
    go_wp2_with (first | (refine wpList_slcBH at0 (at0 + n) ?_; rw [cutN_low (by omega), Nat.zero_add]) | (refine wpList_ld S ?_))
    refine Calls.mono (bytesEqual _ _ _ _ _ _ _ _ _ (hs.out.over S.chg hd) hsrc.out) ?_
    rintro e w3 ⟨rfl, C1⟩
    have S2 := S.call C1; clear S C1; simp only [List.cons_append, List.nil_append] at S2; have S := S2; clear S2
    go_wp2_with (fail)
    ((first | go_ret | go_ret2 | go_ret3 | go_end0 | skip); refine hR.out _ _ ?_)
    exact ⟨rfl, S⟩
  · obtain ⟨ad, rfl⟩ := hs.out.bare (by omega)
    go_upto_region 8 with ((refine wpList_ld S ?_))
    refine St.regionG S 11 [([0, 1, 2, 3, 4, 5, 6, 7, 8], 9)] [10] ?_
    clear S; intro wr S; simp only [walkSt, pick, List.getElem?_cons_succ, List.getElem?_cons_zero, List.drop_succ_cons, List.drop_zero]
    (repeat (first | (go_big_quiet_want; (first | (refine quiet_slcB at0 ?_; rw [cutN_low (by omega)]) | refine quiet_slcH (r.data.length - at0) ?_); go_big_quiet_on) | (first | (go_big_quiet_step (fail)) | (go_big_quiet_want; (refine quiet_ld S ?_); go_big_quiet_on))))
    refine wpQuiet_nil ?_
    go_wp2_with fail
    have hsrc : Src wr 1 (.slice (some ⟨m, 0 + at0, none⟩) (r.data.length - at0) (C - at0)) (r.data.length - at0) (u8s (r.data.drop at0)) := by
      have := S.src8 (b := m) (o := at0) (m := r.data.length - at0) (c := C - at0) (l := r.data ++ sl) (by repeat (first | exact Pull.head | apply Pull.tail)) (by rw [List.length_append]; omega)
      rw [Nat.zero_add]
      rwa [List.drop_append_of_le_length (by omega), List.take_append_of_le_length (Nat.le_of_eq List.length_drop.symm), List.take_of_length_le (Nat.le_of_eq List.length_drop)] at this
    rw [Nat.zero_add] at hsrc
    have hsrcp : Src wr 1 (.slice (some ad) (r.data.length - at0) c) (r.data.length - at0) (u8s (p.take (r.data.length - at0))) := (hs.out.over S.chg hd).firsts (r.data.length - at0) c (by omega)
    refine Calls.mono (bytesEqual _ _ _ _ _ _ _ _ _ hsrcp hsrc) ?_
    clear hsrc hsrcp
    rintro e w3 ⟨rfl, C1⟩
    have S2 := S.call C1; clear S C1; simp only [List.cons_append, List.nil_append] at S2; have S := S2; clear S2
    have hpl := hpn.out
    have hsp : p = (W.drop k).take n ↔ p.take (r.data.length - at0) = r.data.drop at0 ∧ p.drop (r.data.length - at0) = r.data.take (at0 + n - r.data.length) := by
      rw [htwo.out (by omega)]
      have h1 : (r.data.drop at0).length = r.data.length - at0 := List.length_drop
      constructor
      · intro h
        constructor
        · conv => lhs; rw [h]
          rw [List.take_append_of_le_length (Nat.le_of_eq h1.symm), List.take_of_length_le (Nat.le_of_eq h1)]
        · conv => lhs; rw [h]
          rw [List.drop_append_of_le_length (Nat.le_of_eq h1.symm), List.drop_of_length_le (Nat.le_of_eq h1), List.nil_append]
      · rintro ⟨h, h'⟩
        rw [← h, ← h', List.take_append_drop]
    replace hsp := hidden hsp
    clear hpl
    go_wp2_with (fail)
    refine ⟨_, S, Sel.refl _, ?_⟩; (repeat ((go_big_quiet_step (fail)))); refine wpQuiet_nil ?_
    by_cases he : p.take (r.data.length - at0) = r.data.drop at0
    · rw [decide_eq_true he]
      go_upto_region 11 with (fail)
      refine St.regionG S 11 [([0, 1, 2, 3, 4, 5, 6, 7, 8], 9)] [10] ?_
      clear S; intro wr2 S; simp only [walkSt, pick, List.getElem?_cons_succ, List.getElem?_cons_zero, List.drop_succ_cons, List.drop_zero]
      (repeat (first | (go_big_quiet_want; (first | (refine quiet_slcT (r.data.length - at0) ?_) | refine quiet_slcH (at0 + n - r.data.length) ?_); go_big_quiet_on) | (first | (go_big_quiet_step (fail)) | (go_big_quiet_want; (refine quiet_ld S ?_); go_big_quiet_on))))
      refine wpQuiet_nil ?_
      go_wp2_with fail
      have hsrc2 : Src wr2 1 (.slice (some ⟨m, 0, none⟩) (at0 + n - r.data.length) C) (at0 + n - r.data.length) (u8s (r.data.take (at0 + n - r.data.length))) := by
        have := S.src8 (b := m) (o := 0) (m := at0 + n - r.data.length) (c := C) (l := r.data ++ sl) (by repeat (first | exact Pull.head | apply Pull.tail)) (by rw [List.length_append]; omega)
        rwa [List.drop_zero, List.take_append_of_le_length (by omega)] at this
      have hsrcp2 : Src wr2 1 (.slice (some (cutAt ad (r.data.length - at0) c 1)) (n - (r.data.length - at0)) (c - (r.data.length - at0))) (n - (r.data.length - at0)) (u8s (p.drop (r.data.length - at0))) := by
        have := (hs.out.over S.chg hd).cut (r.data.length - at0) (n - (r.data.length - at0)) (c - (r.data.length - at0)) (by omega) hc
        rwa [List.take_of_length_le (by rw [List.length_drop]; have := hpn.out; omega)] at this
      refine Calls.mono (bytesEqual _ _ _ _ _ _ _ _ _ hsrcp2 hsrc2) ?_
      clear hsrc2 hsrcp2
      rintro e w4 ⟨rfl, C1⟩
      have S2 := S.call C1; clear S C1; simp only [List.cons_append, List.nil_append] at S2; have S := S2; clear S2
      go_wp2_with (fail)
      refine ⟨_, S, Sel.refl _, ?_⟩; (repeat ((go_big_quiet_step (fail)))); refine wpQuiet_nil ?_
      go_wp2_with (fail)
      ((first | go_ret | go_ret2 | go_ret3 | go_end0 | skip); refine hR.out _ _ ?_)
      refine ⟨retB ?_, S⟩
      have h2 := hsp.out
      by_cases h3 : p.drop (r.data.length - at0) = r.data.take (at0 + n - r.data.length)
      · rw [decide_eq_true h3, decide_eq_true (h2.2 ⟨he, h3⟩)]
      · rw [decide_eq_false h3, decide_eq_false (fun h => h3 (h2.1 h).2)]
    · rw [decide_eq_false he]
      go_wp2_with (fail)
      ((first | go_ret | go_ret2 | go_ret3 | go_end0 | skip); refine hR.out _ _ ?_)
      refine ⟨retB ?_, S⟩
      have h2 := hsp.out
      rw [decide_eq_false (fun h => he (h2.1 h).1)]
end Go.Proofs.YtbklhnpnkinadaaDoor
end
section
namespace Go.Proofs.YtbklhnpnkinadaaDoor
open Go Go.RowKit Go.Vil Go.ChangeShapes Go.WideShapes Go.ChangeAt
set_option linter.unusedSimpArgs false
set_option linter.unusedVariables false
set_option maxRecDepth 100000

/-- The key that a pointer points to is this one. -/
def Pt.At (W : List UInt8) (b : Nat) (key : List UInt8) (p : Pt) : Prop := p.klen = key.length ∧ (W.drop (p.off - b + 24)).take key.length = key
/-- A pointer lies in the window. -/
def Pt.In (W : List UInt8) (b : Nat) (p : Pt) : Prop := b ≤ p.off ∧ p.off - b + 24 + p.klen ≤ W.length ∧ p.off ≤ 1152921504606846976 ∧ p.klen ≤ 65535

set_option maxHeartbeats 3200000 in
theorem lookup (q m b bN : Nat) (T TB : TypeId) (r : Ri) (W sl key : List UInt8) (post : List Value) (o n c kn kc : Nat) (ka : Option Addr) (cs : List Value) (ps : List Pt) (h : Nat) (w : World)
    (M : Mem w [rHead q m T r.b r.e r.data.length (r.data ++ sl).length r.ix post, rBlk m r.data sl, .blk b (.cells cs.toArray TB (0, 0))]) (hx : ps.length = n) (hp : Pts cs o ps) (hs : RiseP ps) (hn : n ≤ 65536) (hc : n ≤ c)
    (hw : Snug r W (r.data ++ sl).length) (hb : r.b = bN) (hin : ∀ p ∈ ps, p.In W bN) (hk : Src w 1 (.slice ka kn kc) kn (u8s key)) (hd : Off ka [q, m, b] (u8s key)) (hkc : kn ≤ kc) (hkm : kn ≤ 65535) :
    Calls Tryd.prog 87 #[.pointer (some ⟨q, 0, none⟩), .slice (some ⟨b, o, none⟩) n c, .int .u16 h, .slice ka kn kc] w fun e w' => ∃ (i : Nat) (f : Bool), e = .returned (.tuple #[.int .i64 i, .bool f]) ∧
      (f = true → ∃ p, ps[i]? = some p ∧ p.hash = h ∧ p.At W bN key) ∧ (f = false → i ≤ n ∧ (∀ (j : Nat) (x : Pt), j < i → ps[j]? = some x → x.hash ≤ h) ∧ (∀ (j : Nat) (x : Pt), i ≤ j → ps[j]? = some x → h < x.hash) ∧ ∀ p ∈ ps, p.hash = h → ¬ p.At W bN key) ∧
      St w [q, m, b] w' [rHead q m T r.b r.e r.data.length (r.data ++ sl).length r.ix post, rBlk m r.data sl, .blk b (.cells cs.toArray TB (0, 0))] := by
  have S : St w [q, m, b] w _ := St.start M
  clear M
  have hp := hidden hp
  have hs := hidden hs
  have hx := hidden hx
  have hw := hidden hw
  have hb := hidden hb
  have hin := hidden hin
  have hkl := hidden hk.len8
  have hk := hidden hk
  refine Calls.cps ?_; intro R hR
  go_enter Tryd.func87, Tryd.ntmps87
  go_wp2_with (fail)
  refine Calls.mono (ptrIdx b o n c cs ps h _ TB S.sel1 hx.out hp.out hs.out hn hc) ?_
  rintro e w2 ⟨lo, rfl, hlo, C⟩
  have S2 := S.call C; clear S C; simp only [List.cons_append, List.nil_append] at S2; have S := S2; clear S2
  have hlo := hidden hlo
  have hlon : lo ≤ n := by have := hlo.out.1; have := hx.out; omega
  go_wp2_with fail
  go_loopg [8, 9] n (fun g i f wr => ∃ j : Nat, lo ≤ j ∧ j ≤ n ∧ n - j ≤ g ∧ i = .int .i64 j ∧ f = .bool false ∧ Hid (∀ (i : Nat) (x : Pt), lo ≤ i → i < j → ps[i]? = some x → x.hash = h ∧ ¬ x.At W bN key) ∧
    St w [q, m, b] wr [rHead q m T r.b r.e r.data.length (r.data ++ sl).length r.ix post, rBlk m r.data sl, .blk b (.cells cs.toArray TB (0, 0))])
  case atStart => exact ⟨lo, by omega, hlon, by omega, rfl, rfl, hidden (fun i x h1 h2 => by omega), S.sel (by repeat (first | exact Sel.nil | (apply Sel.cons; (repeat (first | exact Pull.head | apply Pull.tail)))))⟩
  case round =>
    obtain ⟨j, hj1, hj2, hj3, rfl, rfl, hno, S⟩ := hrel
    by_cases hlt : j < n
    · obtain ⟨p, hpj, q0, q1, q2⟩ := hp.out.at' (j := j) (by have := hx.out; omega)
      have hpI := hidden (hin.out p (List.mem_of_getElem? hpj))
      have hpj := hidden hpj
      by_cases hph : p.hash = h
      · by_cases hpk : p.klen = kn
        · have hbk : ((p.klen : Int) == (kn : Int)) = true := by simp; omega
          go_upto_region 5 with (first | (refine wpList_ld S ?_ (hi := by assumption)))
          have hpo := hpI.out.2.2.1
          have hpo2 := hpI.out.2.2.2
          refine St.regionG S 21 [([0, 1, 2, 3, 4, 5, 6, 7, 8, 9, 10, 11, 12, 13, 14, 15, 16, 17], 18)] [19, 20] ?_
          clear S; intro wr S; simp only [walkSt, pick, List.getElem?_cons_succ, List.getElem?_cons_zero, List.drop_succ_cons, List.drop_zero]; (repeat (first | (go_big_quiet_want; (refine quiet_ld S ?_ (hi := by assumption)); go_big_quiet_on) | ((go_big_quiet_step (fail))))); refine wpQuiet_nil ?_
          go_wp2_with fail
          refine Calls.mono (ringEqual q m T r W sl key (p.off - bN + 24) kn kc ka post _ _ (by have := hpI.out.1; have := hb.out; omega) S.sel2 hw.out (hk.out.over S.chg hd) (hd.mono (by simp)) hkc (by have := hpI.out.2.1; omega)) ?_
          rintro e w2 ⟨rfl, C⟩
          have S2 := S.call C; clear S C; simp only [List.cons_append, List.nil_append] at S2; have S := S2; clear S2
          by_cases hA : key = (W.drop (p.off - bN + 24)).take kn
          · rw [decide_eq_true hA]
            go_wp2_with fail
            refine ⟨_, S, (by repeat (first | exact Sel.nil | (apply Sel.cons; (repeat (first | exact Pull.head | apply Pull.tail))))), ?_⟩; (repeat ((go_big_quiet_step (fail)))); refine wpQuiet_nil ?_
            go_wp2_with fail
            ((first | go_ret | go_ret2 | go_ret3 | go_end0 | skip); refine hR.out _ _ ?_)
            exact ⟨j, true, rfl, fun _ => ⟨p, hpj.out, hph, by rw [hkl.out]; exact hpk, by rw [hkl.out]; exact hA.symm⟩, fun h0 => (by cases h0), S.sel (by repeat (first | exact Sel.nil | (apply Sel.cons; (repeat (first | exact Pull.head | apply Pull.tail)))))⟩
          · rw [decide_eq_false hA]
            go_wp2_with fail
            refine ⟨_, S, (by repeat (first | exact Sel.nil | (apply Sel.cons; (repeat (first | exact Pull.head | apply Pull.tail))))), ?_⟩; (repeat ((go_big_quiet_step (fail)))); refine wpQuiet_nil ?_
            go_wp2_with fail
            go_roundg (gk - 1)
            case measure => omega
            case rel =>
              refine ⟨j + 1, by omega, by omega, by omega, rfl, rfl, hidden ?_, S.sel (by repeat (first | exact Sel.nil | (apply Sel.cons; (repeat (first | exact Pull.head | apply Pull.tail)))))⟩
              intro i x h1 hi hxi
              by_cases e : i = j
              · subst e; rw [hpj.out] at hxi; cases hxi; exact ⟨hph, fun hh => hA (by rw [← hkl.out]; exact hh.2.symm)⟩
              · exact hno.out i x h1 (by omega) hxi
        · have hbk : ((p.klen : Int) == (kn : Int)) = false := by simp; omega
          go_upto_region 5 with (first | (refine wpList_ld S ?_ (hi := by assumption)))
          have hpo := hpI.out.2.2.1
          have hpo2 := hpI.out.2.2.2
          refine St.regionG S 21 [([0, 1, 2, 3, 4, 5, 6, 7, 8, 9, 10, 11, 12, 13, 14, 15, 16, 17], 18)] [19, 20] ?_
          clear S; intro wr S; simp only [walkSt, pick, List.getElem?_cons_succ, List.getElem?_cons_zero, List.drop_succ_cons, List.drop_zero]; (repeat (first | go_big_quiet_skip | (go_big_quiet_want; (refine quiet_ld S ?_ (hi := by assumption)); go_big_quiet_on) | ((go_big_quiet_step (fail))))); refine wpQuiet_nil ?_
          go_wp2_with fail
          refine ⟨_, S, (by repeat (first | exact Sel.nil | (apply Sel.cons; (repeat (first | exact Pull.head | apply Pull.tail))))), ?_⟩; (repeat ((go_big_quiet_step (fail)))); refine wpQuiet_nil ?_
          go_wp2_with fail
          go_roundg (gk - 1)
          case measure => omega
          case rel =>
            refine ⟨j + 1, by omega, by omega, by omega, rfl, rfl, hidden ?_, S.sel (by repeat (first | exact Sel.nil | (apply Sel.cons; (repeat (first | exact Pull.head | apply Pull.tail)))))⟩
            intro i x h1 hi hxi
            by_cases e : i = j
            · subst e; rw [hpj.out] at hxi; cases hxi; exact ⟨hph, fun hh => hpk (by rw [← hkl.out]; exact hh.1)⟩
            · exact hno.out i x h1 (by omega) hxi
      · go_wp2_with (refine wpList_ld S ?_ (hi := by assumption))
        ((first | go_ret | go_ret2 | go_ret3 | go_end0 | skip); refine hR.out _ _ ?_)
        refine ⟨j, false, rfl, fun h0 => (by cases h0), fun _ => ⟨hj2, ?_, ?_, ?_⟩, S⟩
        · intro i x hi hxi
          by_cases e : i < lo
          · exact Nat.le_of_lt (hlo.out.2.1 i x e hxi)
          · exact Nat.le_of_eq (hno.out i x (by omega) hi hxi).1
        · intro i x hi hxi
          have h1 := hs.out j i p x hi hpj.out hxi
          have h2 := hlo.out.2.2 j p hj1 hpj.out
          omega
        · intro x hx2 he
          obtain ⟨i, hi⟩ := List.mem_iff_getElem?.1 hx2
          by_cases e : i < lo
          · have := hlo.out.2.1 i x e hi; omega
          · by_cases hij : i < j
            · exact (hno.out i x (by omega) hij hi).2
            · have h1 := hs.out j i p x (by omega) hpj.out hi
              have h2 := hlo.out.2.2 j p hj1 hpj.out
              omega
    · go_wp2_with (fail)
      ((first | go_ret | go_ret2 | go_ret3 | go_end0 | skip); refine hR.out _ _ ?_)
      have hjn : j = n := by omega
      refine ⟨j, false, rfl, fun h0 => (by cases h0), fun _ => ⟨hj2, ?_, ?_, ?_⟩, S⟩
      · intro i x hi hxi
        by_cases e : i < lo
        · exact Nat.le_of_lt (hlo.out.2.1 i x e hxi)
        · exact Nat.le_of_eq (hno.out i x (by omega) hi hxi).1
      · intro i x hi hxi
        have h1 := (List.getElem?_eq_some_iff.1 hxi).1
        have := hx.out; omega
      · intro x hx2 he
        obtain ⟨i, hi⟩ := List.mem_iff_getElem?.1 hx2
        have h1 := (List.getElem?_eq_some_iff.1 hi).1
        by_cases e : i < lo
        · have := hlo.out.2.1 i x e hi; omega
        · exact (hno.out i x (by omega) (by have := hx.out; omega) hi).2
end Go.Proofs.YtbklhnpnkinadaaDoor
end
section
namespace Go.Proofs.YtbklhnpnkinadaaDoor
open Go.Vil Go.Vil.Ri Go.RowKit
set_option linter.unusedVariables false

structure Sm where
  m : Nat
  r : Ri
  W : List UInt8
  sl : List UInt8
  h : Hd
  cs : List Go.Value
  L : List (List Pt)
namespace Sm
/-- Where the oldest entry lies. -/
def o0 (x : Sm) (l : List En) : Nat := x.r.e - Sg.used l
abbrev mem (x : Sm) (q : Nat) (T TB : Go.TypeId) : List Res := [rHead q x.m T x.r.b x.r.e x.r.data.length (x.r.data ++ x.sl).length x.r.ix x.h.post, rBlk x.m x.r.data x.sl, .blk x.h.sb (.cells x.cs.toArray TB (0, 0))]
end Sm
/-- Each offset is there once. -/
def OneP (ps : List Pt) : Prop := ∀ (i j : Nat) (a b : Pt), ps[i]? = some a → ps[j]? = some b → a.off = b.off → i = j
structure Geo (size : Nat) (l : List En) (x : Sm) : Prop where
  snug : Snug x.r x.W (x.r.data ++ x.sl).length
  size : x.r.data.length = size
  used : Sg.used l ≤ x.W.length
  ent : ∀ (i : Nat) (e : En), l[i]? = some e → EnAt x.W x.r.b (pos (x.o0 l) l i) e
  slots : Slots x.h x.cs x.L
  ptr : ∀ (t : Nat) (ps : List Pt), x.L[t]? = some ps → ∀ p, p ∈ ps ↔ ∃ (i : Nat) (e : En), l[i]? = some e ∧ e.gone = false ∧ e.slot = t ∧ p = En.pt e (pos (x.o0 l) l i)
  one : ∀ ps ∈ x.L, OneP ps
  sum : (x.L.map List.length).sum = Sg.count l
  uniq : ∀ (i j : Nat) (a b : En), l[i]? = some a → l[j]? = some b → a.gone = false → b.gone = false → a.slot = b.slot → a.hash = b.hash → a.key = b.key → i = j
  cap : x.h.cap ≤ 8192

theorem mem_erase' {ps : List Pt} (h : OneP ps) {j : Nat} {p : Pt} (hp : ps[j]? = some p) (x : Pt) : x ∈ ps.eraseIdx j ↔ x ∈ ps ∧ x.off ≠ p.off := by
  rw [List.mem_eraseIdx_iff_getElem?]
  constructor
  · rintro ⟨i, hi, hx⟩
    exact ⟨List.mem_of_getElem? hx, fun e => hi (h i j x p hx hp e)⟩
  · rintro ⟨hx, hn⟩
    obtain ⟨i, hi⟩ := List.mem_iff_getElem?.1 hx
    refine ⟨i, fun e => ?_, hi⟩
    subst e
    rw [hi] at hp; cases hp; exact hn rfl
theorem one_erase {ps : List Pt} (h : OneP ps) (j : Nat) : OneP (ps.eraseIdx j) := by
  intro a b x y hx hy e
  rw [List.getElem?_eraseIdx] at hx hy
  split at hx <;> split at hy
  · exact h a b x y hx hy e
  · have := h a (b + 1) x y hx hy e; omega
  · have := h (a + 1) b x y hx hy e; omega
  · have := h (a + 1) (b + 1) x y hx hy e; omega
theorem one_insert {ps : List Pt} (h : OneP ps) {i : Nat} (hi : i ≤ ps.length) {p : Pt} (hn : ∀ x ∈ ps, x.off ≠ p.off) : OneP (ps.insertIdx i p) := by
  have key : ∀ (a : Nat) (x : Pt), (ps.insertIdx i p)[a]? = some x → (a = i ∧ x = p) ∨ (∃ c, ps[c]? = some x ∧ a = (if c < i then c else c + 1)) := by
    intro a x hx
    rw [List.getElem?_insertIdx] at hx
    by_cases h1 : a < i
    · rw [if_pos h1] at hx; exact .inr ⟨a, hx, by rw [if_pos h1]⟩
    · rw [if_neg h1] at hx
      by_cases h2 : a = i
      · subst h2; rw [if_pos rfl, if_pos hi] at hx; cases hx; exact .inl ⟨rfl, rfl⟩
      · rw [if_neg h2] at hx; exact .inr ⟨a - 1, hx, by rw [if_neg (by omega)]; omega⟩
  intro a b x y hx hy e
  rcases key a x hx with ⟨rfl, rfl⟩ | ⟨c, hc, hac⟩ <;> rcases key b y hy with ⟨rfl, rfl⟩ | ⟨d, hd, hbd⟩
  · rfl
  · exact absurd e.symm (hn y (List.mem_of_getElem? hd))
  · exact absurd e (hn x (List.mem_of_getElem? hc))
  · have := h c d x y hc hd e
    subst this; rw [hac, hbd]
theorem mem_set' {ps : List Pt} (h : OneP ps) {j : Nat} {p : Pt} (hp : ps[j]? = some p) (p' x : Pt) : x ∈ ps.set j p' ↔ x = p' ∨ (x ∈ ps ∧ x.off ≠ p.off) := by
  have hj := (List.getElem?_eq_some_iff.1 hp).1
  constructor
  · intro hx
    obtain ⟨i, hi⟩ := List.mem_iff_getElem?.1 hx
    rw [List.getElem?_set] at hi
    by_cases e : j = i
    · subst e; rw [if_pos rfl, if_pos hj] at hi; cases hi; exact .inl rfl
    · rw [if_neg e] at hi
      exact .inr ⟨List.mem_of_getElem? hi, fun e2 => e (h i j x p hi hp e2).symm⟩
  · rintro (rfl | ⟨hx, hn⟩)
    · exact List.mem_iff_getElem?.2 ⟨j, by rw [List.getElem?_set, if_pos rfl, if_pos hj]⟩
    · obtain ⟨i, hi⟩ := List.mem_iff_getElem?.1 hx
      refine List.mem_iff_getElem?.2 ⟨i, ?_⟩
      rw [List.getElem?_set, if_neg ?_]
      · exact hi
      · intro e; subst e; rw [hi] at hp; cases hp; exact hn rfl
theorem one_set {ps : List Pt} (h : OneP ps) {j : Nat} {p' : Pt} (hn : ∀ x ∈ ps, x.off ≠ p'.off) : OneP (ps.set j p') := by
  have key : ∀ (a : Nat) (x : Pt), (ps.set j p')[a]? = some x → (a = j ∧ x = p') ∨ (a ≠ j ∧ ps[a]? = some x) := by
    intro a x hx
    rw [List.getElem?_set] at hx
    by_cases e : j = a
    · subst e; rw [if_pos rfl] at hx
      split at hx
      · cases hx; exact .inl ⟨rfl, rfl⟩
      · cases hx
    · rw [if_neg e] at hx; exact .inr ⟨fun h => e h.symm, hx⟩
  intro a b x y hx hy e
  rcases key a x hx with ⟨rfl, rfl⟩ | ⟨c, hc⟩ <;> rcases key b y hy with ⟨rfl, rfl⟩ | ⟨d, hd⟩
  · rfl
  · exact absurd e.symm (hn y (List.mem_of_getElem? hd))
  · exact absurd e (hn x (List.mem_of_getElem? hc))
  · exact h a b x y hc hd e
theorem sum_set : ∀ (L : List (List Pt)) (t : Nat) (ps qs : List Pt), L[t]? = some ps → ((L.set t qs).map List.length).sum + ps.length = (L.map List.length).sum + qs.length
  | [], t, ps, qs, h => by cases h
  | p :: L, 0, ps, qs, h => by
    cases h
    show qs.length + (L.map List.length).sum + p.length = p.length + (L.map List.length).sum + qs.length
    omega
  | p :: L, t + 1, ps, qs, h => by
    have := sum_set L t ps qs h
    show p.length + ((L.set t qs).map List.length).sum + ps.length = p.length + (L.map List.length).sum + qs.length
    omega
theorem le_sum : ∀ (L : List (List Pt)) (t : Nat) (ps : List Pt), L[t]? = some ps → ps.length ≤ (L.map List.length).sum
  | [], t, ps, h => by cases h
  | p :: L, 0, ps, h => by
    cases h
    show p.length ≤ p.length + (L.map List.length).sum
    omega
  | p :: L, t + 1, ps, h => by
    have := le_sum L t ps h
    show ps.length ≤ p.length + (L.map List.length).sum
    omega
theorem count_modify_same (f : En → En) (hf : ∀ e, (f e).gone = e.gone) : ∀ (l : List En) (i : Nat), Sg.count (l.modify i f) = Sg.count l
  | [], i => by simp
  | e :: l, 0 => by
    show Sg.count (f e :: l) = _
    unfold Sg.count
    rw [List.filter_cons, List.filter_cons, hf]
    split <;> simp
  | e :: l, i + 1 => by
    have := count_modify_same f hf l i
    show Sg.count (e :: l.modify i f) = _
    unfold Sg.count at this ⊢
    rw [List.filter_cons, List.filter_cons]
    split <;> simp [this]
theorem count_modify_gone (f : En → En) (hf : ∀ e, (f e).gone = true) : ∀ (l : List En) (i : Nat) (e : En), l[i]? = some e → e.gone = false → Sg.count (l.modify i f) + 1 = Sg.count l
  | [], i, e, h, _ => by cases h
  | e :: l, 0, e', h, hg => by
    cases h
    show Sg.count (f e :: l) + 1 = _
    unfold Sg.count
    rw [List.filter_cons, List.filter_cons, hf, hg]
    simp
  | e :: l, i + 1, e', h, hg => by
    have := count_modify_gone f hf l i e' h hg
    show Sg.count (e :: l.modify i f) + 1 = _
    unfold Sg.count at this ⊢
    rw [List.filter_cons, List.filter_cons]
    split <;> simp [← this]
theorem count_le (l : List En) : Sg.count l ≤ l.length := List.length_filter_le _ _
theorem len_used : ∀ l : List En, l.length ≤ Sg.used l
  | [] => Nat.zero_le _
  | e :: l => by
    have := len_used l
    have := en_len_pos e
    rw [used_cons, List.length_cons]; omega
theorem get_modify (l : List En) (i : Nat) (f : En → En) (j : Nat) : (l.modify i f)[j]? = if i = j then (l[j]?).map f else l[j]? := by
  rw [List.getElem?_modify]
  split <;> simp_all

namespace Geo
variable {size : Nat} {l : List En} {x : Sm}
theorem ends (g : Geo size l x) : x.r.b + x.W.length = x.r.e := by
  have h1 := g.snug.has.len
  have h2 := g.snug.has.le
  unfold Ri.len at h1; omega
theorem fits (g : Geo size l x) : x.W.length ≤ size := by
  have h1 := g.snug.has.len
  have h2 := g.snug.has.fit
  have h3 : x.r.size = x.r.data.length := rfl
  have := g.size; omega
theorem low (g : Geo size l x) : x.r.b ≤ x.o0 l := by
  have := g.ends
  have := g.used
  unfold Sm.o0; omega
theorem few (g : Geo size l x) {t : Nat} {ps : List Pt} (h : x.L[t]? = some ps) : ps.length ≤ size := by
  have h1 := le_sum _ _ _ h
  have h2 := g.sum
  have h3 := count_le l
  have h4 := len_used l
  have h5 := g.used
  have h6 := g.fits
  omega
/-- The pointer of an entry is there. -/
theorem ptr_of (g : Geo size l x) {i : Nat} {e : En} (hi : l[i]? = some e) (hg : e.gone = false) : ∃ ps, x.L[e.slot]? = some ps ∧ En.pt e (pos (x.o0 l) l i) ∈ ps := by
  have hs := (g.ent i e hi).ok.2.2.2.2.2.2.2
  obtain ⟨ps, hps⟩ := g.slots.has hs
  exact ⟨ps, hps, (g.ptr _ ps hps _).2 ⟨i, e, hi, hg, rfl, rfl⟩⟩
theorem ptr_in (g : Geo size l x) {t : Nat} {ps : List Pt} (h : x.L[t]? = some ps) {p : Pt} (hp : p ∈ ps) : p.In x.W x.r.b := by
  obtain ⟨i, e, hi, hg, hs, rfl⟩ := (g.ptr t ps h p).1 hp
  have k := g.ent i e hi
  have h1 := k.low
  have h2 := k.fit
  have h3 := k.len
  have h4 := g.ends
  have h5 := g.snug.e
  refine ⟨h1, ?_, ?_, k.ok.1⟩
  · show pos (x.o0 l) l i - x.r.b + 24 + e.key.length ≤ x.W.length
    omega
  · show pos (x.o0 l) l i ≤ 1152921504606846976
    omega
/-- Only what is counted is changed. -/
theorem head (g : Geo size l x) {h' : Hd} (h1 : h'.lens = x.h.lens) (h2 : h'.cap = x.h.cap) : Geo size l { x with h := h' } := by
  obtain ⟨a1, a2, a3, a4, a5, a6, a7, a8, a9, a10⟩ := g
  refine ⟨a1, a2, a3, a4, ?_, a6, a7, a8, a9, by show h'.cap ≤ 8192; rw [h2]; exact a10⟩
  obtain ⟨b1, b2, b3, b4, b5, b6, b7, b8, b9⟩ := a5
  exact ⟨b1, by rw [h1]; exact b2, by show x.cs.length = 256 * h'.cap * 4; rw [h2]; exact b3, by show ∀ ps ∈ x.L, ps.length ≤ h'.cap; rw [h2]; exact b4, by show 1 ≤ h'.cap; rw [h2]; exact b5, by show h'.cap ≤ 65536; rw [h2]; exact b6, by show ∀ (s : Nat) (ps : List Pt), x.L[s]? = some ps → Pts x.cs (s * h'.cap * 4) ps; rw [h2]; exact b7, b8, b9⟩
/-- An entry is changed in place. -/
theorem changed (g : Geo size l x) {i : Nat} {e : En} (hi : l[i]? = some e) (f : En → En) (f1 : ∀ e, (f e).key = e.key) (f2 : ∀ e, (f e).room = e.room) (f3 : ∀ e, (f e).slot = e.slot) (f4 : ∀ e, (f e).hash = e.hash) (f5 : ∀ e, (f e).gone = e.gone)
    {r' : Ri} {W' : List UInt8} (hr : r'.Has W') (hb : r'.b = x.r.b) (he : r'.e = x.r.e) (hs : r'.data.length = x.r.data.length) (hW : W'.length = x.W.length)
    (hat : EnAt W' x.r.b (pos (x.o0 l) l i) (f e)) (ho : ∀ (j : Nat) (a : En), j ≠ i → l[j]? = some a → EnAt W' x.r.b (pos (x.o0 l) l j) a) : Geo size (l.modify i f) { x with r := r', W := W' } := by
  have fl : ∀ e, (f e).len = e.len := fun e => by unfold En.len; rw [f1, f2]
  have hu := used_modify f fl l i
  have hp : ∀ j, pos (Sm.o0 { x with r := r', W := W' } (l.modify i f)) (l.modify i f) j = pos (x.o0 l) l j := by
    intro j
    unfold Sm.o0
    rw [hu, he, pos_modify f fl]
  have ho' := g.snug
  refine ⟨⟨hr, by rw [he]; exact g.snug.e, by rw [hs]; exact g.snug.size, by simp⟩, by rw [hs]; exact g.size, by rw [hu, hW]; exact g.used, ?_, g.slots, ?_, g.one, by rw [count_modify_same f f5]; exact g.sum, ?_, g.cap⟩
  · intro j a ha
    rw [hp]
    show EnAt W' r'.b _ a
    rw [hb]
    rw [get_modify] at ha
    by_cases e1 : i = j
    · subst e1
      rw [if_pos rfl, hi] at ha
      cases ha
      exact hat
    · rw [if_neg e1] at ha
      exact ho j a (fun h => e1 h.symm) ha
  · intro t ps hps p
    rw [g.ptr t ps hps p]
    constructor
    · rintro ⟨j, a, ha, hg, hsl, rfl⟩
      refine ⟨j, if i = j then f a else a, ?_, ?_, ?_, ?_⟩
      · rw [get_modify]
        by_cases e1 : i = j
        · rw [if_pos e1, if_pos e1, ha]; rfl
        · rw [if_neg e1, if_neg e1, ha]
      · split
        · rw [f5]; exact hg
        · exact hg
      · split
        · rw [f3]; exact hsl
        · exact hsl
      · rw [hp]
        split
        · unfold En.pt; rw [f4, f1]
        · rfl
    · rintro ⟨j, a, ha, hg, hsl, rfl⟩
      rw [get_modify] at ha
      by_cases e1 : i = j
      · subst e1
        rw [if_pos rfl, hi] at ha
        cases ha
        refine ⟨i, e, hi, by rw [f5] at hg; exact hg, by rw [f3] at hsl; exact hsl, ?_⟩
        rw [hp]; unfold En.pt; rw [f4, f1]
      · rw [if_neg e1] at ha
        exact ⟨j, a, ha, hg, hsl, by rw [hp]⟩
  · have key : ∀ (j : Nat) (a : En), (l.modify i f)[j]? = some a → ∃ c, l[j]? = some c ∧ a.gone = c.gone ∧ a.slot = c.slot ∧ a.hash = c.hash ∧ a.key = c.key := by
      intro j a ha
      rw [get_modify] at ha
      by_cases e1 : i = j
      · subst e1
        rw [if_pos rfl, hi] at ha
        cases ha
        exact ⟨e, hi, f5 e, f3 e, f4 e, f1 e⟩
      · rw [if_neg e1] at ha
        exact ⟨a, ha, rfl, rfl, rfl, rfl⟩
    intro j k a c ha hc ga gc q1 q2 q3
    obtain ⟨a', ha', b1, b2, b3, b4⟩ := key j a ha
    obtain ⟨c', hc', d1, d2, d3, d4⟩ := key k c hc
    exact g.uniq j k a' c' ha' hc' (by rw [← b1]; exact ga) (by rw [← d1]; exact gc) (by rw [← b2, ← d2]; exact q1) (by rw [← b3, ← d3]; exact q2) (by rw [← b4, ← d4]; exact q3)
end Geo
end Go.Proofs.YtbklhnpnkinadaaDoor
end
section
namespace Go.Proofs.YtbklhnpnkinadaaDoor
open Go.Vil Go.Vil.Ri Go.RowKit
set_option linter.unusedVariables false
def gone' (e : En) : En := { e with gone := true }
namespace Geo
variable {size : Nat} {l : List En} {x : Sm}
/-- Whose pointer it is. -/
theorem whose (g : Geo size l x) {t : Nat} {ps : List Pt} (h : x.L[t]? = some ps) {p : Pt} (hp : p ∈ ps) : ∃ (i : Nat) (e : En), l[i]? = some e ∧ e.gone = false ∧ e.slot = t ∧ p = En.pt e (pos (x.o0 l) l i) := (g.ptr t ps h p).1 hp
theorem deleted (g : Geo size l x) {i : Nat} {e : En} (hi : l[i]? = some e) (hg : e.gone = false) {ps : List Pt} (hps : x.L[e.slot]? = some ps) {j : Nat} (hj : ps[j]? = some (En.pt e (pos (x.o0 l) l i)))
    {r' : Ri} {W' : List UInt8} {h' : Hd} {cs' : List Go.Value} (hr : r'.Has W') (hb : r'.b = x.r.b) (he : r'.e = x.r.e) (hs : r'.data.length = x.r.data.length) (hW : W'.length = x.W.length)
    (hat : EnAt W' x.r.b (pos (x.o0 l) l i) (gone' e)) (ho : ∀ (j : Nat) (a : En), j ≠ i → l[j]? = some a → EnAt W' x.r.b (pos (x.o0 l) l j) a)
    (hsl : Slots h' cs' (x.L.set e.slot (ps.eraseIdx j))) (hc : h'.cap = x.h.cap) : Geo size (l.modify i gone') { x with r := r', W := W', h := h', cs := cs', L := x.L.set e.slot (ps.eraseIdx j) } := by
  have fl : ∀ e, (gone' e).len = e.len := fun e => rfl
  have hu := used_modify gone' fl l i
  have hp : ∀ k, pos (Sm.o0 { x with r := r', W := W', h := h', cs := cs', L := x.L.set e.slot (ps.eraseIdx j) } (l.modify i gone')) (l.modify i gone') k = pos (x.o0 l) l k := by
    intro k
    unfold Sm.o0
    rw [hu, he, pos_modify gone' fl]
  have hjl := (List.getElem?_eq_some_iff.1 hj).1
  have h1 := g.one ps (List.mem_of_getElem? hps)
  have hsn := g.snug
  refine ⟨⟨hr, by rw [he]; exact g.snug.e, by rw [hs]; exact g.snug.size, by simp⟩, by rw [hs]; exact g.size, by rw [hu, hW]; exact g.used, ?_, hsl, ?_, ?_, ?_, ?_, by rw [hc]; exact g.cap⟩
  · intro k a ha
    rw [hp]
    show EnAt W' r'.b _ a
    rw [hb]
    rw [get_modify] at ha
    by_cases e1 : i = k
    · subst e1
      rw [if_pos rfl, hi] at ha
      cases ha
      exact hat
    · rw [if_neg e1] at ha
      exact ho k a (fun h => e1 h.symm) ha
  · intro t qs hqs p
    replace hqs : (x.L.set e.slot (ps.eraseIdx j))[t]? = some qs := hqs
    rw [List.getElem?_set] at hqs
    have back : ∀ (k : Nat) (a : En), (l.modify i gone')[k]? = some a → a.gone = false → i ≠ k ∧ l[k]? = some a := by
      intro k a ha hga
      rw [get_modify] at ha
      by_cases e1 : i = k
      · subst e1; rw [if_pos rfl, hi] at ha; cases ha; cases hga
      · rw [if_neg e1] at ha; exact ⟨e1, ha⟩
    have forth : ∀ (k : Nat) (a : En), i ≠ k → l[k]? = some a → (l.modify i gone')[k]? = some a := by
      intro k a hk ha
      rw [get_modify, if_neg hk]; exact ha
    by_cases e2 : e.slot = t
    · rw [if_pos e2] at hqs
      split at hqs
      · cases hqs
        rw [mem_erase' h1 hj p, g.ptr e.slot ps hps p]
        constructor
        · rintro ⟨⟨k, a, ha, hga, hsa, rfl⟩, hn⟩
          refine ⟨k, a, forth k a (fun e3 => hn ?_) ha, hga, by rw [hsa, e2], by rw [hp]⟩
          subst e3
          show pos (x.o0 l) l i = pos (x.o0 l) l i
          rfl
        · rintro ⟨k, a, ha, hga, hsa, rfl⟩
          obtain ⟨hk, ha⟩ := back k a ha hga
          refine ⟨⟨k, a, ha, hga, by rw [hsa, e2], by rw [hp]⟩, fun e3 => hk ?_⟩
          rw [hp] at e3
          exact (pos_inj ha hi e3).symm
      · cases hqs
    · rw [if_neg e2] at hqs
      rw [g.ptr t qs hqs p]
      constructor
      · rintro ⟨k, a, ha, hga, hsa, rfl⟩
        refine ⟨k, a, forth k a (fun e3 => ?_) ha, hga, hsa, by rw [hp]⟩
        subst e3
        rw [hi] at ha; cases ha; exact e2 hsa
      · rintro ⟨k, a, ha, hga, hsa, rfl⟩
        obtain ⟨hk, ha⟩ := back k a ha hga
        exact ⟨k, a, ha, hga, hsa, by rw [hp]⟩
  · intro qs hqs
    rcases List.mem_or_eq_of_mem_set hqs with h | rfl
    · exact g.one qs h
    · exact one_erase h1 j
  · have q1 := sum_set x.L e.slot ps (ps.eraseIdx j) hps
    have q2 := count_modify_gone gone' (fun _ => rfl) l i e hi hg
    have q3 := g.sum
    rw [List.length_eraseIdx_of_lt hjl] at q1
    show ((x.L.set e.slot (ps.eraseIdx j)).map List.length).sum = _
    omega
  · have key : ∀ (k : Nat) (a : En), (l.modify i gone')[k]? = some a → a.gone = false → l[k]? = some a := by
      intro k a ha hga
      rw [get_modify] at ha
      by_cases e1 : i = k
      · subst e1; rw [if_pos rfl, hi] at ha; cases ha; cases hga
      · rw [if_neg e1] at ha; exact ha
    intro k k2 a c ha hc2 ga gc q1 q2 q3
    exact g.uniq k k2 a c (key k a ha ga) (key k2 c hc2 gc) ga gc q1 q2 q3
/-- The oldest entry, which was deleted, goes. -/
theorem popped {e : En} (g : Geo size (e :: l) x) (hg : e.gone = true) : Geo size l x := by
  have hu : Sg.used (e :: l) = e.len + Sg.used l := used_cons e l
  have h1 := g.used
  have h2 := g.ends
  have hp : ∀ k, pos (x.o0 l) l k = pos (x.o0 (e :: l)) (e :: l) (k + 1) := by
    intro k
    rw [pos_cons]
    unfold Sm.o0 pos
    omega
  refine ⟨g.snug, g.size, by omega, fun k a ha => ?_, g.slots, fun t ps hps p => ?_, g.one, ?_, ?_, g.cap⟩
  · rw [hp]; exact g.ent (k + 1) a ha
  · rw [g.ptr t ps hps p]
    constructor
    · rintro ⟨k, a, ha, hga, hsa, rfl⟩
      match k, ha with
      | 0, ha => cases ha; rw [hg] at hga; cases hga
      | k + 1, ha => exact ⟨k, a, ha, hga, hsa, by rw [hp]⟩
    · rintro ⟨k, a, ha, hga, hsa, rfl⟩
      exact ⟨k + 1, a, ha, hga, hsa, by rw [hp]⟩
  · rw [g.sum]
    unfold Sg.count
    rw [List.filter_cons, hg]; rfl
  · intro i j a c ha hc ga gc q1 q2 q3
    have := g.uniq (i + 1) (j + 1) a c ha hc ga gc q1 q2 q3
    omega
/-- The oldest entry is kept as the youngest. -/
theorem kept {e : En} (g : Geo size (e :: l) x) (hg : e.gone = false) {ps : List Pt} (hps : x.L[e.slot]? = some ps) {j : Nat} (hj : ps[j]? = some (En.pt e (x.o0 (e :: l))))
    {r' : Ri} {h' : Hd} {cs' : List Go.Value} (hr : r'.Has (last size (x.W ++ (x.W.drop (x.o0 (e :: l) - x.r.b)).take e.len))) (hb : r'.b = x.r.b + (x.W.length + e.len - size)) (he : r'.e = x.r.e + e.len) (he2 : r'.e ≤ 1152921504606846976) (hs : r'.data.length = x.r.data.length)
    (hsl : Slots h' cs' (x.L.set e.slot (ps.set j (En.pt e x.r.e)))) (hc : h'.cap = x.h.cap) :
    Geo size (l ++ [e]) { x with r := r', W := last size (x.W ++ (x.W.drop (x.o0 (e :: l) - x.r.b)).take e.len), h := h', cs := cs', L := x.L.set e.slot (ps.set j (En.pt e x.r.e)) } := by
  have hu : Sg.used (e :: l) = e.len + Sg.used l := used_cons e l
  have hu2 : Sg.used (l ++ [e]) = Sg.used l + e.len := by rw [used_append]; rfl
  have h1 := g.used
  have h2 := g.ends
  have h3 := g.fits
  have hjl := (List.getElem?_eq_some_iff.1 hj).1
  have h4 := g.one ps (List.mem_of_getElem? hps)
  have hsn := g.snug
  have k0 := g.ent 0 e rfl
  have hp0 : pos (x.o0 (e :: l)) (e :: l) 0 = x.o0 (e :: l) := rfl
  rw [hp0] at k0
  have hlow := k0.low
  have hfit := k0.fit
  have hplen : ((x.W.drop (x.o0 (e :: l) - x.r.b)).take e.len).length = e.len := by rw [List.length_take, List.length_drop]; omega
  have hp : ∀ k : Nat, k < l.length → pos (Sm.o0 { x with r := r', W := last size (x.W ++ (x.W.drop (x.o0 (e :: l) - x.r.b)).take e.len), h := h', cs := cs', L := x.L.set e.slot (ps.set j (En.pt e x.r.e)) } (l ++ [e])) (l ++ [e]) k = pos (x.o0 (e :: l)) (e :: l) (k + 1) := by
    intro k hk
    rw [pos_append [e] (by omega), pos_cons]
    unfold Sm.o0 pos
    rw [hu2, he]
    omega
  have hpe : pos (Sm.o0 { x with r := r', W := last size (x.W ++ (x.W.drop (x.o0 (e :: l) - x.r.b)).take e.len), h := h', cs := cs', L := x.L.set e.slot (ps.set j (En.pt e x.r.e)) } (l ++ [e])) (l ++ [e]) l.length = x.r.e := by
    unfold Sm.o0 pos
    rw [List.take_left, hu2, he]
    omega
  have hge : ∀ (k : Nat) (a : En), (l ++ [e])[k]? = some a → (k < l.length ∧ l[k]? = some a) ∨ (k = l.length ∧ a = e) := by
    intro k a ha
    rw [List.getElem?_append] at ha
    split at ha
    · exact .inl ⟨by assumption, ha⟩
    · have hk := (List.getElem?_eq_some_iff.1 ha).1
      simp at hk
      have hk0 : k = l.length := by omega
      subst hk0
      simp at ha
      exact .inr ⟨rfl, ha.symm⟩
  have hgl : ∀ (k : Nat) (a : En), l[k]? = some a → (l ++ [e])[k]? = some a := by
    intro k a ha
    rw [List.getElem?_append_left (List.getElem?_eq_some_iff.1 ha).1]; exact ha
  have hgn : (l ++ [e])[l.length]? = some e := by simp
  refine ⟨⟨hr, he2, by rw [hs]; exact g.snug.size, by simp⟩, by rw [hs]; exact g.size, ?_, ?_, hsl, ?_, ?_, ?_, ?_, by rw [hc]; exact g.cap⟩
  · rw [last_length, List.length_append, hplen, hu2]; omega
  · intro k a ha
    rcases hge k a ha with ⟨hk, hka⟩ | ⟨rfl, rfl⟩
    · rw [hp k hk]
      have hpk := pos_lt (o := x.o0 (e :: l)) (l := e :: l) (i := 0) (j := k + 1) rfl (by omega)
      rw [hp0] at hpk
      refine (g.ent (k + 1) a hka).shift (by rw [hplen]; exact hb) ?_
      show r'.b ≤ _
      rw [hb]
      unfold Sm.o0 at *
      omega
    · rw [hpe]
      have hv := k0.ok.2.1
      have hel : a.len = 24 + a.key.length + a.room := rfl
      have key : ∀ i m : Nat, i + m ≤ a.len → ((last size (x.W ++ (x.W.drop (x.o0 (a :: l) - x.r.b)).take a.len)).drop (x.r.e - r'.b + i)).take m = (x.W.drop (x.o0 (a :: l) - x.r.b + i)).take m := by
        intro i m hi
        unfold last
        rw [List.drop_drop]
        apply List.ext_getElem?
        intro c
        rw [List.getElem?_take, List.getElem?_take]
        split
        · rw [List.getElem?_drop, List.getElem?_drop, List.length_append, hplen, List.getElem?_append_right (by omega), List.getElem?_take, if_pos (by omega), List.getElem?_drop]
          congr 1; omega
        · rfl
      refine ⟨?_, ?_, ?_, ?_, ?_, k0.ok⟩
      · show r'.b ≤ x.r.e
        rw [hb]; omega
      · show x.r.e - r'.b + a.len ≤ (last size _).length
        rw [last_length, List.length_append, hplen]; omega
      · have := key 0 24 (by omega); rw [Nat.add_zero, Nat.add_zero] at this
        show ((last size _).drop (x.r.e - r'.b)).take 24 = _
        rw [this]; exact k0.hdr
      · show ((last size _).drop (x.r.e - r'.b + 24)).take _ = _
        rw [key 24 _ (by omega)]; exact k0.key
      · show ((last size _).drop (x.r.e - r'.b + 24 + a.key.length)).take _ = _
        rw [Nat.add_assoc, key (24 + a.key.length) _ (by omega), ← Nat.add_assoc]; exact k0.val
  · intro t qs hqs p
    replace hqs : (x.L.set e.slot (ps.set j (En.pt e x.r.e)))[t]? = some qs := hqs
    rw [List.getElem?_set] at hqs
    by_cases e2 : e.slot = t
    · rw [if_pos e2] at hqs
      split at hqs
      · cases hqs
        rw [mem_set' h4 hj, g.ptr e.slot ps hps p]
        constructor
        · rintro (rfl | ⟨⟨k, a, ha, hga, hsa, rfl⟩, hn⟩)
          · exact ⟨l.length, e, hgn, hg, e2, by rw [hpe]⟩
          · match k, ha, hn with
            | 0, ha, hn => cases ha; exact absurd rfl hn
            | k + 1, ha, hn =>
              have hk := (List.getElem?_eq_some_iff.1 (show l[k]? = some a from ha)).1
              exact ⟨k, a, hgl k a ha, hga, by rw [hsa, e2], by rw [hp k hk]⟩
        · rintro ⟨k, a, ha, hga, hsa, rfl⟩
          rcases hge k a ha with ⟨hk, hka⟩ | ⟨rfl, rfl⟩
          · right
            rw [hp k hk]
            refine ⟨⟨k + 1, a, hka, hga, by rw [hsa, e2], rfl⟩, fun e3 => ?_⟩
            have := pos_inj (o := x.o0 (e :: l)) (l := e :: l) (i := k + 1) (j := 0) hka rfl e3
            omega
          · left; rw [hpe]
      · cases hqs
    · rw [if_neg e2] at hqs
      rw [g.ptr t qs hqs p]
      constructor
      · rintro ⟨k, a, ha, hga, hsa, rfl⟩
        match k, ha with
        | 0, ha => cases ha; exact absurd hsa e2
        | k + 1, ha =>
          have hk := (List.getElem?_eq_some_iff.1 (show l[k]? = some a from ha)).1
          exact ⟨k, a, hgl k a ha, hga, hsa, by rw [hp k hk]⟩
      · rintro ⟨k, a, ha, hga, hsa, rfl⟩
        rcases hge k a ha with ⟨hk, hka⟩ | ⟨rfl, rfl⟩
        · exact ⟨k + 1, a, hka, hga, hsa, by rw [hp k hk]⟩
        · exact absurd hsa e2
  · intro qs hqs
    rcases List.mem_or_eq_of_mem_set hqs with h | rfl
    · exact g.one qs h
    · refine one_set h4 fun y hy => ?_
      obtain ⟨k, a, ha, hga, hsa, rfl⟩ := g.whose hps hy
      have := pos_end (o := x.o0 (e :: l)) ha
      have := en_len_pos a
      show pos (x.o0 (e :: l)) (e :: l) k ≠ x.r.e
      unfold Sm.o0 at *
      omega
  · have q1 := sum_set x.L e.slot ps (ps.set j (En.pt e x.r.e)) hps
    have q3 := g.sum
    rw [List.length_set] at q1
    show ((x.L.set e.slot _).map List.length).sum = _
    have q4 : Sg.count (l ++ [e]) = Sg.count (e :: l) := by
      unfold Sg.count
      rw [List.filter_append, List.filter_cons, List.length_append, List.filter_cons]
      simp [hg]
    omega
  · have key : ∀ (k : Nat) (a : En), (l ++ [e])[k]? = some a → (e :: l)[if k < l.length then k + 1 else 0]? = some a ∧ k ≤ l.length := by
      intro k a ha
      rcases hge k a ha with ⟨hk, hka⟩ | ⟨rfl, rfl⟩
      · rw [if_pos hk]; exact ⟨hka, by omega⟩
      · rw [if_neg (by omega)]; exact ⟨rfl, by omega⟩
    intro i k a c ha hc2 ga gc q1 q2 q3
    obtain ⟨a1, a2⟩ := key i a ha
    obtain ⟨c1, c2⟩ := key k c hc2
    have := g.uniq _ _ a c a1 c1 ga gc q1 q2 q3
    split at this <;> split at this <;> omega
/-- A new entry comes. -/
theorem added (g : Geo size l x) {e : En} (hg : e.gone = false) (hok : En.ok e) (hfree : Sg.used l + e.len ≤ size) {ps : List Pt} (hps : x.L[e.slot]? = some ps) {j : Nat} (hj : j ≤ ps.length)
    (hu0 : ∀ (i : Nat) (a : En), l[i]? = some a → a.gone = false → a.slot = e.slot → a.hash = e.hash → a.key ≠ e.key) {pad : List UInt8} (hpad : pad.length = e.room - e.value.length)
    {r' : Ri} {h' : Hd} {cs' : List Go.Value} (hr : r'.Has (last size (x.W ++ (En.hdr e ++ e.key ++ e.value ++ pad)))) (hb : r'.b = x.r.b + (x.W.length + e.len - size)) (he : r'.e = x.r.e + e.len) (he2 : r'.e ≤ 1152921504606846976) (hs : r'.data.length = x.r.data.length)
    (hsl : Slots h' cs' (x.L.set e.slot (ps.insertIdx j (En.pt e x.r.e)))) (hc : h'.cap ≤ 8192) {sb' : List UInt8} {m' : Nat} :
    Geo size (l ++ [e]) { x with r := r', W := last size (x.W ++ (En.hdr e ++ e.key ++ e.value ++ pad)), h := h', cs := cs', L := x.L.set e.slot (ps.insertIdx j (En.pt e x.r.e)) } := by
  have hu2 : Sg.used (l ++ [e]) = Sg.used l + e.len := by rw [used_append]; rfl
  have h1 := g.used
  have h2 := g.ends
  have h3 := g.fits
  have h4 := g.one ps (List.mem_of_getElem? hps)
  have hsn := g.snug
  have hv := hok.2.1
  have h24 := En.hdr_length e
  have hel : e.len = 24 + e.key.length + e.room := rfl
  have hplen : (En.hdr e ++ e.key ++ e.value ++ pad).length = e.len := by simp only [List.length_append]; omega
  have hp : ∀ k : Nat, k < l.length → pos (Sm.o0 { x with r := r', W := last size (x.W ++ (En.hdr e ++ e.key ++ e.value ++ pad)), h := h', cs := cs', L := x.L.set e.slot (ps.insertIdx j (En.pt e x.r.e)) } (l ++ [e])) (l ++ [e]) k = pos (x.o0 l) l k := by
    intro k hk
    rw [pos_append [e] (by omega)]
    unfold Sm.o0 pos
    rw [hu2, he]
    omega
  have hpe : pos (Sm.o0 { x with r := r', W := last size (x.W ++ (En.hdr e ++ e.key ++ e.value ++ pad)), h := h', cs := cs', L := x.L.set e.slot (ps.insertIdx j (En.pt e x.r.e)) } (l ++ [e])) (l ++ [e]) l.length = x.r.e := by
    unfold Sm.o0 pos
    rw [List.take_left, hu2, he]
    omega
  have hge : ∀ (k : Nat) (a : En), (l ++ [e])[k]? = some a → (k < l.length ∧ l[k]? = some a) ∨ (k = l.length ∧ a = e) := by
    intro k a ha
    rw [List.getElem?_append] at ha
    split at ha
    · exact .inl ⟨by assumption, ha⟩
    · have hk := (List.getElem?_eq_some_iff.1 ha).1
      simp at hk
      have hk0 : k = l.length := by omega
      subst hk0
      simp at ha
      exact .inr ⟨rfl, ha.symm⟩
  have hgl : ∀ (k : Nat) (a : En), l[k]? = some a → (l ++ [e])[k]? = some a := by
    intro k a ha
    rw [List.getElem?_append_left (List.getElem?_eq_some_iff.1 ha).1]; exact ha
  have hgn : (l ++ [e])[l.length]? = some e := by simp
  refine ⟨⟨hr, he2, by rw [hs]; exact g.snug.size, by simp⟩, by rw [hs]; exact g.size, ?_, ?_, hsl, ?_, ?_, ?_, ?_, hc⟩
  · rw [last_length, List.length_append, hplen, hu2]; omega
  · intro k a ha
    rcases hge k a ha with ⟨hk, hka⟩ | ⟨rfl, rfl⟩
    · rw [hp k hk]
      refine (g.ent k a hka).shift (by rw [hplen]; exact hb) ?_
      show r'.b ≤ _
      rw [hb]
      unfold Sm.o0 pos
      omega
    · rw [hpe]
      show EnAt _ r'.b x.r.e a
      rw [← h2]
      exact EnAt.fresh hok hpad (by omega) hb
  · intro t qs hqs p
    replace hqs : (x.L.set e.slot (ps.insertIdx j (En.pt e x.r.e)))[t]? = some qs := hqs
    rw [List.getElem?_set] at hqs
    by_cases e2 : e.slot = t
    · rw [if_pos e2] at hqs
      split at hqs
      · cases hqs
        rw [List.mem_insertIdx hj, g.ptr e.slot ps hps p]
        constructor
        · rintro (rfl | ⟨k, a, ha, hga, hsa, rfl⟩)
          · exact ⟨l.length, e, hgn, hg, e2, by rw [hpe]⟩
          · have hk := (List.getElem?_eq_some_iff.1 ha).1
            exact ⟨k, a, hgl k a ha, hga, by rw [hsa, e2], by rw [hp k hk]⟩
        · rintro ⟨k, a, ha, hga, hsa, rfl⟩
          rcases hge k a ha with ⟨hk, hka⟩ | ⟨rfl, rfl⟩
          · right
            exact ⟨k, a, hka, hga, by rw [hsa, e2], by rw [hp k hk]⟩
          · left; rw [hpe]
      · cases hqs
    · rw [if_neg e2] at hqs
      rw [g.ptr t qs hqs p]
      constructor
      · rintro ⟨k, a, ha, hga, hsa, rfl⟩
        have hk := (List.getElem?_eq_some_iff.1 ha).1
        exact ⟨k, a, hgl k a ha, hga, hsa, by rw [hp k hk]⟩
      · rintro ⟨k, a, ha, hga, hsa, rfl⟩
        rcases hge k a ha with ⟨hk, hka⟩ | ⟨rfl, rfl⟩
        · exact ⟨k, a, hka, hga, hsa, by rw [hp k hk]⟩
        · exact absurd hsa e2
  · intro qs hqs
    rcases List.mem_or_eq_of_mem_set hqs with h | rfl
    · exact g.one qs h
    · refine one_insert h4 hj fun y hy => ?_
      obtain ⟨k, a, ha, hga, hsa, rfl⟩ := g.whose hps hy
      have := pos_end (o := x.o0 l) ha
      have := en_len_pos a
      show pos (x.o0 l) l k ≠ x.r.e
      unfold Sm.o0 at *
      omega
  · have q1 := sum_set x.L e.slot ps (ps.insertIdx j (En.pt e x.r.e)) hps
    have q3 := g.sum
    rw [List.length_insertIdx_of_le_length hj] at q1
    show ((x.L.set e.slot _).map List.length).sum = _
    have q4 : Sg.count (l ++ [e]) = Sg.count l + 1 := by
      unfold Sg.count
      rw [List.filter_append, List.length_append]
      simp [hg]
    omega
  · intro i k a c ha hc2 ga gc q1 q2 q3
    rcases hge i a ha with ⟨hk, hka⟩ | ⟨rfl, rfl⟩ <;> rcases hge k c hc2 with ⟨hk2, hkc⟩ | ⟨rfl, rfl⟩
    · exact g.uniq i k a c hka hkc ga gc q1 q2 q3
    · exact absurd q3 (hu0 i a hka ga q1 q2)
    · exact absurd q3.symm (hu0 k c hkc gc q1.symm q2.symm)
    · rfl
end Geo
end Go.Proofs.YtbklhnpnkinadaaDoor
end
section
namespace Go.Proofs.YtbklhnpnkinadaaDoor
open Go Go.RowKit Go.Vil Go.Conc
set_option linter.unusedSimpArgs false
set_option linter.unusedVariables false
section
variable {P : Program} {ops : Array Oper} {Q : Exit → Act → World → Prop} {rest : List Oper} {o : Oper} {a : Act} {w : World}
theorem wpList_atAdd {w0 : World} {bs : List Nat} {L L' : List Res} (S : St w0 bs w L) {f : FuncId} {fn : Func} {ats : Array TypeId} {x y : Operand} {b i : Nat} {c : List Value} {T : TypeId} {v d : Int} {a' : Act}
    (k : ∀ w', St w0 bs w' L' → wpList P ops Q rest a' w')
    (hf : P.funcs[f]? = some fn) (hname : (fn.name == "runtime.NumGoroutine") = false) (hb : fn.body.isNone = true) (hn : Extern.findNext fn = none) (he : Extern.find fn = some (Extern.Atomic.update (Op.intArith .add) .i64 true))
    (hw : Region.wanted o (yielded ops a.tmps) = true := by rfl) (ho : o.op = .call { callee := .value (.func f), args := #[x, y], argTypes := ats } := by rfl)
    (hx : slot a x = some (.pointer (some ⟨b, i, none⟩)) := by rfl) (hy : slot a y = some (.int .i64 d) := by rfl)
    (hA : At (.blk b (.cells c.toArray T (0, 0))) (.blk b (.cells (c.set i (.int .i64 (wrap64 (v + d)))).toArray T (0, 0))) L L' := by repeat (first | exact At.head | apply At.tail))
    (hv : c[i]? = some (.int .i64 v) := by rfl)
    (hput : Put a o.dst (.int .i64 (wrap64 (v + d))) a' := by exact put_of (by conv => lhs; simp only [List.set_cons_succ, List.set_cons_zero])) : wpList P ops Q (o :: rest) a w := by
  have hg : w.heap[b]? = some (.cells c.toArray T (0, 0)) := S.mem.2 _ hA.mem
  have hi : i < c.length := (List.getElem?_eq_some_iff.1 hv).1
  have hc : w.cell? ⟨b, i, none⟩ = some (.int .i64 v) := by rw [cell_at hg]; simpa using hv
  have hz : w.frozen? ⟨b, i, none⟩ = false := frozen_at hg
  have hr := run_callFunc_extern hf hname hb hn he #[.pointer (some ⟨b, i, none⟩), .int .i64 d] w
  rw [run_add_entry hc hz] at hr
  have e1 : IntKind.i64.wrap (v + d) = wrap64 (v + d) := IntWalk.i64_left _
  rw [e1] at hr
  refine wpList_run hw (w' := w.setCell ⟨b, i, none⟩ (.int .i64 (wrap64 (v + d)))) (v := .int .i64 (wrap64 (v + d))) ?_ (by rw [hput.is]; exact k _ (S.setBlk hA (by simp)))
  simp [execOp, ho, resolve, invoke, eval_slot hx, eval_slot hy, show a.eval (.func f) = Value.func (.func f) #[] #[] from rfl, Deferred.ofValue, Result.andThen]
  exact hr.trans rfl
theorem wpList_atStore {w0 : World} {bs : List Nat} {L L' : List Res} (S : St w0 bs w L) {f : FuncId} {fn : Func} {ats : Array TypeId} {x y : Operand} {b i : Nat} {c : List Value} {T : TypeId} {v d : Int} {a' : Act}
    (k : ∀ w', St w0 bs w' L' → wpList P ops Q rest a' w')
    (hf : P.funcs[f]? = some fn) (hname : (fn.name == "runtime.NumGoroutine") = false) (hb : fn.body.isNone = true) (hn : Extern.findNext fn = none) (he : Extern.find fn = some (Extern.Atomic.storeT))
    (hw : Region.wanted o (yielded ops a.tmps) = true := by rfl) (ho : o.op = .call { callee := .value (.func f), args := #[x, y], argTypes := ats } := by rfl)
    (hx : slot a x = some (.pointer (some ⟨b, i, none⟩)) := by rfl) (hy : slot a y = some (.int .i64 d) := by rfl)
    (hA : At (.blk b (.cells c.toArray T (0, 0))) (.blk b (.cells (c.set i (.int .i64 d)).toArray T (0, 0))) L L' := by repeat (first | exact At.head | apply At.tail))
    (hv : c[i]? = some (.int .i64 v) := by rfl)
    (hput : Put a o.dst (.tuple #[]) a' := by exact put_of (by conv => lhs; simp only [List.set_cons_succ, List.set_cons_zero])) : wpList P ops Q (o :: rest) a w := by
  have hg : w.heap[b]? = some (.cells c.toArray T (0, 0)) := S.mem.2 _ hA.mem
  have hi : i < c.length := (List.getElem?_eq_some_iff.1 hv).1
  have hc : w.cell? ⟨b, i, none⟩ = some (.int .i64 v) := by rw [cell_at hg]; simpa using hv
  have hz : w.frozen? ⟨b, i, none⟩ = false := frozen_at hg
  have hr := run_callFunc_extern hf hname hb hn he #[.pointer (some ⟨b, i, none⟩), .int .i64 d] w
  have hr2 : (Extern.Atomic.storeT #[.pointer (some ⟨b, i, none⟩), .int .i64 d]).run P w = .ok (.tuple #[]) (w.setCell ⟨b, i, none⟩ (.int .i64 d)) := by
    show (do store (← asAddr (.pointer (some ⟨b, i, none⟩))) (.int .i64 d) .atomic; pure Extern.Atomic.none_ : Sem Value).run P w = _
    simp [Extern.Atomic.none_, asAddr, viewAt, World.shape?_isSome_of_cell? hc, hc, hz, run_store P w ⟨b, i, none⟩ (.int .i64 d) .atomic rfl, Result.andThen]
  rw [hr2] at hr
  refine wpList_run hw (w' := w.setCell ⟨b, i, none⟩ (.int .i64 d)) (v := .tuple #[]) ?_ (by rw [hput.is]; exact k _ (S.setBlk hA (by simp)))
  simp [execOp, ho, resolve, invoke, eval_slot hx, eval_slot hy, show a.eval (.func f) = Value.func (.func f) #[] #[] from rfl, Deferred.ofValue, Result.andThen]
  exact hr.trans rfl
theorem wpList_atLoad {w0 : World} {bs : List Nat} {L F : List Res} (S : St w0 bs w L) {f : FuncId} {fn : Func} {ats : Array TypeId} {x : Operand} {b i : Nat} {c : List Value} {T : TypeId} {fr : Nat × Nat} {v : Int} {a' : Act}
    (k : wpList P ops Q rest a' w)
    (hf : P.funcs[f]? = some fn) (hname : (fn.name == "runtime.NumGoroutine") = false) (hb : fn.body.isNone = true) (hn : Extern.findNext fn = none) (he : Extern.find fn = some (Extern.Atomic.loadT (.int .i64)))
    (hw : Region.wanted o (yielded ops a.tmps) = true := by rfl) (ho : o.op = .call { callee := .value (.func f), args := #[x], argTypes := ats } := by rfl)
    (hx : slot a x = some (.pointer (some ⟨b, i, none⟩)) := by rfl)
    (hp : Pull (.blk b (.cells c.toArray T fr)) L F := by repeat (first | exact Pull.head | apply Pull.tail)) (hi : c[i]? = some (.int .i64 v) := by rfl)
    (hput : Put a o.dst (.int .i64 v) a' := by exact put_of (by conv => lhs; simp only [List.set_cons_succ, List.set_cons_zero])) : wpList P ops Q (o :: rest) a w := by
  have hc : w.cell? ⟨b, i, none⟩ = some (.int .i64 v) := by rw [cell_at (S.blk hp)]; simpa using hi
  have hr := run_call_load (P := P) (f := f) hf hname hb hn .i64 he hc
  refine wpList_run hw (w' := w) (v := .int .i64 v) ?_ (by rw [hput.is]; exact k)
  simp [execOp, ho, resolve, invoke, eval_slot hx, show a.eval (.func f) = Value.func (.func f) #[] #[] from rfl, Deferred.ofValue, Result.andThen]
  exact hr
end
/-! ### The same as equations on the call's run, at the seat's numbers -/
section
variable {w : World} {w0 : World} {bs : List Nat} {L L' : List Res}
theorem atAdd (S : St w0 bs w L) (b i : Nat) {c : List Value} {T : TypeId} {v : Int} (d : Int)
    (hA : At (.blk b (.cells c.toArray T (0, 0))) (.blk b (.cells (c.set i (.int .i64 (wrap64 (v + d)))).toArray T (0, 0))) L L' := by repeat (first | exact At.head | apply At.tail))
    (hv : c[i]? = some (.int .i64 v) := by rfl) :
    ∃ w', (callFunc 89 #[.pointer (some ⟨b, i, none⟩), .int .i64 d]).run Tryd.prog w = .ok (.value (.int .i64 (wrap64 (v + d)))) w' ∧ St w0 bs w' L' := by
  have hg : w.heap[b]? = some (.cells c.toArray T (0, 0)) := S.mem.2 _ hA.mem
  have hc : w.cell? ⟨b, i, none⟩ = some (.int .i64 v) := by rw [cell_at hg]; simpa using hv
  have hr := run_callFunc_extern (P := Tryd.prog) (f := 89) (e := Extern.Atomic.update (Op.intArith .add) .i64 true) Tryd.func89 (by kernel_rfl) (by rfl) (by kernel_rfl) (by kernel_rfl) #[.pointer (some ⟨b, i, none⟩), .int .i64 d] w
  rw [run_add_entry hc (frozen_at hg)] at hr
  have e1 : IntKind.i64.wrap (v + d) = wrap64 (v + d) := IntWalk.i64_left _
  rw [e1] at hr
  exact ⟨_, hr, S.setBlk hA (by simp)⟩
theorem atStore (S : St w0 bs w L) (b i : Nat) {c : List Value} {T : TypeId} {v : Int} (d : Int)
    (hA : At (.blk b (.cells c.toArray T (0, 0))) (.blk b (.cells (c.set i (.int .i64 d)).toArray T (0, 0))) L L' := by repeat (first | exact At.head | apply At.tail))
    (hv : c[i]? = some (.int .i64 v) := by rfl) :
    ∃ w', (callFunc 96 #[.pointer (some ⟨b, i, none⟩), .int .i64 d]).run Tryd.prog w = .ok (.value (.tuple #[])) w' ∧ St w0 bs w' L' := by
  have hg : w.heap[b]? = some (.cells c.toArray T (0, 0)) := S.mem.2 _ hA.mem
  have hc : w.cell? ⟨b, i, none⟩ = some (.int .i64 v) := by rw [cell_at hg]; simpa using hv
  have hz := frozen_at (i := i) hg
  have hr := run_callFunc_extern (P := Tryd.prog) (f := 96) (e := Extern.Atomic.storeT) Tryd.func96 (by kernel_rfl) (by rfl) (by kernel_rfl) (by kernel_rfl) #[.pointer (some ⟨b, i, none⟩), .int .i64 d] w
  have hr2 : (Extern.Atomic.storeT #[.pointer (some ⟨b, i, none⟩), .int .i64 d]).run Tryd.prog w = .ok (.tuple #[]) (w.setCell ⟨b, i, none⟩ (.int .i64 d)) := by
    show (do store (← asAddr (.pointer (some ⟨b, i, none⟩))) (.int .i64 d) .atomic; pure Extern.Atomic.none_ : Sem Value).run Tryd.prog w = _
    simp [Extern.Atomic.none_, asAddr, viewAt, World.shape?_isSome_of_cell? hc, hc, hz, run_store Tryd.prog w ⟨b, i, none⟩ (.int .i64 d) .atomic rfl, Result.andThen]
  rw [hr2] at hr
  exact ⟨_, hr, S.setBlk hA (by simp)⟩
end
end Go.Proofs.YtbklhnpnkinadaaDoor
end
section
namespace Go.Proofs.YtbklhnpnkinadaaDoor
open Go Go.RowKit Go.Vil
set_option linter.unusedSimpArgs false
set_option linter.unusedVariables false
set_option maxRecDepth 100000

set_option maxHeartbeats 1600000 in
theorem ringWriteAt (q m : Nat) (T : TypeId) (r : Ri) (W sl p : List UInt8) (k n c : Nat) (oa : Option Addr) (post : List Value) (z : Int) (w : World) (hz : z = r.b + k)
    (hM : Mem w (rMem q m T r sl post)) (h : Snug r W (r.data ++ sl).length) (hs : Src w 1 (.slice oa n c) n (u8s p)) (hd : Off oa [q, m] (u8s p)) (hc : n ≤ c) (hk : k + n ≤ W.length) :
    Calls Tryd.prog 50 #[.pointer (some ⟨q, 0, none⟩), .slice oa n c, .int .i64 z] w fun e w' =>
      e = .returned (.tuple #[.int .i64 n, .nilIface]) ∧ St w [q, m] w' (rMem q m T (r.overs k p) sl post) := by
  subst hz
  have S : St w [q, m] w [rHead q m T r.b r.e r.data.length (r.data ++ sl).length r.ix post, rBlk m r.data sl] := St.start hM
  clear hM
  have hsn := hidden h
  obtain ⟨hh, h2, h3, h4⟩ := h
  have hpn := hs.len8
  have h5 := hh.le
  have h6 := hh.len
  have h7 := hh.fit
  have hat := Ri.at_lt hh k
  have hsz : r.size = r.data.length := rfl
  have hle : r.len = r.e - r.b := rfl
  have hwk : W.length - k = r.e - (r.b + k) := by omega
  have hk2 : r.b + k + n ≤ r.e := by omega
  have hb1 : decide ((r.e : Int) < (r.b : Int) + (k : Int) + (n : Int)) = false := decide_eq_false (by omega)
  have hone := Ri.overs_one r k p
  have htwo := Ri.overs_two hh k p (by omega)
  obtain ⟨o1, o2, o3⟩ := Ri.overs_rest p r k
  have o4 : (r.overs k p).data.length = r.data.length := Ri.overs_size p r k
  have hres : rMem q m T (r.overs k p) sl post = [rHead q m T r.b r.e r.data.length (r.data ++ sl).length r.ix post, rBlk m (r.overs k p).data sl] := by
    unfold rMem rHead
    rw [o1, o2, o3, List.length_append, o4, List.length_append]
  rw [hsz] at h7 hat hone htwo
  have hcl : (r.data ++ sl).length = r.data.length + sl.length := List.length_append
  rw [hres]
  generalize hC : (r.data ++ sl).length = C at *
  replace hcl := hidden hcl
  replace hone := hidden hone
  replace htwo := hidden htwo
  replace hh := hidden hh
  replace hk := hidden hk
  replace hs := hidden hs
  replace hpn := hidden hpn
  clear hle hsz o1 o2 o3 o4 hres
  refine Calls.cps ?_; intro R hR
  go_enter Tryd.func50, Tryd.ntmps50
  go_wp2_with ((refine wpList_ld S ?_))
  refine Calls.mono (ringOff q m T r W C k post _ _ rfl S.sel1 hsn.out (by have := hk.out; omega)) ?_
  rintro e w2 ⟨rfl, C1⟩
  have S2 := S.call C1; clear S C1; simp only [List.cons_append, List.nil_append] at S2; have S := S2; clear S2
  generalize r.at' k = at0 at *
  obtain ⟨re, hre⟩ : ∃ re, re = at0 + (W.length - k) := ⟨_, rfl⟩
  by_cases c1 : at0 + (W.length - k) ≤ r.data.length
  · go_wp2_with (first | (refine wpList_slcBH at0 re ?_; rw [cutN_low (by omega), Nat.zero_add]) | (refine wpList_copyM S (hs.out.over S.chg hd) n ?_; (clear S; intro ws S)) | (refine wpList_ld S ?_))
    ((first | go_ret | go_ret2 | go_ret3 | go_end0 | skip); refine hR.out _ _ ?_)
    refine ⟨rfl, ?_⟩
    rw [hone.out (by have := hpn.out; omega)]
    rw [List.take_of_length_le (Nat.le_of_eq hpn.out), splice_app _ _ _ _ (by have := hpn.out; omega)] at S
    exact S
  · by_cases c2 : at0 + n ≤ r.data.length
    · go_wp2_with (first | (refine wpList_slcB at0 ?_; rw [cutN_low (by omega), Nat.zero_add]) | (refine wpList_copyM S (hs.out.over S.chg hd) n ?_; (clear S; intro ws S)) | (refine wpList_ld S ?_))
      ((first | go_ret | go_ret2 | go_ret3 | go_end0 | skip); refine hR.out _ _ ?_)
      refine ⟨rfl, ?_⟩
      rw [hone.out (by have := hpn.out; omega)]
      rw [List.take_of_length_le (Nat.le_of_eq hpn.out), splice_app _ _ _ _ (by have := hpn.out; omega)] at S
      exact S
    · obtain ⟨ad, rfl⟩ := hs.out.bare (by omega)
      go_upto_region 9 with (first | (refine wpList_slcB at0 ?_; rw [cutN_low (by omega), Nat.zero_add]) | (refine wpList_copyM S (hs.out.over S.chg hd) (r.data.length - at0) ?_; (clear S; intro ws S)) | (refine wpList_ld S ?_))
      have hpl := hpn.out
      have hp1 : (p.take (r.data.length - at0)).length = r.data.length - at0 := by rw [List.length_take]; omega
      rw [splice_app _ _ _ _ (by rw [hp1]; omega)] at S
      have hl1 : (splice r.data at0 (p.take (r.data.length - at0))).length = r.data.length := splice_length _ _ _ (by rw [hp1]; omega)
      clear hpl
      generalize hD : splice r.data at0 (p.take (r.data.length - at0)) = D at *
      have hDC : (D ++ sl).length = C := by rw [List.length_append]; have := hcl.out; omega
      replace hD := hidden hD
      refine St.regionC S [rHead q m T r.b r.e r.data.length C r.ix post] 19 [([0, 1, 2, 3, 4, 5, 6, 7, 8, 9, 10, 11, 12, 13, 14, 15], 16)] [17, 18] ?_
      clear S; intro wr Cr S Sc; simp only [walkC, pick, List.getElem?_cons_succ, List.getElem?_cons_zero, List.drop_succ_cons, List.drop_zero]
      (repeat (first | (go_big_quiet_want; (first | (refine quiet_slcT (r.data.length - at0) ?_) | refine quiet_slcH (re - r.data.length) ?_); go_big_quiet_on) | (first | (go_big_quiet_step (fail)) | (go_big_quiet_want; (refine quiet_ld Sc ?_); go_big_quiet_on))))
      refine wpQuiet_nil ?_
      have hsrc2 : Src wr 1 (.slice (some (cutAt ad (r.data.length - at0) c 1)) (n - (r.data.length - at0)) (c - (r.data.length - at0))) (n - (r.data.length - at0)) (u8s (p.drop (r.data.length - at0))) := by
        have := (hs.out.over S.chg hd).cut (r.data.length - at0) (n - (r.data.length - at0)) (c - (r.data.length - at0)) (by omega) hc
        rwa [List.take_of_length_le (by rw [List.length_drop]; have := hpn.out; omega)] at this
      refine wpList_copyM S hsrc2 (n - (r.data.length - at0)) ?_
      clear S; intro ws2 S
      refine ⟨(S.sel (by repeat (first | exact Sel.nil | (apply Sel.cons; (repeat (first | exact Pull.head | apply Pull.tail)))))).inSt _, ?_⟩; (repeat ((go_big_quiet_step (fail)))); refine wpQuiet_nil ?_
      go_wp2_with (fail)
      ((first | go_ret | go_ret2 | go_ret3 | go_end0 | skip); refine hR.out _ _ ?_)
      refine ⟨?_, ?_⟩
      · exact retT2 (by omega)
      · rw [htwo.out (by have := hpn.out; omega)]
        rw [List.take_of_length_le (by rw [List.length_drop]; have := hpn.out; omega), splice_app _ _ _ _ (by rw [List.length_drop]; have := hpn.out; omega)] at S
        exact S
end Go.Proofs.YtbklhnpnkinadaaDoor
end
section
namespace Go.Proofs.YtbklhnpnkinadaaDoor
open Go Go.RowKit Go.Vil Go.ChangeShapes Go.WideShapes Go.ChangeAt
set_option linter.unusedSimpArgs false
set_option linter.unusedVariables false
set_option maxRecDepth 100000

/-- A part of a block as a source. -/
theorem _root_.Go.Vil.St.srcAt {w0 w : World} {bs : List Nat} {L F : List Res} (S : St w0 bs w L) {b o m c : Nat} {cs : List Value} {T : TypeId} {fr : Nat × Nat} (size : Nat) (hp : Pull (.blk b (.cells cs.toArray T fr)) L F) (hl : o + m * size ≤ cs.length) (h1 : ∀ u ∈ cs, u.oneCell' = true) :
    Src w size (.slice (some ⟨b, o, none⟩) m c) m ((cs.drop o).take (m * size)) :=
  Src.cells (by rw [List.length_take, List.length_drop]; omega) (fun u hu => h1 u (List.mem_of_mem_drop (List.mem_of_mem_take hu))) fun j u hu => by
    rw [Addr.add_lit, cell_at (S.blk hp)]
    rw [List.getElem?_take] at hu
    split at hu
    · rw [List.getElem?_drop] at hu; simpa using hu
    · cases hu
/-- The rest of a slice as a source. -/
theorem _root_.Go.Vil.St.srcCut {w0 w : World} {bs : List Nat} {L F : List Res} (S : St w0 bs w L) {b o n c : Nat} {cs : List Value} {T : TypeId} {fr : Nat × Nat} (size k : Nat) (hp : Pull (.blk b (.cells cs.toArray T fr)) L F) (hk : k ≤ n) (hn : n ≤ c) (hl : o + c * size ≤ cs.length) (h1 : ∀ u ∈ cs, u.oneCell' = true) :
    Src w size (.slice (some (cutAt ⟨b, o, none⟩ k c size)) (n - k) (c - k)) (n - k) ((cs.drop (o + k * size)).take ((n - k) * size)) := by
  unfold cutAt
  by_cases h : c = k
  · rw [if_pos h, show n - k = 0 by omega, Nat.zero_mul, List.take_zero]
    exact Src.cells (by simp) (by simp) (by simp)
  · rw [if_neg h, Addr.add_lit]
    have h2 : k * size + (n - k) * size ≤ c * size := by rw [← Nat.add_mul]; exact Nat.mul_le_mul_right _ (by omega)
    exact S.srcAt size hp (by omega) h1
theorem cut_low {b o k c size : Nat} (h : k < c) : cutAt ⟨b, o, none⟩ k c size = ⟨b, o + k * size, none⟩ := by
  unfold cutAt
  rw [if_neg (by omega), Addr.add_lit]
/-- x[l:] of a block, below the end of its room. -/
theorem _root_.Go.Vil.quiet_slcN {P : Program} {o : Oper} {a : Act} {C : World → Prop} {K : Act → Prop} {ty e : TypeId} {z : Value} {size bytes : Nat} {x lo : Operand} {b i n c : Nat} {kl : IntKind} {l : Int} {a' : Act} (lN : Nat)
    (k : K a')
    (ho : o.op = .slice ty x (some lo) none none := by rfl) (ht : TSlice P ty e := by infer_instance) (he : TElem P e z size bytes := by infer_instance)
    (hx : slot a x = some (.slice (some ⟨b, i, none⟩) n c) := by rfl) (hl : slot a lo = some (.int kl l) := by rfl)
    (hlN : l.toNat = lN := by omega) (h0 : 0 ≤ l := by omega) (h1 : l ≤ n := by omega) (h2 : lN < c := by omega)
    (hput : Put a o.dst (.slice (some ⟨b, i + lN * size, none⟩) (n - lN) (c - lN)) a' := by exact put_of (by conv => lhs; simp only [List.set_cons_succ, List.set_cons_zero])) : o.quiet P a C K :=
  quiet_slcT lN k ho ht he hx hl hlN h0 h1 (by rw [cut_low h2]; exact hput)
theorem Hd.set_len {h : Hd} {m : Nat} {b e : Int} {N C : Nat} {ix : Int} {s : Nat} {v : Int} (n' : Nat) (hv : v = n') (hs : s < h.lens.length) :
    (h.cells m b e N C ix).set (17 + s) (.int .i32 v) = ({ h with lens := h.lens.set s n' } : Hd).cells m b e N C ix := by
  subst hv
  have : h.tail.set s (.int .i32 n') = ({ h with lens := h.lens.set s n' } : Hd).tail := by
    unfold Hd.tail
    rw [List.set_append_left _ _ (by simpa using hs), List.map_set]; rfl
  rw [Nat.add_comm]
  show _ :: _ :: _ :: _ :: _ :: _ :: _ :: _ :: _ :: _ :: _ :: _ :: _ :: _ :: _ :: _ :: _ :: h.tail.set s _ = _
  rw [this]
theorem Hd.set_ec {h : Hd} {m : Nat} {b e : Int} {N C : Nat} {ix : Int} {v : Int} : (h.cells m b e N C ix).set 8 (.int .i64 v) = ({ h with ec := v } : Hd).cells m b e N C ix := rfl
theorem Hd.long {h : Hd} {m : Nat} {b e : Int} {N C : Nat} {ix : Int} : (h.cells m b e N C ix).length = 19 + h.lens.length := by
  show (h.tail).length + 17 = _
  unfold Hd.tail; simp; omega

def Hd.del (h : Hd) (s n : Nat) : Hd := { h with lens := h.lens.set s (n - 1), ec := h.ec - 1 }

set_option maxHeartbeats 3200000 in
theorem delPtr (q : Nat) (T TB : TypeId) (size : Nat) (l : List En) (x : Sm) (i j : Nat) (e : En) (ps : List Pt) (w : World) (g : Geo size l x) (hi : l[i]? = some e) (hg : e.gone = false) (hps : x.L[e.slot]? = some ps) (hj : ps[j]? = some (En.pt e (pos (x.o0 l) l i)))
    (hec : -1152921504606846976 ≤ x.h.ec ∧ x.h.ec ≤ 1152921504606846976) (hM : Mem w (x.mem q T TB)) :
    Calls Tryd.prog 91 #[.pointer (some ⟨q, 0, none⟩), .int .u8 e.slot, .slice (some ⟨x.h.sb, e.slot * x.h.cap * 4, none⟩) ps.length x.h.cap, .int .i64 j] w fun ex w' => ex = .returned (.tuple #[]) ∧
      ∃ r' W' cs', Geo size (l.modify i gone') { x with r := r', W := W', h := x.h.del e.slot ps.length, cs := cs', L := x.L.set e.slot (ps.eraseIdx j) } ∧ r'.e = x.r.e ∧
        St w [q, x.m, x.h.sb] w' (Sm.mem { x with r := r', W := W', h := x.h.del e.slot ps.length, cs := cs', L := x.L.set e.slot (ps.eraseIdx j) } q T TB) := by
  have S : St w [q, x.m, x.h.sb] w (x.mem q T TB) := St.start hM
  clear hM
  have k := g.ent i e hi
  obtain ⟨z, hz⟩ : ∃ z, pos (x.o0 l) l i = z := ⟨_, rfl⟩
  rw [hz] at k hj
  have hlow := k.low
  have hfit := k.fit
  have hel := k.len
  have hsl := g.slots
  have hend := g.ends
  have hre := g.snug.e
  have h24 := En.hdr_length e
  have h24' := En.hdr_length (gone' e)
  obtain ⟨k0, hk0⟩ : ∃ k0, z = x.r.b + k0 := ⟨z - x.r.b, by omega⟩
  have hlt := hsl.lt hps
  have hjl := (List.getElem?_eq_some_iff.1 hj).1
  have hroom := hsl.room hps
  have hcap := hsl.cap
  have hpc := hsl.fit ps (List.mem_of_getElem? hps)
  obtain ⟨q0, q1, q2, qv, q3⟩ := hsl.at' _ ps hps j _ hj
  obtain ⟨o, ho⟩ : ∃ o, e.slot * x.h.cap * 4 = o := ⟨_, rfl⟩
  have hkb : z - x.r.b = k0 := by omega
  have hdr := k.hdr
  rw [hkb] at hdr
  replace hdr := hidden hdr
  have hE2 := hidden (show hdrBytes ((e.access : Nat) : Int) (e.expire : Nat) (e.key.length : Nat) (e.hash : Nat) (e.value.length : Nat) (e.room : Nat) true (e.slot : Nat) ((0 : Nat) : Int) = En.hdr (gone' e) from rfl)
  have hE := hidden (show En.hdr e = hdrBytes ((e.access : Nat) : Int) (e.expire : Nat) (e.key.length : Nat) (e.hash : Nat) (e.value.length : Nat) (e.room : Nat) e.gone (e.slot : Nat) ((0 : Nat) : Int) from rfl)
  have hW24 : k0 + 24 ≤ x.W.length := by omega
  replace hsl := hidden hsl
  replace g := hidden g
  replace hps := hidden hps
  replace k := hidden k
  replace hi := hidden hi
  replace hj := hidden hj
  replace hz := hidden hz
  rw [ho] at q0 q1 q2 q3 hroom
  replace q0 : x.cs[o + j * 4]? = some (.int .i64 z) := q0
  replace hk0 := hidden hk0
  obtain ⟨hok1, hok2, hok3, hok4, hok5, hok6, hok7, hok8⟩ := k.out.ok
  rw [ho]
  replace ho := hidden ho
  refine Calls.cps ?_; intro R hR
  go_enter Tryd.func91, Tryd.ntmps91
  go_upto_region 2 with (first | (refine wpList_ld S ?_ (hi := by assumption)) | (refine wpList_alloc S ?_; (clear S; intro bB wB hbB S)))
  have S2 : St w [q, x.m, x.h.sb] wB (.blk bB (.cells (u8s (List.replicate 24 0)).toArray 149 (0, 0)) :: x.mem q T TB) := S
  clear S; have S := S2; clear S2
  refine St.regionC S [] 6 [([0, 1, 2, 3, 4], 5)] [] ?_
  clear S; intro wr Cr S Sc; simp only [walkC, pick, List.getElem?_cons_succ, List.getElem?_cons_zero, List.drop_succ_cons, List.drop_zero]; (repeat ((go_big_quiet_step (fail)))); refine wpQuiet_nil ?_
  go_wp2_with fail
  refine Calls.mono (ringRead q x.m bB T 149 x.r x.W x.sl (List.replicate 24 0) k0 0 24 24 x.h.post _ .nilIface _ (by rw [hk0.out]; simp) S.sel3 g.out.snug (by omega) (by simp) (by omega) (by omega) (by omega)) ?_
  rintro ex w2 ⟨rfl, C⟩
  have S2 := S.call C; clear S C; simp only [List.cons_append, List.nil_append] at S2; have S := S2; clear S2
  rw [if_neg (by omega), show min 24 (x.W.length - k0) = 24 by omega]
  rw [hdr.out, splice_all _ _ (by rw [h24]; rfl)] at S
  go_wp2_with fail
  refine ⟨(S.sel (by repeat (first | exact Sel.nil | (apply Sel.cons; (repeat (first | exact Pull.head | apply Pull.tail)))))).inSt _, ?_⟩; (repeat (fail)); refine wpQuiet_nil ?_
  go_upto_region 4 with ((refine wpList_box S ?_; (clear S; intro hB wH hhB S)))
  go_wp2_with (fail)
  refine Calls.mono (hdrRead hB bB e.access e.expire e.key.length e.hash e.value.length e.room e.slot 0 e.gone (En.hdr e) _ _ _ _ _ _ _ _ _ 149 152 _ hE.out hok5 hok6 (by omega) hok7 (by omega) (by omega) hlt (by omega) S.sel2) ?_
  rintro ex w3 ⟨rfl, C⟩
  have S2 := S.call C; clear S C; simp only [List.cons_append, List.nil_append] at S2; have S := S2; clear S2
  go_upto_region 6 with ((refine wpList_st S ?_; (clear S; intro ws S)))
  go_wp2_with (fail)
  refine Calls.mono (hdrWrite hB bB 0 24 24 (En.hdr e) ((e.access : Nat) : Int) ((e.expire : Nat) : Int) ((e.key.length : Nat) : Int) ((e.hash : Nat) : Int) ((e.value.length : Nat) : Int) ((e.room : Nat) : Int) ((e.slot : Nat) : Int) ((0 : Nat) : Int) true _ 149 152 (by omega) (by omega) (by omega) (by omega) (by omega) (by omega) (by omega) (by omega) (by omega) (by omega) (by omega) (by omega) (by omega) (by omega) (by omega) (by omega) (by omega) (by omega) (by omega) S.sel2) ?_
  rintro ex w4 ⟨rfl, C⟩
  have S2 := S.call C; clear S C; simp only [List.cons_append, List.nil_append] at S2; have S := S2; clear S2
  rw [hE2.out, splice_all _ _ (by rw [h24, h24'])] at S
  go_upto_region 7 with (fail)
  refine St.regionC S [] 6 [([0, 1, 2, 3, 4], 5)] [] ?_
  clear S; intro wr Cr S Sc; simp only [walkC, pick, List.getElem?_cons_succ, List.getElem?_cons_zero, List.drop_succ_cons, List.drop_zero]; (repeat ((go_big_quiet_step (fail)))); refine wpQuiet_nil ?_
  go_wp2_with fail
  refine Calls.mono (ringWriteAt q x.m T x.r x.W x.sl (En.hdr (gone' e)) k0 24 24 (some ⟨bB, 0, none⟩) x.h.post _ _ (by rw [hk0.out]; simp) S.sel2 g.out.snug (S.src8w (by repeat (first | exact Pull.head | apply Pull.tail)) h24') (S.offB (r := .blk bB _) (by repeat (first | exact Pull.head | apply Pull.tail)) rfl (by repeat (first | exact PullsF.nil | (apply PullsF.cons; (repeat (first | exact PullF.head rfl | apply PullF.tail)))))) (by omega) (by omega)) ?_
  rintro ex w5 ⟨rfl, C⟩
  have S2 := S.call C; clear S C; simp only [rMem, List.cons_append, List.nil_append] at S2; have S := S2; clear S2
  go_wp2_with fail
  refine ⟨(S.sel (by repeat (first | exact Sel.nil | (apply Sel.cons; (repeat (first | exact Pull.head | apply Pull.tail)))))).inSt _, ?_⟩; (repeat (fail)); refine wpQuiet_nil ?_
  go_upto_region 8 with (fail)
  have hone := hidden hsl.out.one
  refine St.regionC S [] 8 [([0, 1, 2, 3, 4, 5, 6], 7)] [] ?_
  clear S; intro wr Cr S Sc; simp only [walkC, pick, List.getElem?_cons_succ, List.getElem?_cons_zero, List.drop_succ_cons, List.drop_zero]
  (repeat (first | (go_big_quiet_want; (refine quiet_slcN j ?_); go_big_quiet_on) | (go_big_quiet_want; (refine quiet_slcT (j + 1) ?_); go_big_quiet_on) | ((go_big_quiet_step (fail)))))
  refine wpQuiet_nil ?_
  refine wpList_copy S (S.srcCut (b := x.h.sb) (cs := x.cs) (T := TB) (fr := (0, 0)) 4 (j + 1) (by repeat (first | exact Pull.head | apply Pull.tail)) (n := ps.length) (c := x.h.cap) (o := o) (by omega) hpc (by omega) hone.out) ?_ (hfit := by omega); (clear S; intro ws S)
  refine ⟨(S.sel (by repeat (first | exact Sel.nil | (apply Sel.cons; (repeat (first | exact Pull.head | apply Pull.tail)))))).inSt _, ?_⟩; (repeat (fail)); refine wpQuiet_nil ?_
  rw [show Nat.min (ps.length - (j + 1)) (ps.length - j) = ps.length - (j + 1) from Nat.min_eq_left (by omega), List.take_take, Nat.min_self] at S
  obtain ⟨cs', hcs'⟩ : ∃ c, splice x.cs (o + j * 4) ((x.cs.drop (o + (j + 1) * 4)).take ((ps.length - (j + 1)) * 4)) = c := ⟨_, rfl⟩
  rw [hcs'] at S
  replace hcs' := hidden hcs'
  obtain ⟨r1, hr1⟩ : ∃ r1, x.r.overs k0 (En.hdr (gone' e)) = r1 := ⟨_, rfl⟩
  rw [hr1] at S
  replace hr1 := hidden hr1
  have hlen := Hd.at_len (m := x.m) (b := r1.b) (e := r1.e) (N := r1.data.length) (C := (r1.data ++ x.sl).length) (ix := r1.ix) (hsl.out.lens_at hps.out)
  have hll := hsl.out.lens_len
  go_upto_region 9 with (fail)
  refine St.regionG S 10 [] [0, 1, 2, 3, 4, 5, 6, 7, 8, 9] ?_
  clear S; intro wr S; simp only [walkSt, pick, List.getElem?_cons_succ, List.getElem?_cons_zero, List.drop_succ_cons, List.drop_zero]
  (repeat (first | (go_big_quiet_want; (refine quiet_ld S ?_ (hi := hlen)); go_big_quiet_on) | ((go_big_quiet_step (fail)))))
  refine wpQuiet_nil ?_
  refine wpList_st S ?_ (hi := by rw [Hd.long]; omega) (hc' := Hd.set_len (ps.length - 1) (by omega) (by omega)); (clear S; intro ws S)
  go_upto_region 10 with (fail)
  go_wp2_with (fail)
  obtain ⟨wa, hrun, S2⟩ := atAdd S q 8 (-1)
  clear S; have S := S2; clear S2
  rw [hrun]
  go_wp2_with fail
  have g' := g.out
  have hz' := hz.out
  have hsE := En.hdr_length (gone' e)
  have hget : r1.Has (splice x.W k0 (En.hdr (gone' e))) := by
    rw [← hr1.out]
    exact Ri.overs_has _ g'.snug.has (by rw [hsE]; omega)
  have hrest := Ri.overs_rest (En.hdr (gone' e)) x.r k0
  rw [hr1.out] at hrest
  have hdl : (x.r.overs k0 (En.hdr (gone' e))).data.length = x.r.data.length := Ri.overs_size (En.hdr (gone' e)) x.r k0
  rw [hr1.out] at hdl
  have hWl := splice_length x.W k0 (En.hdr (gone' e)) (by rw [hsE]; omega)
  have hkz := k.out
  have hwe : wrap64 (x.h.ec + -1) = x.h.ec - 1 := by unfold wrap64; omega
  ((first | go_ret | go_ret2 | go_ret3 | go_end0 | skip); refine hR.out _ _ ?_)
  refine ⟨rfl, r1, splice x.W k0 (En.hdr (gone' e)), cs', g'.deleted hi.out hg hps.out (by rw [hz']; exact hj.out) hget hrest.1 hrest.2.1 hdl hWl ?_ ?_ ?_ rfl, hrest.2.1, ?_⟩
  · rw [hz', ← hkb]
    exact hkz.header rfl rfl rfl hkz.ok
  · intro c a hc ha
    have hap := pos_apart (o := x.o0 l) ha hi.out hc
    rw [hz'] at hap
    have ka := g'.ent c a ha
    have kl := ka.low
    exact ka.beside (by rw [hsE]; omega) (by rw [hsE]; omega)
  · exact hsl.out.erase (h' := x.h.del e.slot ps.length) hps.out hjl rfl rfl (by rw [← hcs'.out, ho.out])
  · rw [hwe] at S
    exact S.sel (by repeat (first | exact Sel.nil | (apply Sel.cons; (repeat (first | exact Pull.head | apply Pull.tail)))))
end Go.Proofs.YtbklhnpnkinadaaDoor
end
section
namespace Go.Proofs.YtbklhnpnkinadaaDoor
open Go Go.RowKit Go.Vil Go.ChangeShapes Go.WideShapes Go.ChangeAt
set_option linter.unusedSimpArgs false
set_option linter.unusedVariables false
set_option maxRecDepth 100000

/-- What a deletion makes of a segment's memory. -/
structure Deleted (size : Nat) (l : List En) (i : Nat) (e : En) (x x' : Sm) : Prop where
  geo : Geo size (l.modify i gone') x'
  m : x'.m = x.m
  re : x'.r.e = x.r.e
  h : ∃ n, x'.h = x.h.del e.slot n
  other : ∀ t, t ≠ e.slot → x'.L[t]? = x.L[t]?
theorem delPtr' (q : Nat) (T TB : TypeId) (size : Nat) (l : List En) (x : Sm) (i j : Nat) (e : En) (ps : List Pt) (w : World) (g : Geo size l x) (hi : l[i]? = some e) (hg : e.gone = false) (hps : x.L[e.slot]? = some ps) (hj : ps[j]? = some (En.pt e (pos (x.o0 l) l i)))
    (hec : -1152921504606846976 ≤ x.h.ec ∧ x.h.ec ≤ 1152921504606846976) (hM : Mem w (x.mem q T TB)) :
    Calls Tryd.prog 91 #[.pointer (some ⟨q, 0, none⟩), .int .u8 e.slot, .slice (some ⟨x.h.sb, e.slot * x.h.cap * 4, none⟩) ps.length x.h.cap, .int .i64 j] w fun ex w' => ex = .returned (.tuple #[]) ∧
      ∃ x', Deleted size l i e x x' ∧ St w [q, x.m, x.h.sb] w' (x'.mem q T TB) := by
  refine Calls.mono (delPtr q T TB size l x i j e ps w g hi hg hps hj hec hM) ?_
  rintro ex w' ⟨rfl, r', W', cs', h1, h2, h3⟩
  exact ⟨rfl, _, ⟨h1, rfl, h2, ⟨_, rfl⟩, fun t ht => List.getElem?_set_ne (fun h => ht h.symm)⟩, h3⟩

set_option maxHeartbeats 1600000 in
theorem delOff (q : Nat) (T TB : TypeId) (size : Nat) (l : List En) (x : Sm) (i : Nat) (e : En) (off : Nat) (w : World) (g : Geo size l x) (hi : l[i]? = some e) (hg : e.gone = false) (ho : off = pos (x.o0 l) l i)
    (hec : -1152921504606846976 ≤ x.h.ec ∧ x.h.ec ≤ 1152921504606846976) (hM : Mem w (x.mem q T TB)) :
    Calls Tryd.prog 114 #[.pointer (some ⟨q, 0, none⟩), .int .u8 e.slot, .int .u16 e.hash, .int .i64 off] w fun ex w' => ex = .returned (.tuple #[]) ∧
      ∃ x', Deleted size l i e x x' ∧ St w [q, x.m, x.h.sb] w' (x'.mem q T TB) := by
  have S : St w [q, x.m, x.h.sb] w (x.mem q T TB) := St.start hM
  clear hM
  obtain ⟨ps, hps, hpt⟩ := g.ptr_of hi hg
  rw [← ho] at hpt
  have hsl := g.slots
  have hcap := hsl.cap
  have hcap1 := hsl.pos
  have hpc := hsl.fit ps (List.mem_of_getElem? hps)
  have hone := g.one ps (List.mem_of_getElem? hps)
  replace hone := hidden hone
  replace ho := hidden ho
  replace hi := hidden hi
  replace hps := hidden hps
  replace hpt := hidden hpt
  replace hsl := hidden hsl
  replace g := hidden g
  refine Calls.cps ?_; intro R hR
  go_enter Tryd.func114, Tryd.ntmps114
  go_wp2_with (fail)
  refine Calls.mono (getSlot q x.m T x.r.b x.r.e x.r.data.length (x.r.data ++ x.sl).length x.r.ix x.h e.slot ps.length _ S.sel1 hsl.out.lens_len (hsl.out.lens_at hps.out) hpc hcap hcap1) ?_
  rintro e1 w2 ⟨rfl, C⟩
  have S2 := S.call C; clear S C; simp only [List.cons_append, List.nil_append] at S2; have S := S2; clear S2
  go_wp2_with (fail)
  refine Calls.mono (lookupByOff _ x.h.sb (e.slot * x.h.cap * 4) ps.length x.h.cap x.cs ps e.hash off _ TB S.sel1 rfl (hsl.out.at' _ _ hps.out) (hsl.out.rise ps (List.mem_of_getElem? hps.out)) (by omega) hpc) ?_
  rintro e1 w2 ⟨r, f, rfl, hT, hF, C⟩
  have S2 := S.call C; clear S C; simp only [List.cons_append, List.nil_append] at S2; have S := S2; clear S2
  cases f with
  | false => exact absurd rfl (hF rfl _ hpt.out rfl)
  | true =>
    obtain ⟨p, hpr, hph, hpo⟩ := hT rfl
    clear hT hF
    have hpr2 : ps[r]? = some (En.pt e off) := by
      obtain ⟨r2, hr2⟩ := List.mem_iff_getElem?.1 hpt.out
      have := hone.out r r2 p _ hpr hr2 hpo
      subst this; exact hr2
    clear hpr hph hpo
    replace hpr2 := hidden hpr2
    go_wp2_with (fail)
    refine Calls.mono (delPtr' q T TB size l x i r e ps _ g.out hi.out hg hps.out (by rw [← ho.out]; exact hpr2.out) hec S.sel3) ?_
    rintro e1 w3 ⟨rfl, x', hx', C⟩
    have S2 := S.call C; clear S C; simp only [List.cons_append, List.nil_append] at S2; have S := S2; clear S2
    go_wp2_with fail
    ((first | go_ret | go_ret2 | go_ret3 | go_end0 | skip); refine hR.out _ _ ?_)
    exact ⟨rfl, x', hx', S.sel (by repeat (first | exact Sel.nil | (apply Sel.cons; (repeat (first | exact Pull.head | apply Pull.tail)))))⟩
end Go.Proofs.YtbklhnpnkinadaaDoor
end
section
namespace Go.Proofs.YtbklhnpnkinadaaDoor
open Go.Vil Go.Vil.Ri Go.RowKit
set_option linter.unusedVariables false
set_option linter.unusedSimpArgs false

structure Nums (s : Sg) (h : Hd) : Prop where
  miss : h.miss = s.missed
  hit : h.hit = s.hit
  ec : h.ec = Sg.count s.list
  tc : h.tc = s.list.length
  tt : h.tt = Sg.times s.list
  tev : h.tev = s.evacuated
  tex : h.tex = s.expired
  ov : h.ov = s.over
  tou : h.tou = s.touched
  vac : h.vac = (s.size : Int) - Sg.used s.list
structure Held (N : Nat) (s : Sg) (x : Sm) : Prop where
  geo : Geo s.size s.list x
  nums : Nums s x.h
  size : s.size ≤ 4096
  lim : s.missed ≤ N ∧ s.hit ≤ N ∧ s.evacuated ≤ N ∧ s.expired ≤ N ∧ s.over ≤ N ∧ s.touched ≤ N ∧ x.r.e ≤ N
theorem times_cons (e : En) (l : List En) : Sg.times (e :: l) = e.access + Sg.times l := rfl
theorem times_append (a b : List En) : Sg.times (a ++ b) = Sg.times a + Sg.times b := by unfold Sg.times; rw [List.map_append, List.sum_append]
theorem times_modify (f : En → En) : ∀ (l : List En) (i : Nat) (e : En), l[i]? = some e → Sg.times (l.modify i f) + e.access = Sg.times l + (f e).access
  | [], i, e, h => by cases h
  | a :: l, 0, e, h => by
    cases h
    show Sg.times (f a :: l) + a.access = _
    rw [times_cons, times_cons]; omega
  | a :: l, i + 1, e, h => by
    have := times_modify f l i e h
    show Sg.times (a :: l.modify i f) + e.access = _
    rw [times_cons, times_cons]; omega
theorem times_le {l : List En} {M : Nat} (h : ∀ e ∈ l, e.access ≤ M) : Sg.times l ≤ M * l.length := by
  induction l with
  | nil => simp [Sg.times]
  | cons e l ih =>
    have h1 := h e (by simp)
    have h2 := ih fun a ha => h a (by simp [ha])
    rw [times_cons, List.length_cons, Nat.mul_succ]; omega
/-- What stays as it is while operations are done. -/
structure Stay (x x' : Sm) : Prop where
  m : x'.m = x.m
  sb : x'.h.sb = x.h.sb
  cap : x'.h.cap = x.h.cap
  timer : x'.h.timer = x.h.timer
theorem Stay.refl (x : Sm) : Stay x x := ⟨rfl, rfl, rfl, rfl⟩
theorem Stay.trans {x y z : Sm} (h : Stay x y) (k : Stay y z) : Stay x z := ⟨k.m.trans h.m, k.sb.trans h.sb, k.cap.trans h.cap, k.timer.trans h.timer⟩

theorem Deleted.stay {size : Nat} {l : List En} {i : Nat} {e : En} {x x' : Sm} (D : Deleted size l i e x x') : Stay x x' := by
  obtain ⟨n, hn⟩ := D.h
  exact ⟨D.m, by rw [hn]; rfl, by rw [hn]; rfl, by rw [hn]; rfl⟩
namespace Held
variable {N : Nat} {s : Sg} {x : Sm}
theorem mono (H : Held N s x) {K : Nat} (h : N ≤ K) : Held K s x := ⟨H.geo, H.nums, H.size, by obtain ⟨a, b, c, d, e, f, g⟩ := H.lim; exact ⟨by omega, by omega, by omega, by omega, by omega, by omega, by omega⟩⟩
theorem used_le (H : Held N s x) : Sg.used s.list ≤ s.size := by have := H.geo.used; have := H.geo.fits; omega
theorem length_le (H : Held N s x) : s.list.length ≤ 4096 := by have := len_used s.list; have := H.used_le; have := H.size; omega
theorem count_le' (H : Held N s x) : Sg.count s.list ≤ 4096 := by have := count_le s.list; have := H.length_le; omega
theorem times_lt (H : Held N s x) : Sg.times s.list ≤ 4294967296 * 4096 := by
  have h1 := times_le (l := s.list) (M := 4294967296) fun e he => by
    obtain ⟨i, hi⟩ := List.mem_iff_getElem?.1 he
    have := (H.geo.ent i e hi).ok.2.2.2.2.1
    omega
  have h2 : 4294967296 * s.list.length ≤ 4294967296 * 4096 := Nat.mul_le_mul_left _ H.length_le
  omega
theorem free_eq (H : Held N s x) : x.h.vac = (s.free : Int) := by
  have h1 := H.nums.vac
  have h2 := H.used_le
  unfold Sg.free
  omega
theorem del (H : Held N s x) {i : Nat} {e : En} {x' : Sm} (hi : s.list[i]? = some e) (hg : e.gone = false) (D : Deleted s.size s.list i e x x') : Held N (s.at' i gone') x' := by
  obtain ⟨n1, n2, n3, n4, n5, n6, n7, n8, n9, n10⟩ := H.nums
  obtain ⟨m, hm⟩ := D.h
  have c1 := count_modify_gone gone' (fun _ => rfl) s.list i e hi hg
  have c2 := times_modify gone' s.list i e hi
  have c3 : (gone' e).access = e.access := rfl
  refine ⟨D.geo, ⟨by rw [hm]; exact n1, by rw [hm]; exact n2, ?_, ?_, ?_, by rw [hm]; exact n6, by rw [hm]; exact n7, by rw [hm]; exact n8, by rw [hm]; exact n9, ?_⟩, H.size, by rw [D.re]; exact H.lim⟩
  · rw [hm]; show x.h.ec - 1 = (Sg.count (s.list.modify i gone') : Nat)
    omega
  · rw [hm]; show x.h.tc = ((s.list.modify i gone').length : Nat)
    rw [List.length_modify]; exact n4
  · rw [hm]; show x.h.tt = (Sg.times (s.list.modify i gone') : Nat)
    omega
  · rw [hm]; show x.h.vac = (s.size : Int) - (Sg.used (s.list.modify i gone') : Nat)
    rw [used_modify gone' (fun _ => rfl)]; exact n10
/-- The head of what is held behind an entry is gone. -/
def out (h : Hd) (e : En) : Hd := { h with tt := h.tt - e.access, tc := h.tc - 1, vac := h.vac + e.len }
theorem pop (H : Held N s x) {e : En} {l : List En} (hl : s.list = e :: l) (hg : e.gone = true) : Held N (Sg.popS s l) { x with h := out x.h e } := by
  obtain ⟨n1, n2, n3, n4, n5, n6, n7, n8, n9, n10⟩ := H.nums
  have g := H.geo
  rw [hl] at g n3 n4 n5 n10
  have g2 := (g.popped hg).head (h' := out x.h e) rfl rfl
  refine ⟨g2, ⟨n1, n2, ?_, ?_, ?_, n6, n7, n8, n9, ?_⟩, H.size, H.lim⟩
  · show x.h.ec = (Sg.count l : Nat)
    rw [n3]; unfold Sg.count; rw [List.filter_cons, hg]; rfl
  · show x.h.tc - 1 = (l.length : Nat)
    rw [n4, List.length_cons]; omega
  · show x.h.tt - e.access = (Sg.times l : Nat)
    rw [n5, times_cons]; omega
  · show x.h.vac + e.len = (s.size : Int) - (Sg.used l : Nat)
    rw [n10, used_cons]; omega
theorem drop (H : Held N (s.at' 0 gone') x) {e : En} {l : List En} (hl : s.list = e :: l) (now : Nat) :
    Held (N + 1) (Sg.dropS s e l now) { x with h := if Sg.ended e.expire now then { out x.h e with tex := x.h.tex + 1 } else { out x.h e with tev := x.h.tev + 1 } } := by
  have hl1 : (s.at' 0 gone').list = gone' e :: l := by show s.list.modify 0 gone' = _; rw [hl]; rfl
  have H2 := H.pop hl1 rfl
  obtain ⟨n1, n2, n3, n4, n5, n6, n7, n8, n9, n10⟩ := H2.nums
  obtain ⟨a1, a2, a3, a4, a5, a6, a7⟩ := H2.lim
  unfold Sg.dropS
  by_cases he : Sg.ended e.expire now = true
  · rw [if_pos he, if_pos he]
    refine ⟨H2.geo.head rfl rfl, ⟨n1, n2, n3, n4, n5, n6, ?_, n8, n9, n10⟩, H.size, ?_⟩
    · show x.h.tex + 1 = ((s.expired + 1 : Nat) : Int)
      have : x.h.tex = (s.expired : Nat) := n7
      omega
    · exact ⟨by show s.missed ≤ _; have : s.missed ≤ N := a1; omega, by show s.hit ≤ _; have : s.hit ≤ N := a2; omega, by show s.evacuated ≤ _; have : s.evacuated ≤ N := a3; omega, by show s.expired + 1 ≤ _; have : s.expired ≤ N := a4; omega, by show s.over ≤ _; have : s.over ≤ N := a5; omega, by show s.touched ≤ _; have : s.touched ≤ N := a6; omega, by show x.r.e ≤ _; have : x.r.e ≤ N := a7; omega⟩
  · rw [if_neg he, if_neg he]
    refine ⟨H2.geo.head rfl rfl, ⟨n1, n2, n3, n4, n5, ?_, n7, n8, n9, n10⟩, H.size, ?_⟩
    · show x.h.tev + 1 = ((s.evacuated + 1 : Nat) : Int)
      have : x.h.tev = (s.evacuated : Nat) := n6
      omega
    · exact ⟨by show s.missed ≤ _; have : s.missed ≤ N := a1; omega, by show s.hit ≤ _; have : s.hit ≤ N := a2; omega, by show s.evacuated + 1 ≤ _; have : s.evacuated ≤ N := a3; omega, by show s.expired ≤ _; have : s.expired ≤ N := a4; omega, by show s.over ≤ _; have : s.over ≤ N := a5; omega, by show s.touched ≤ _; have : s.touched ≤ N := a6; omega, by show x.r.e ≤ _; have : x.r.e ≤ N := a7; omega⟩
/-- The oldest entry is kept: its pointer is at the end then. -/
theorem keep (H : Held N s x) {e : En} {l : List En} (hl : s.list = e :: l) (hg : e.gone = false) {ps : List Pt} (hps : x.L[e.slot]? = some ps) {j : Nat} (hj : ps[j]? = some (En.pt e (x.o0 s.list))) (hN : N + e.len ≤ 1152921504606846976) (k : Nat) (hk : k = x.o0 s.list - x.r.b) :
    Held (N + 4096) (Sg.keepS s e l) { x with r := x.r.puts ((x.W.drop k).take e.len), W := last s.size (x.W ++ (x.W.drop k).take e.len), h := { x.h with tev := x.h.tev + 1 }, cs := x.cs.set (e.slot * x.h.cap * 4 + j * 4) (.int .i64 x.r.e), L := x.L.set e.slot (ps.set j (En.pt e x.r.e)) } := by
  have hu0 := H.used_le
  have hsz := H.size
  obtain ⟨n1, n2, n3, n4, n5, n6, n7, n8, n9, n10⟩ := H.nums
  obtain ⟨a1, a2, a3, a4, a5, a6, a7⟩ := H.lim
  have g := H.geo
  rw [hl] at g n3 n4 n5 n10 hj hk hu0
  subst hk
  have hu : Sg.used (e :: l) = e.len + Sg.used l := used_cons e l
  have h1 := g.used
  have h2 := g.ends
  have h3 := g.fits
  have k0 := g.ent 0 e rfl
  have hp0 : pos (x.o0 (e :: l)) (e :: l) 0 = x.o0 (e :: l) := rfl
  rw [hp0] at k0
  have hplen : ((x.W.drop (x.o0 (e :: l) - x.r.b)).take e.len).length = e.len := by
    rw [List.length_take, List.length_drop]
    have := k0.low
    have := k0.fit
    omega
  have hsize : x.r.size = s.size := g.size
  have hh := g.snug.has
  have hle := hh.le
  have hfit := hh.fit
  have hlen := hh.len
  unfold Ri.len at hfit hlen
  have r1 := Ri.puts_has ((x.W.drop (x.o0 (e :: l) - x.r.b)).take e.len) hh
  rw [hsize] at r1
  have r2 := Ri.puts_b ((x.W.drop (x.o0 (e :: l) - x.r.b)).take e.len) x.r hfit
  have r3 := Ri.puts_e ((x.W.drop (x.o0 (e :: l) - x.r.b)).take e.len) x.r
  rw [hplen] at r2 r3
  have r4 : (x.r.puts ((x.W.drop (x.o0 (e :: l) - x.r.b)).take e.len)).data.length = x.r.data.length := Ri.puts_size _ x.r
  have hb : (x.r.puts ((x.W.drop (x.o0 (e :: l) - x.r.b)).take e.len)).b = x.r.b + (x.W.length + e.len - s.size) := by rw [r2, hsize]; omega
  have hsl := g.slots.moved hps hj x.r.e
  have g2 := (g.kept hg hps hj r1 hb r3 (by omega) r4 hsl rfl).head (h' := { x.h with tev := x.h.tev + 1 }) rfl rfl
  refine ⟨g2, ⟨n1, n2, ?_, ?_, ?_, ?_, n7, n8, n9, ?_⟩, hsz, ?_⟩
  · show x.h.ec = (Sg.count (l ++ [e]) : Nat)
    rw [n3]; unfold Sg.count; rw [List.filter_append, List.filter_cons, List.length_append, List.filter_cons]
    simp [hg]
  · show x.h.tc = ((l ++ [e]).length : Nat)
    rw [n4]; simp
  · show x.h.tt = (Sg.times (l ++ [e]) : Nat)
    rw [n5, times_append, times_cons]
    show ((e.access + Sg.times l : Nat) : Int) = ((Sg.times l + (e.access + 0) : Nat) : Int)
    omega
  · show x.h.tev + 1 = ((s.evacuated + 1 : Nat) : Int)
    omega
  · show x.h.vac = (s.size : Int) - (Sg.used (l ++ [e]) : Nat)
    rw [n10, used_append, hu]
    show _ = (s.size : Int) - ((Sg.used l + (e.len + 0) : Nat) : Int)
    omega
  · exact ⟨by show s.missed ≤ _; omega, by show s.hit ≤ _; omega, by show s.evacuated + 1 ≤ _; omega, by show s.expired ≤ _; omega, by show s.over ≤ _; omega, by show s.touched ≤ _; omega, by show (x.r.puts _).e ≤ _; rw [r3]; omega⟩
end Held
end Go.Proofs.YtbklhnpnkinadaaDoor
end
section
namespace Go.Proofs.YtbklhnpnkinadaaDoor
open Go Go.RowKit Go.Vil Go.ChangeShapes Go.WideShapes Go.ChangeAt
set_option linter.unusedSimpArgs false
set_option linter.unusedVariables false
set_option maxRecDepth 100000

theorem is_iff (e : En) (t h : Nat) (key : List UInt8) : e.is t h key = true ↔ e.gone = false ∧ e.slot = t ∧ e.hash = h ∧ e.key = key := by
  unfold En.is
  simp [and_assoc]
theorem find_some {size : Nat} {s : Sg} {x : Sm} (g : Geo size s.list x) {t h k : Nat} {key : List UInt8} {e : En} (hk : s.list[k]? = some e) (he : e.is t h key = true) : s.find t h key = some k := by
  unfold Sg.find
  cases hf : s.list.findIdx? fun e => e.is t h key with
  | none =>
    rw [List.findIdx?_eq_none_iff] at hf
    have := hf e (List.mem_of_getElem? hk)
    rw [he] at this; cases this
  | some k' =>
    obtain ⟨hl, h1, _⟩ := List.findIdx?_eq_some_iff_getElem.1 hf
    have h2 : s.list[k']? = some s.list[k'] := List.getElem?_eq_getElem hl
    obtain ⟨a1, a2, a3, a4⟩ := (is_iff _ t h key).1 h1
    obtain ⟨b1, b2, b3, b4⟩ := (is_iff _ t h key).1 he
    rw [g.uniq k' k _ _ h2 hk a1 b1 (a2.trans b2.symm) (a3.trans b3.symm) (a4.trans b4.symm)]
theorem find_none {s : Sg} {t h : Nat} {key : List UInt8} (hn : ∀ (k : Nat) (e : En), s.list[k]? = some e → e.is t h key = true → False) : s.find t h key = none := by
  unfold Sg.find
  rw [List.findIdx?_eq_none_iff]
  intro e he
  obtain ⟨k, hk⟩ := List.mem_iff_getElem?.1 he
  cases hc : e.is t h key with
  | true => exact (hn k e hk hc).elim
  | false => rfl

theorem heldSlot (q : Nat) (T TB : TypeId) (N : Nat) (s : Sg) (x : Sm) (t : Nat) (ps : List Pt) (w : World) (H : Held N s x) (hps : x.L[t]? = some ps) (hM : Mem w (x.mem q T TB)) :
    Calls Tryd.prog 86 #[.pointer (some ⟨q, 0, none⟩), .int .u8 t] w fun ex w' => ex = .returned (.slice (some ⟨x.h.sb, t * x.h.cap * 4, none⟩) ps.length x.h.cap) ∧ St w [q, x.m, x.h.sb] w' (x.mem q T TB) := by
  have S : St w [q, x.m, x.h.sb] w (x.mem q T TB) := St.start hM
  have hsl := H.geo.slots
  refine Calls.mono (getSlot q x.m T x.r.b x.r.e x.r.data.length (x.r.data ++ x.sl).length x.r.ix x.h t ps.length w (Mem.sel (.cons .head .nil) hM) hsl.lens_len (hsl.lens_at hps) (hsl.fit ps (List.mem_of_getElem? hps)) hsl.cap hsl.pos) ?_
  rintro ex w' ⟨rfl, C⟩
  refine ⟨rfl, ?_⟩
  have S2 := S.call C
  simp only [List.cons_append, List.nil_append] at S2
  exact S2
set_option maxHeartbeats 800000 in
theorem heldLookup (q : Nat) (T TB : TypeId) (N : Nat) (s : Sg) (x : Sm) (t h : Nat) (ps : List Pt) (key : List UInt8) (kn kc : Nat) (ka : Option Addr) (w : World) (H : Held N s x) (hps : x.L[t]? = some ps) (hM : Mem w (x.mem q T TB))
    (hk : Src w 1 (.slice ka kn kc) kn (u8s key)) (hd : Off ka [q, x.m, x.h.sb] (u8s key)) (hkc : kn ≤ kc) (hkm : kn ≤ 65535) :
    Calls Tryd.prog 87 #[.pointer (some ⟨q, 0, none⟩), .slice (some ⟨x.h.sb, t * x.h.cap * 4, none⟩) ps.length x.h.cap, .int .u16 h, .slice ka kn kc] w fun ex w' => ∃ (i : Nat) (f : Bool), ex = .returned (.tuple #[.int .i64 i, .bool f]) ∧
      (f = true → ∃ (k : Nat) (e : En), s.list[k]? = some e ∧ e.gone = false ∧ e.slot = t ∧ e.hash = h ∧ e.key = key ∧ s.find t h key = some k ∧ ps[i]? = some (En.pt e (pos (x.o0 s.list) s.list k))) ∧
      (f = false → s.find t h key = none ∧ i ≤ ps.length ∧ (∀ (j : Nat) (p : Pt), j < i → ps[j]? = some p → p.hash ≤ h) ∧ (∀ (j : Nat) (p : Pt), i ≤ j → ps[j]? = some p → h ≤ p.hash)) ∧
      St w [q, x.m, x.h.sb] w' (x.mem q T TB) := by
  have hsl := H.geo.slots
  have hm := List.mem_of_getElem? hps
  have hcap := hsl.cap
  have hfit := hsl.fit ps hm
  refine Calls.mono (lookup q x.m x.h.sb x.r.b T TB x.r x.W x.sl key x.h.post (t * x.h.cap * 4) ps.length x.h.cap kn kc ka x.cs ps h w hM rfl (hsl.at' t ps hps) (hsl.rise ps hm) (by omega) hfit H.geo.snug rfl (fun p hp => H.geo.ptr_in hps hp) hk hd hkc hkm) ?_
  rintro ex w' ⟨i, f, rfl, h1, h2, S⟩
  have hkey : ∀ (k : Nat) (e : En), s.list[k]? = some e → ((En.pt e (pos (x.o0 s.list) s.list k)).At x.W x.r.b key ↔ e.key = key) := by
    intro k e hke
    have ka := H.geo.ent k e hke
    constructor
    · rintro ⟨a1, a2⟩
      have a1' : e.key.length = key.length := a1
      have a3 := ka.key
      rw [a1'] at a3
      exact a3.symm.trans a2
    · rintro rfl
      exact ⟨rfl, ka.key⟩
  refine ⟨i, f, rfl, fun hf => ?_, fun hf => ?_, S⟩
  · obtain ⟨p, hp, hh, hA⟩ := h1 hf
    obtain ⟨k, e, hke, hg, hs, rfl⟩ := H.geo.whose hps (List.mem_of_getElem? hp)
    have hkk := (hkey k e hke).1 hA
    exact ⟨k, e, hke, hg, hs, hh, hkk, find_some H.geo hke ((is_iff _ _ _ _).2 ⟨hg, hs, hh, hkk⟩), hp⟩
  · obtain ⟨b1, b2, b3, b4⟩ := h2 hf
    refine ⟨find_none fun k e hke he => ?_, b1, b2, fun j p hj hp => Nat.le_of_lt (b3 j p hj hp)⟩
    obtain ⟨c1, c2, c3, c4⟩ := (is_iff _ _ _ _).1 he
    obtain ⟨ps', hps', hmem⟩ := H.geo.ptr_of hke c1
    rw [c2, hps] at hps'
    cases hps'
    exact b4 _ hmem c3 ((hkey k e hke).2 c4)
end Go.Proofs.YtbklhnpnkinadaaDoor
end
section
namespace Go.Proofs.YtbklhnpnkinadaaDoor
open Go Go.RowKit Go.Vil Go.ChangeShapes Go.WideShapes Go.ChangeAt
set_option linter.unusedSimpArgs false
set_option linter.unusedVariables false
set_option maxRecDepth 100000

theorem made_len (z : Array Value) (n : Nat) : (madeCells z n).toList.length = n := by simp [madeCells]
theorem made_one (z : Array Value) (n : Nat) (hz : 0 < z.size) (h : ∀ u ∈ z, u.oneCell' = true) : ∀ u ∈ (madeCells z n).toList, u.oneCell' = true := by
  intro u hu
  simp only [madeCells, Array.toList_map, List.mem_map] at hu
  obtain ⟨i, _, rfl⟩ := hu
  have hm := Nat.mod_lt i hz
  rw [getElem!_pos z (i % z.size) hm]
  exact h _ (Array.getElem_mem hm)
/-- make([]T, l, c), each element of several cells. -/
theorem _root_.Go.Vil.wpList_mkC {P : Program} {ops : Array Oper} {Q : Exit → Act → World → Prop} {rest : List Oper} {o : Oper} {a : Act} {w : World} {w0 : World} {bs : List Nat} {L : List Res} (S : St w0 bs w L) {a' : Nat → Act} {ty e : TypeId} {x y : Operand} {z : Value} {size bytes : Nat} {kl kc : IntKind} {l c : Int} {ln cn : Nat}
    (k : ∀ (n : Nat) (w' : World) (cs : List Value), w0.heap.size ≤ n → cs.length = cn * size → (∀ u ∈ cs, u.oneCell' = true) → St w0 bs w' (.blk n (.cells cs.toArray e (0, 0)) :: L) → wpList P ops Q rest (a' n) w')
    (hw : Region.wanted o (yielded ops a.tmps) = true := by rfl) (ho : o.op = .makeSlice ty x y := by rfl) (ht : TSlice P ty e := by infer_instance) (he : TElem P e z size bytes := by infer_instance)
    (hx : slot a x = some (.int kl l) := by rfl) (hy : slot a y = some (.int kc c) := by rfl) (hzn : 0 < z.cells.size := by decide) (hz1 : ∀ u ∈ z.cells, u.oneCell' = true := by decide)
    (hln : l.toNat = ln := by (first | exact Int.toNat_natCast _ | rfl | omega)) (hcn : c.toNat = cn := by (first | exact Int.toNat_natCast _ | rfl | omega))
    (h0 : 0 ≤ l := by omega) (hlc : l ≤ c := by omega) (hb : bytes * c ≤ 281474976710656 := by omega) (h63 : c ≤ 9223372036854775807 := by omega)
    (hput : ∀ n, Put a o.dst (.slice (some ⟨n, 0, none⟩) ln cn) (a' n) := by (intro _; exact put_of (by conv => lhs; simp only [List.set_cons_succ, List.set_cons_zero]))) : wpList P ops Q (o :: rest) a w := by
  obtain ⟨i, hi, hz, hs, hby, hzs⟩ := he.is
  subst hby hln hcn hs
  have hr := run_make (P := P) w ty e i z ht.is hi hz kl kc l c h0 hlc hb h63
  refine wpList_run hw (w' := w.alloc (.cells (madeCells z.cells (c.toNat * i.size)) e)) (v := .slice (some ⟨w.heap.size, 0, none⟩) l.toNat c.toNat) ?_ (by
    rw [(hput _).is]
    refine k _ _ (madeCells z.cells (c.toNat * i.size)).toList S.chg.size (made_len _ _) (made_one _ _ hzn hz1) ?_
    have := S.alloc (.cells (madeCells z.cells (c.toNat * i.size)) e)
    simpa using this)
  simp [execOp, ho, eval_slot hx, eval_slot hy, hr]

theorem Pts.keep {cs cs' : List Value} {o : Nat} {ps : List Pt} (h : Pts cs o ps) (ho : ∀ i, o ≤ i → i < o + ps.length * 4 → cs'[i]? = cs[i]?) : Pts cs' o ps := by
  intro j p hj
  have hjl := (List.getElem?_eq_some_iff.1 hj).1
  obtain ⟨q0, q1, q2, v, q3⟩ := h j p hj
  exact ⟨by rw [ho _ (by omega) (by omega)]; exact q0, by rw [ho _ (by omega) (by omega)]; exact q1, by rw [ho _ (by omega) (by omega)]; exact q2, v, by rw [ho _ (by omega) (by omega)]; exact q3⟩
theorem Pts.copied {cs cs' : List Value} {o d : Nat} {ps : List Pt} (h : Pts cs o ps) (hl : o + ps.length * 4 ≤ cs.length) (hd : d + ps.length * 4 ≤ cs'.length) : Pts (splice cs' d ((cs.drop o).take (ps.length * 4))) d ps := by
  have e0 : ((cs.drop o).take (ps.length * 4)).length = ps.length * 4 := by rw [List.length_take, List.length_drop]; omega
  have key : ∀ j t, t < 4 → j < ps.length → (splice cs' d ((cs.drop o).take (ps.length * 4)))[d + j * 4 + t]? = cs[o + j * 4 + t]? := by
    intro j t ht hj
    rw [splice_get? _ _ _ (by rw [e0]; omega), e0, if_neg (by omega), if_pos (by omega), List.getElem?_take, if_pos (by omega), List.getElem?_drop]
    congr 1; omega
  intro j p hj
  have hjl := (List.getElem?_eq_some_iff.1 hj).1
  obtain ⟨q0, q1, q2, v, q3⟩ := h j p hj
  exact ⟨by rw [← Nat.add_zero (d + j * 4), key j 0 (by omega) hjl]; exact q0, by rw [key j 1 (by omega) hjl]; exact q1, by rw [key j 2 (by omega) hjl]; exact q2, v, by rw [key j 3 (by omega) hjl]; exact q3⟩
/-- x[l:h] of a block, below the end of its room. -/
theorem _root_.Go.Vil.quiet_slcLHN {P : Program} {o : Oper} {a : Act} {C : World → Prop} {K : Act → Prop} {ty e : TypeId} {z : Value} {size bytes : Nat} {x lo hi : Operand} {b i n c : Nat} {kl kh : IntKind} {l h : Int} {a' : Act} (lN hN : Nat)
    (k : K a')
    (ho : o.op = .slice ty x (some lo) (some hi) none := by rfl) (ht : TSlice P ty e := by infer_instance) (he : TElem P e z size bytes := by infer_instance)
    (hx : slot a x = some (.slice (some ⟨b, i, none⟩) n c) := by rfl) (hl : slot a lo = some (.int kl l) := by rfl) (hh : slot a hi = some (.int kh h) := by rfl)
    (hlN : l.toNat = lN := by omega) (hhN : h.toNat = hN := by omega) (h0 : 0 ≤ l := by omega) (h1 : l ≤ h := by omega) (h2 : h ≤ c := by omega) (h3 : lN < c := by omega)
    (hput : Put a o.dst (.slice (some ⟨b, i + lN * size, none⟩) (hN - lN) (c - lN)) a' := by exact put_of (by conv => lhs; simp only [List.set_cons_succ, List.set_cons_zero])) : o.quiet P a C K :=
  quiet_slcLH lN hN k ho ht he hx hl hh hlN hhN h0 h1 h2 (by rw [cut_low h3]; exact hput)
theorem Hd.set_cap {h : Hd} {m : Nat} {b e : Int} {N C : Nat} {ix : Int} {v : Int} {nb K : Nat} (c' : Nat) (hv : v = c') (hK : K = 256 * c') (hl : h.lens.length = 256) :
    ((h.cells m b e N C ix).set 273 (.int .i32 v)).set 274 (.slice (some ⟨nb, 0, none⟩) K K) = ({ h with cap := c', sb := nb } : Hd).cells m b e N C ix := by
  subst hv hK
  have : (h.tail.set 256 (.int .i32 c')).set 257 (.slice (some ⟨nb, 0, none⟩) (256 * c') (256 * c')) = ({ h with cap := c', sb := nb } : Hd).tail := by
    unfold Hd.tail
    rw [List.set_append_right _ _ (by simp [hl]), List.set_append_right _ _ (by simp [hl])]
    simp [hl]
  show _ :: _ :: _ :: _ :: _ :: _ :: _ :: _ :: _ :: _ :: _ :: _ :: _ :: _ :: _ :: _ :: _ :: (h.tail.set 256 _).set 257 _ = _
  rw [this]

set_option maxHeartbeats 3200000 in
theorem expand (q m : Nat) (T : TypeId) (b e : Int) (N C : Nat) (ix : Int) (h : Hd) (cs : List Value) (L : List (List Pt)) (w : World) (k : Slots h cs L) (hc : h.cap ≤ 8192) (hM : Mem w [rHead q m T b e N C ix h.post, .blk h.sb (.cells cs.toArray 155 (0, 0))]) :
    Calls Tryd.prog 116 #[.pointer (some ⟨q, 0, none⟩)] w fun ex w' => ex = .returned (.tuple #[]) ∧ ∃ nb cs', Slots { h with cap := 2 * h.cap, sb := nb } cs' L ∧
      St w [q, h.sb] w' [rHead q m T b e N C ix ({ h with cap := 2 * h.cap, sb := nb } : Hd).post, .blk nb (.cells cs'.toArray 155 (0, 0))] := by
  have S : St w [q, h.sb] w _ := St.start hM
  clear hM
  have hll := k.lens_len
  have q2 := Hd.at_cap (m := m) (b := b) (e := e) (N := N) (C := C) (ix := ix) hll
  have q3 := Hd.at_sb (m := m) (b := b) (e := e) (N := N) (C := C) (ix := ix) hll
  have hpos := k.pos
  have hcl := hidden k.len
  have hone := hidden k.one
  have hL := hidden k.n
  replace k := hidden k
  refine Calls.cps ?_; intro R hR
  go_enter Tryd.func116, Tryd.ntmps116
  go_upto_region 2 with (first | (refine wpList_ld S ?_ (hi := q2)) | (refine wpList_mkC S ?_ (ln := 512 * h.cap) (cn := 512 * h.cap); (clear S; intro nb wb cs0 hnb hcs0 hone0 S)))
  have hcs0' := hidden hcs0
  have hone0' := hidden hone0
  clear hcs0 hone0
  have hZ : Hid (∀ (s : Nat) (ps : List Pt), s < 0 → L[s]? = some ps → Pts cs0 (s * (2 * h.cap) * 4) ps) := hidden (by intro s ps hs; omega)
  go_loopg [3, 4] 256 (fun g i o wr => ∃ (j : Nat) (cs' : List Value), j ≤ 256 ∧ 256 - j ≤ g ∧ i = .int .i64 j ∧ Hid (cs'.length = 512 * h.cap * 4) ∧ Hid (∀ u ∈ cs', u.oneCell' = true) ∧ Hid (∀ (s : Nat) (ps : List Pt), s < j → L[s]? = some ps → Pts cs' (s * (2 * h.cap) * 4) ps) ∧
    St w [q, h.sb] wr [.blk nb (.cells cs'.toArray 155 (0, 0)), rHead q m T b e N C ix h.post, .blk h.sb (.cells cs.toArray 155 (0, 0))])
  case atStart => exact ⟨0, cs0, by omega, by omega, rfl, hcs0', hone0', hZ, S⟩
  case round =>
    obtain ⟨j, cs', hj1, hj2, rfl, hcl', hone', hP, S⟩ := hrel
    clear hcs0' hone0' hZ
    by_cases hlt : j < 256
    · obtain ⟨ps, hps⟩ := k.out.has hlt
      have q1 := Hd.at_len (m := m) (b := b) (e := e) (N := N) (C := C) (ix := ix) (k.out.lens_at hps)
      have hpf := k.out.fit ps (List.mem_of_getElem? hps)
      replace hps := hidden hps
      have hmul : j * h.cap ≤ 255 * 8192 := Nat.mul_le_mul (by omega) hc
      have hmu2 : j * h.cap ≤ 255 * h.cap := Nat.mul_le_mul (by omega) (Nat.le_refl _)
      go_upto_region 5 with ((refine wpList_ld S ?_ (hi := q2)))
      obtain ⟨o, ho⟩ : ∃ o, j * h.cap = o := ⟨_, rfl⟩
      have hoi : (j : Int) * (h.cap : Int) = (o : Int) := by rw [← ho]; simp
      rw [hoi]
      rw [ho] at hmul hmu2
      replace hoi := hidden hoi
      replace ho := hidden ho
      refine St.regionC S [rHead q m T b e N C ix h.post] 19 [([0, 1, 2, 3, 4, 5, 6, 7, 8, 9, 10, 11, 12, 13, 14, 15, 16, 17], 18)] [] ?_
      clear S; intro wr2 Cr S Sc; simp only [walkC, pick, List.getElem?_cons_succ, List.getElem?_cons_zero, List.drop_succ_cons, List.drop_zero]
      (repeat (first | (go_big_quiet_want; (first | (refine quiet_ld Sc ?_ (hi := q1)) | (refine quiet_ld Sc ?_ (hi := q3)) | (refine quiet_slcN (o * 2) ?_) | (refine quiet_slcLHN o (o + ps.length) ?_)); go_big_quiet_on) | ((go_big_quiet_step (fail)))))
      refine wpQuiet_nil ?_
      have hroom := k.out.room hps.out
      have hcl2 := hcl'.out
      have hcl3 := hcl.out
      rw [ho.out] at hroom
      refine wpList_copy S (S.srcAt (b := h.sb) (cs := cs) (T := 155) (fr := (0, 0)) (o := 0 + o * 4) (m := o + ps.length - o) (c := 256 * h.cap - o) 4 (by repeat (first | exact Pull.head | apply Pull.tail)) (by omega) hone.out) ?_ (hfit := by omega); (clear S; intro ws S)
      refine ⟨(S.sel (by repeat (first | exact Sel.nil | (apply Sel.cons; (repeat (first | exact Pull.head | apply Pull.tail)))))).inSt _, ?_⟩; (repeat (fail)); refine wpQuiet_nil ?_
      rw [show o + ps.length - o = ps.length by omega, show Nat.min ps.length (512 * h.cap - o * 2) = ps.length from Nat.min_eq_left (by omega), List.take_take, Nat.min_self, Nat.zero_add, Nat.zero_add] at S
      have hxl : ((cs.drop (o * 4)).take (ps.length * 4)).length = ps.length * 4 := by rw [List.length_take, List.length_drop]; omega
      go_wp2_with fail
      go_roundg (gk - 1)
      case measure => omega
      case rel =>
        refine ⟨j + 1, _, by omega, by omega, rfl, hidden ?_, hidden ?_, hidden ?_, S⟩
        · rw [splice_length _ _ _ (by rw [hxl]; omega)]; exact hcl2
        · exact splice_one hone'.out (fun u hu => hone.out u (List.mem_of_mem_drop (List.mem_of_mem_take hu)))
        · intro s qs hs hq
          by_cases e1 : s = j
          · subst e1
            have e2 := hps.out
            rw [hq] at e2; cases e2
            have h9 := (k.out.at' _ _ hq).copied (cs' := cs') (d := o * 2 * 4) (by rw [ho.out]; omega) (by omega)
            rw [ho.out] at h9
            rw [show s * (2 * h.cap) * 4 = o * 2 * 4 by rw [← ho.out]; rw [Nat.mul_left_comm, Nat.mul_comm 2]]
            exact h9
          · have h10 := k.out.fit qs (List.mem_of_getElem? hq)
            refine (hP.out s qs (by omega) hq).keep fun t h1 h2 => ?_
            have h11 : (s + 1) * (2 * h.cap) ≤ j * (2 * h.cap) := Nat.mul_le_mul_right _ (by omega)
            rw [Nat.succ_mul] at h11
            have h12 : j * (2 * h.cap) = o * 2 := by rw [← ho.out]; rw [Nat.mul_left_comm, Nat.mul_comm 2]
            rw [splice_get? _ _ _ (by rw [hxl]; omega), if_pos (by omega)]
    · obtain rfl : j = 256 := by omega
      go_wp2_with (first | (refine wpList_ld S ?_ (hi := q2)) | (refine wpList_stG S ?_ (hi := by first | (rw [Hd.long]; omega) | (rw [List.length_set, Hd.long]; omega)); (clear S; intro ws S)))
      rw [Hd.set_cap (2 * h.cap) (by omega) (by omega) hll] at S
      ((first | go_ret | go_ret2 | go_ret3 | go_end0 | skip); refine hR.out _ _ ?_)
      refine ⟨rfl, nb, cs', ⟨k.out.n, k.out.lens, by rw [hcl'.out]; show _ = 256 * (2 * h.cap) * 4; omega, fun ps hps => by have := k.out.fit ps hps; show ps.length ≤ 2 * h.cap; omega, by show 1 ≤ 2 * h.cap; omega, by show 2 * h.cap ≤ 65536; omega, fun s ps hs => hP.out s ps (k.out.lt hs) hs, k.out.rise, hone'.out⟩, S.sel (by repeat (first | exact Sel.nil | (apply Sel.cons; (repeat (first | exact Pull.head | apply Pull.tail)))))⟩
end Go.Proofs.YtbklhnpnkinadaaDoor
end
section
namespace Go.Proofs.YtbklhnpnkinadaaDoor
open Go Go.RowKit Go.Vil Go.ChangeShapes Go.WideShapes Go.ChangeAt
set_option linter.unusedSimpArgs false
set_option linter.unusedVariables false
set_option maxRecDepth 100000

/-- x[l:] of a block, wherever it lies then. -/
theorem _root_.Go.Vil.quiet_slcX {P : Program} {o : Oper} {a : Act} {C : World → Prop} {K : Act → Prop} {ty e : TypeId} {z : Value} {size bytes : Nat} {x lo : Operand} {b i n c : Nat} {kl : IntKind} {l : Int} {a' : Act} (lN d : Nat)
    (hcut : cutAt ⟨b, i, none⟩ lN c size = ⟨b, d, none⟩) (k : K a')
    (ho : o.op = .slice ty x (some lo) none none := by rfl) (ht : TSlice P ty e := by infer_instance) (he : TElem P e z size bytes := by infer_instance)
    (hx : slot a x = some (.slice (some ⟨b, i, none⟩) n c) := by rfl) (hl : slot a lo = some (.int kl l) := by rfl)
    (hlN : l.toNat = lN := by omega) (h0 : 0 ≤ l := by omega) (h1 : l ≤ n := by omega)
    (hput : Put a o.dst (.slice (some ⟨b, d, none⟩) (n - lN) (c - lN)) a' := by exact put_of (by conv => lhs; simp only [List.set_cons_succ, List.set_cons_zero])) : o.quiet P a C K :=
  quiet_slcT lN k ho ht he hx hl hlN h0 h1 (by rw [hcut]; exact hput)

def Hd.ins (h : Hd) (s n c sb : Nat) : Hd := { h with lens := h.lens.set s (n + 1), ec := h.ec + 1, cap := c, sb := sb }

set_option maxHeartbeats 3200000 in
theorem insPtr (q m : Nat) (T : TypeId) (b e : Int) (N C : Nat) (ix : Int) (h : Hd) (cs : List Value) (L : List (List Pt)) (s i off hash klen : Nat) (ps : List Pt) (w : World) (k : Slots h cs L) (hs : L[s]? = some ps) (hi : i ≤ ps.length) (hc : h.cap ≤ 8192)
    (h1 : ∀ (j : Nat) (x : Pt), j < i → ps[j]? = some x → x.hash ≤ hash) (h2 : ∀ (j : Nat) (x : Pt), i ≤ j → ps[j]? = some x → hash ≤ x.hash) (hec : -1152921504606846976 ≤ h.ec ∧ h.ec ≤ 1152921504606846976)
    (hM : Mem w [rHead q m T b e N C ix h.post, .blk h.sb (.cells cs.toArray 155 (0, 0))]) :
    Calls Tryd.prog 93 #[.pointer (some ⟨q, 0, none⟩), .int .u8 s, .int .u16 hash, .int .i64 off, .int .i64 i, .int .u16 klen] w fun ex w' => ex = .returned (.tuple #[]) ∧ ∃ c' sb' cs', c' ≤ max h.cap (2 * ps.length) ∧ Slots (h.ins s ps.length c' sb') cs' (L.set s (ps.insertIdx i ⟨off, hash, klen⟩)) ∧
      St w [q, h.sb] w' [rHead q m T b e N C ix (h.ins s ps.length c' sb').post, .blk sb' (.cells cs'.toArray 155 (0, 0))] := by
  have S : St w [q, h.sb] w _ := St.start hM
  clear hM
  have hll := k.lens_len
  have hlt := k.lt hs
  have q1 := Hd.at_len (m := m) (b := b) (e := e) (N := N) (C := C) (ix := ix) (k.lens_at hs)
  have q2 := Hd.at_cap (m := m) (b := b) (e := e) (N := N) (C := C) (ix := ix) hll
  have hpf := k.fit ps (List.mem_of_getElem? hs)
  have hpos := k.pos
  replace k := hidden k
  replace hs := hidden hs
  replace h1 := hidden h1
  replace h2 := hidden h2
  refine Calls.cps ?_; intro R hR
  go_enter Tryd.func93, Tryd.ntmps93
  go_upto_region 0 with fail
  refine St.regionG S 11 [] [0, 1, 2, 3, 4, 5, 6, 7, 8, 9, 10] ?_
  clear S; intro wr S; simp only [walkSt, pick, List.getElem?_cons_succ, List.getElem?_cons_zero, List.drop_succ_cons, List.drop_zero]
  (repeat (first | (go_big_quiet_want; (first | (refine quiet_ld S ?_ (hi := q1)) | (refine quiet_ld S ?_ (hi := q2))); go_big_quiet_on) | ((go_big_quiet_step (fail)))))
  refine wpQuiet_nil ?_
  go_upto_if 23 with fail
  go_cut [] (fun w' => ∃ (h1 : Hd) (cs1 : List Value), Hid (Slots h1 cs1 L) ∧ ps.length + 1 ≤ h1.cap ∧ h1.cap ≤ 16384 ∧ Hid (h1.cap ≤ max h.cap (2 * ps.length)) ∧ Hid (h1 = { h with cap := h1.cap, sb := h1.sb }) ∧ St w [q, h.sb] w' [rHead q m T b e N C ix h1.post, .blk h1.sb (.cells cs1.toArray 155 (0, 0))])
  case first =>
    by_cases hf : ps.length = h.cap
    · have hbb : ((ps.length : Int) == (h.cap : Int)) = true := by simp; omega
      go_wp2_with fail
      refine Calls.mono (expand q m T b e N C ix h cs L _ k.out hc S.sel2) ?_
      rintro ex w2 ⟨rfl, nb, cs1, k1, C1⟩
      have S2 := S.call C1; clear S C1; simp only [List.cons_append, List.nil_append] at S2; have S := S2; clear S2
      replace k1 := hidden k1
      go_wp2_with fail
      go_meet
      exact ⟨_, cs1, k1, by show _ ≤ 2 * h.cap; omega, by show 2 * h.cap ≤ _; omega, hidden (by show 2 * h.cap ≤ _; omega), hidden rfl, S⟩
    · have hbb : ((ps.length : Int) == (h.cap : Int)) = false := by simp; omega
      go_wp2_with fail
      go_meet
      exact ⟨h, cs, k, by omega, by omega, hidden (by omega), hidden rfl, S⟩
  case rest =>
    obtain ⟨h1', cs1, k1, hn1, hc1, hc2, he1, S⟩ := hcut
    have hll1 : h1'.lens.length = 256 := k1.out.lens_len
    have q1' := Hd.at_len (m := m) (b := b) (e := e) (N := N) (C := C) (ix := ix) (k1.out.lens_at hs.out)
    have hroom := k1.out.room hs.out
    have hcap1 := k1.out.cap
    have hpos1 := k1.out.pos
    have hec1 : h1'.ec = h.ec := by rw [he1.out]
    have hone := hidden k1.out.one
    go_upto_region 2 with fail
    refine St.regionG S 10 [] [0, 1, 2, 3, 4, 5, 6, 7, 8, 9] ?_
    clear S; intro wr S; simp only [walkSt, pick, List.getElem?_cons_succ, List.getElem?_cons_zero, List.drop_succ_cons, List.drop_zero]
    (repeat (first | (go_big_quiet_want; (refine quiet_ld S ?_ (hi := q1')); go_big_quiet_on) | ((go_big_quiet_step (fail)))))
    refine wpQuiet_nil ?_
    refine wpList_st S ?_ (hi := by rw [Hd.long]; omega) (hc' := Hd.set_len (ps.length + 1) (by omega) (by omega)); (clear S; intro ws S)
    go_wp2_with fail
    obtain ⟨wa, hrun, S2⟩ := atAdd S q 8 1
    clear S; have S := S2; clear S2
    rw [hrun]
    rw [show wrap64 (h1'.ec + 1) = h.ec + 1 by rw [hec1]; unfold wrap64; omega] at S
    have S2 : St w [q, h.sb] wa [rHead q m T b e N C ix (h1'.ins s ps.length h1'.cap h1'.sb).post, .blk h1'.sb (.cells cs1.toArray 155 (0, 0))] := by
      have e1 : ({ h1' with lens := h1'.lens.set s (ps.length + 1), ec := h.ec + 1 } : Hd) = h1'.ins s ps.length h1'.cap h1'.sb := by unfold Hd.ins; rw [hec1]
      have e2 := congrArg Hd.post e1
      have S3 : St w [q, h.sb] wa [rHead q m T b e N C ix ({ h1' with lens := h1'.lens.set s (ps.length + 1), ec := h.ec + 1 } : Hd).post, .blk h1'.sb (.cells cs1.toArray 155 (0, 0))] := S
      rw [e2] at S3
      exact S3
    clear S; have S := S2; clear S2
    have hl2 : (h1'.ins s ps.length h1'.cap h1'.sb).lens.length = 256 := by show (h1'.lens.set s _).length = 256; rw [List.length_set]; exact hll1
    have hl3 : (h1'.ins s ps.length h1'.cap h1'.sb).lens[s]? = some (ps.length + 1) := by show (h1'.lens.set s _)[s]? = _; rw [List.getElem?_set, if_pos rfl, if_pos (by omega)]
    go_wp2_with fail
    refine Calls.mono (getSlot q m T b e N C ix (h1'.ins s ps.length h1'.cap h1'.sb) s (ps.length + 1) _ S.sel1 hl2 hl3 hn1 hcap1 hpos1) ?_
    rintro ex w2 ⟨rfl, C1⟩
    have S2 := S.call C1; clear S C1; simp only [List.cons_append, List.nil_append] at S2; have S := S2; clear S2
    obtain ⟨H, hH⟩ : ∃ H, h1'.ins s ps.length h1'.cap h1'.sb = H := ⟨_, rfl⟩
    have hHs : H.sb = h1'.sb := by rw [← hH]; rfl
    have hHc : H.cap = h1'.cap := by rw [← hH]; rfl
    rw [hH] at S ⊢
    rw [hHs, hHc]
    replace hH := hidden hH
    obtain ⟨o, ho⟩ : ∃ o, s * h1'.cap * 4 = o := ⟨_, rfl⟩
    rw [ho] at hroom ⊢
    replace ho := hidden ho
    obtain ⟨d, hd, hd2⟩ : ∃ d, cutAt ⟨h1'.sb, o, none⟩ (i + 1) h1'.cap 4 = ⟨h1'.sb, d, none⟩ ∧ (d = o + (i + 1) * 4 ∨ (ps.length - i = 0 ∧ d = o)) := by
      by_cases c1 : i + 1 < h1'.cap
      · exact ⟨_, cut_low c1, .inl rfl⟩
      · refine ⟨o, ?_, .inr ⟨by omega, rfl⟩⟩
        unfold cutAt; rw [if_pos (by omega)]
    replace hd2 := hidden hd2
    go_upto_region 5 with fail
    refine St.regionC S [] 8 [([0, 1, 2, 3, 4, 5, 6], 7)] [] ?_
    clear S; intro wr Cr S Sc; simp only [walkC, pick, List.getElem?_cons_succ, List.getElem?_cons_zero, List.drop_succ_cons, List.drop_zero]
    (repeat (first | (go_big_quiet_want; (refine quiet_slcN i ?_); go_big_quiet_on) | (go_big_quiet_want; (refine quiet_slcX (i + 1) d hd ?_); go_big_quiet_on) | ((go_big_quiet_step (fail)))))
    refine wpQuiet_nil ?_
    refine wpList_copy S (S.srcAt (b := h1'.sb) (cs := cs1) (T := 155) (fr := (0, 0)) (o := o + i * 4) (m := ps.length + 1 - i) (c := h1'.cap - i) 4 (by repeat (first | exact Pull.head | apply Pull.tail)) (by omega) hone.out) ?_ (hfit := by rcases hd2.out with h | h <;> omega); (clear S; intro ws S)
    refine ⟨(S.sel (by repeat (first | exact Sel.nil | (apply Sel.cons; (repeat (first | exact Pull.head | apply Pull.tail)))))).inSt _, ?_⟩; (repeat (fail)); refine wpQuiet_nil ?_
    have e1 : splice cs1 d (List.take (Nat.min (ps.length + 1 - i) (ps.length + 1 - (i + 1)) * 4) ((cs1.drop (o + i * 4)).take ((ps.length + 1 - i) * 4))) = splice cs1 (o + (i + 1) * 4) ((cs1.drop (o + i * 4)).take ((ps.length - i) * 4)) := by
      rw [show Nat.min (ps.length + 1 - i) (ps.length + 1 - (i + 1)) = ps.length - i from (Nat.min_eq_right (by omega)).trans (by omega), List.take_take, Nat.min_eq_left (by omega)]
      rcases hd2.out with rfl | ⟨h0, rfl⟩
      · rfl
      · rw [h0, Nat.zero_mul, List.take_zero, splice_nil, splice_nil]
    rw [e1] at S
    clear e1
    have hxl : ((cs1.drop (o + i * 4)).take ((ps.length - i) * 4)).length = (ps.length - i) * 4 := by rw [List.length_take, List.length_drop]; omega
    obtain ⟨c2, hc2', hcl2⟩ : ∃ c, splice cs1 (o + (i + 1) * 4) ((cs1.drop (o + i * 4)).take ((ps.length - i) * 4)) = c ∧ c.length = cs1.length := ⟨_, rfl, splice_length _ _ _ (by rw [hxl]; omega)⟩
    rw [hc2'] at S
    replace hc2' := hidden hc2'
    replace hxl := hidden hxl
    replace hd := hidden hd
    go_wp2_with ((refine wpList_stG S ?_ (hi := by first | omega | (rw [List.length_set]; omega) | (rw [List.length_set, List.length_set]; omega)); (clear S; intro ws S)))
    ((first | go_ret | go_ret2 | go_ret3 | go_end0 | skip); refine hR.out _ _ ?_)
    have hfin : insCells cs1 o i ps.length ⟨off, hash, klen⟩ = ((c2.set (o + i * 4) (.int .i64 off)).set (o + i * 4 + 1) (.int .u16 hash)).set (o + i * 4 + 2) (.int .u16 klen) := by
      unfold insCells; rw [hc2'.out]
    rw [← hfin] at S
    refine ⟨rfl, h1'.cap, h1'.sb, insCells cs1 o i ps.length ⟨off, hash, klen⟩, hc2.out, ?_, ?_⟩
    · have := k1.out.insert (h' := h.ins s ps.length h1'.cap h1'.sb) hs.out hi hn1 ⟨off, hash, klen⟩ h1.out h2.out (by show h.lens.set _ _ = _; rw [he1.out]) rfl
      rw [ho.out] at this
      exact this
    · rw [← hH.out] at S
      have e3 : h1'.ins s ps.length h1'.cap h1'.sb = h.ins s ps.length h1'.cap h1'.sb := by
        unfold Hd.ins; rw [he1.out]
      rw [e3] at S
      exact S.sel (by repeat (first | exact Sel.nil | (apply Sel.cons; (repeat (first | exact Pull.head | apply Pull.tail)))))
end Go.Proofs.YtbklhnpnkinadaaDoor
end
section
namespace Go.Proofs.YtbklhnpnkinadaaDoor
open Go Go.RowKit Go.Vil
set_option linter.unusedSimpArgs false
set_option linter.unusedVariables false

theorem isExpired (a t : Nat) (w : World) (ha : a < 4294967296) (ht : t < 4294967296) :
    Calls Tryd.prog 95 #[.int .u32 a, .int .u32 t] w fun e w' => e = .returned (.bool (Sg.ended a t)) ∧ St w [] w' [] := by
  have S := St.begin w
  refine Calls.cps ?_; intro R hR
  go_enter Tryd.func95, Tryd.ntmps95
  by_cases h0 : a = 0
  · have hb : ((a : Int) != 0) = false := by simp; omega
    go_wp2_with (fail)
    ((first | go_ret | go_ret2 | go_ret3 | go_end0 | skip); refine hR.out _ _ ?_)
    exact ⟨by simp [Sg.ended, h0], S⟩
  · have hb : ((a : Int) != 0) = true := by simp; omega
    go_wp2_with (fail)
    ((first | go_ret | go_ret2 | go_ret3 | go_end0 | skip); refine hR.out _ _ ?_)
    exact ⟨by simp [Sg.ended, h0], S⟩
theorem clockNow (k : Nat) (T : TypeId) (t : Value) (w : World) (hM : Mem w [.blk k (.cells [t].toArray T (0, 0))]) :
    Calls Tryd.prog 136 #[.pointer (some ⟨k, 0, none⟩)] w fun e w' => e = .returned t ∧ St w [k] w' [.blk k (.cells [t].toArray T (0, 0))] := by
  have S : St w [k] w [.blk k (.cells [t].toArray T (0, 0))] := St.start hM
  clear hM
  refine Calls.cps ?_; intro R hR
  go_enter Tryd.func136, Tryd.ntmps136
  go_wp2_with ((refine wpList_ld S ?_))
  ((first | go_ret | go_ret2 | go_ret3 | go_end0 | skip); refine hR.out _ _ ?_)
  exact ⟨rfl, S⟩
end Go.Proofs.YtbklhnpnkinadaaDoor
end
section
namespace Go.Proofs.YtbklhnpnkinadaaDoor
open Go Go.RowKit Go.Vil Go.ChangeShapes Go.WideShapes Go.ChangeAt
set_option linter.unusedSimpArgs false
set_option linter.unusedVariables false
set_option maxRecDepth 100000

set_option maxHeartbeats 1600000 in
theorem updatePtr (q m : Nat) (T TB : TypeId) (b e : Int) (N C : Nat) (ix : Int) (h : Hd) (s n : Nat) (cs : List Value) (ps : List Pt) (hash old new : Nat) (w : World)
    (M : Mem w [rHead q m T b e N C ix h.post, .blk h.sb (.cells cs.toArray TB (0, 0))]) (hl : h.lens.length = 256) (hs : h.lens[s]? = some n) (hn : n ≤ h.cap) (hc : h.cap ≤ 65536) (hc1 : 1 ≤ h.cap)
    (hx : ps.length = n) (hp : Pts cs (s * h.cap * 4) ps) (hr : RiseP ps) (hin : ∃ p ∈ ps, p.hash = hash ∧ p.off = old) :
    Calls Tryd.prog 115 #[.pointer (some ⟨q, 0, none⟩), .int .u8 s, .int .u16 hash, .int .i64 old, .int .i64 new] w fun e' w' => e' = .returned (.tuple #[]) ∧ ∃ (r : Nat) (p : Pt), ps[r]? = some p ∧ p.hash = hash ∧ p.off = old ∧
      St w [q, h.sb] w' [rHead q m T b e N C ix h.post, .blk h.sb (.cells (cs.set (s * h.cap * 4 + r * 4) (.int .i64 new)).toArray TB (0, 0))] := by
  have S : St w [q, h.sb] w _ := St.start M
  clear M
  have hp := hidden hp
  have hr := hidden hr
  have hx := hidden hx
  have hin := hidden hin
  refine Calls.cps ?_; intro R hR
  go_enter Tryd.func115, Tryd.ntmps115
  go_wp2_with (fail)
  refine Calls.mono (getSlot q m T b e N C ix h s n _ S.sel1 hl hs hn hc hc1) ?_
  rintro e1 w2 ⟨rfl, C⟩
  have S2 := S.call C; clear S C; simp only [List.cons_append, List.nil_append] at S2; have S := S2; clear S2
  obtain ⟨o, ho⟩ : ∃ o, s * h.cap * 4 = o := ⟨_, rfl⟩
  rw [ho] at hp hR ⊢
  clear ho
  go_wp2_with (fail)
  refine Calls.mono (lookupByOff _ h.sb o n h.cap cs ps hash old _ TB S.sel1 hx.out hp.out hr.out (by omega) hn) ?_
  rintro e1 w2 ⟨r, f, rfl, hT, hF, C⟩
  have S2 := S.call C; clear S C; simp only [List.cons_append, List.nil_append] at S2; have S := S2; clear S2
  cases f with
  | false =>
    exfalso
    obtain ⟨p, h1, h2, h3⟩ := hin.out
    exact hF rfl p h1 h2 h3
  | true =>
    obtain ⟨p, hpr, hph, hpo⟩ := hT rfl
    clear hT hF
    have hrn : r < n := by have := (List.getElem?_eq_some_iff.1 hpr).1; have := hx.out; omega
    have hrl : o + r * 4 < cs.length := (List.getElem?_eq_some_iff.1 (hp.out r p hpr).1).1
    go_wp2_with ((refine wpList_st S ?_; (clear S; intro ws S)))
    ((first | go_ret | go_ret2 | go_ret3 | go_end0 | skip); refine hR.out _ _ ?_)
    exact ⟨rfl, r, p, hpr, hph, hpo, S.sel (by repeat (first | exact Sel.nil | (apply Sel.cons; (repeat (first | exact Pull.head | apply Pull.tail)))))⟩
end Go.Proofs.YtbklhnpnkinadaaDoor
end
section
namespace Go.Proofs.YtbklhnpnkinadaaDoor
open Go Go.RowKit Go.Vil Go.ChangeShapes Go.WideShapes Go.ChangeAt
set_option linter.unusedSimpArgs false
set_option linter.unusedVariables false
set_option maxRecDepth 100000

abbrev clk (ck now : Nat) : Res := .blk ck (.cells [.int .u32 now].toArray 99 (0, 0))
/-- Where an entry lies, and what is there. -/
structure Lay (x : Sm) (e : En) (z k0 : Nat) : Prop where
  z : z = x.r.b + k0
  fit : k0 + e.len ≤ x.W.length
  hdr : (x.W.drop k0).take 24 = En.hdr e
  val : (x.W.drop (k0 + 24 + e.key.length)).take e.value.length = e.value
theorem Geo.lay {size : Nat} {l : List En} {x : Sm} (g : Geo size l x) {i : Nat} {e : En} (hi : l[i]? = some e) : ∃ k0, Lay x e (pos (x.o0 l) l i) k0 := by
  have k := g.ent i e hi
  have h1 := k.low
  have h2 := k.fit
  exact ⟨pos (x.o0 l) l i - x.r.b, by omega, h2, k.hdr, k.val⟩

theorem methodNow (x : Value) (w : World) : (method 300 97 x "Now").run Tryd.prog w = .ok (136, x) w := by kernel_rfl

set_option maxHeartbeats 1600000 in
theorem segTtl (q ck now : Nat) (T TB : TypeId) (N : Nat) (s : Sg) (x : Sm) (hash : Nat) (key : List UInt8) (kn kc : Nat) (ka : Option Addr) (ev : Value) (w : World) (H : Held N s x) (hM : Mem w (clk ck now :: x.mem q T TB)) (hh : hash < 18446744073709551616)
    (hk : Src w 1 (.slice ka kn kc) kn (u8s key)) (hd : Off ka [ck, q, x.m, x.h.sb] (u8s key)) (hkc : kn ≤ kc) (hkm : kn ≤ 65535) (hnow : now < 4294967296) (htm : x.h.timer = .iface 97 (.pointer (some ⟨ck, 0, none⟩))) (hE : GErr w [ck, q, x.m, x.h.sb] 4 ev) :
    Calls Tryd.prog 80 #[.pointer (some ⟨q, 0, none⟩), .slice ka kn kc, .int .u64 hash] w fun ex w' =>
      ex = .returned (match s.find (hash / 256 % 256) (hash / 65536 % 65536) key with
        | none => .tuple #[.int .u32 0, ev]
        | some i => if Sg.ended (s.list.getD i ⟨0, 0, [], [], 0, 0, 0, true⟩).expire now = true then .tuple #[.int .u32 0, ev] else .tuple #[.int .u32 ((if (s.list.getD i ⟨0, 0, [], [], 0, 0, 0, true⟩).expire ≠ 0 then (s.list.getD i ⟨0, 0, [], [], 0, 0, 0, true⟩).expire - now else 0 : Nat) : Int), .nilIface]) ∧
      St w [ck, q, x.m, x.h.sb] w' (clk ck now :: x.mem q T TB) := by
  have S : St w [ck, q, x.m, x.h.sb] w (clk ck now :: x.mem q T TB) := St.start hM
  clear hM
  obtain ⟨t, htt⟩ : ∃ t, hash / 256 % 256 = t := ⟨_, rfl⟩
  obtain ⟨h, hth⟩ : ∃ h, hash / 65536 % 65536 = h := ⟨_, rfl⟩
  rw [htt, hth]
  have htl : t < 256 := by omega
  obtain ⟨ps, hps⟩ := H.geo.slots.has htl
  have hpc := H.geo.slots.fit ps (List.mem_of_getElem? hps)
  have hcap := H.geo.slots.cap
  replace hps := hidden hps
  replace H := hidden H
  have htI : (hash : Int) / 256 % 256 = (t : Int) := by omega
  have hhI : IntKind.u16.wrap ((hash : Int) / 65536) = (h : Int) := by rw [IntKind.wrap_u16]; omega
  replace hk := hidden hk
  replace hE := hidden hE
  clear htt hth
  refine Calls.cps ?_; intro R hR
  go_enter Tryd.func80, Tryd.ntmps80
  go_wp2_with (fail)
  refine Calls.mono (heldSlot q T TB N s x t ps _ H.out hps.out S.sel3) ?_
  rintro ex w2 ⟨rfl, C⟩
  have S2 := S.call C; clear S C; simp only [List.cons_append, List.nil_append] at S2; have S := S2; clear S2
  go_wp2_with (fail)
  refine Calls.mono (heldLookup q T TB N s x t h ps key kn kc ka _ H.out hps.out S.sel3 (hk.out.over S.chg hd) (hd.mono (by simp)) hkc hkm) ?_
  rintro ex w3 ⟨i, f, rfl, hT, hF, C⟩
  have S2 := S.call C; clear S C; simp only [List.cons_append, List.nil_append] at S2; have S := S2; clear S2
  cases f with
  | false =>
    have hn := hidden (hF rfl).1
    clear hT hF
    go_wp2_with ((refine wpList_ldE S hE.out.1 hE.out.2 ?_))
    ((first | go_ret | go_ret2 | go_ret3 | go_end0 | skip); refine hR.out _ _ ?_)
    rw [hn.out]
    exact ⟨rfl, S.sel (by repeat (first | exact Sel.nil | (apply Sel.cons; (repeat (first | exact Pull.head | apply Pull.tail)))))⟩
  | true =>
    obtain ⟨k, e, hke, hg, hs, hh', hkey, hf, hpt⟩ := hT rfl
    clear hT hF
    subst hs
    have hok := (H.out.geo.ent k e hke).ok
    obtain ⟨k0, hL⟩ := H.out.geo.lay hke
    obtain ⟨z, hz⟩ : ∃ z, pos (x.o0 s.list) s.list k = z := ⟨_, rfl⟩
    rw [hz] at hpt hL
    have hgetD : s.list.getD k ⟨0, 0, [], [], 0, 0, 0, true⟩ = e := by rw [List.getD_eq_getElem?_getD, hke]; rfl
    have hil := (List.getElem?_eq_some_iff.1 hpt).1
    have q0 := (H.out.geo.slots.at' _ ps hps.out i _ hpt).1
    replace q0 : x.cs[e.slot * x.h.cap * 4 + i * 4]? = some (.int .i64 z) := q0
    have hroom := H.out.geo.slots.room hps.out
    have hfit := hL.fit
    have hlen : e.len = 24 + e.key.length + e.room := rfl
    have h24 := hidden (En.hdr_length e)
    obtain ⟨hok1, hok2, hok3, hok4, hok5, hok6, hok7, hok8⟩ := hok
    have hE1 := hidden (show En.hdr e = hdrBytes ((e.access : Nat) : Int) (e.expire : Nat) (e.key.length : Nat) (e.hash : Nat) (e.value.length : Nat) (e.room : Nat) e.gone (e.slot : Nat) ((0 : Nat) : Int) from rfl)
    have hW24 : k0 + 24 ≤ x.W.length := by omega
    obtain ⟨o, ho⟩ : ∃ o, e.slot * x.h.cap * 4 = o := ⟨_, rfl⟩
    rw [ho] at q0 hroom ⊢
    replace ho := hidden ho
    have hsnug := hidden H.out.geo.snug
    replace hz := hidden hz
    replace hL := hidden hL
    replace hlen := hidden hlen
    replace hgetD := hidden hgetD
    replace hf := hidden hf
    replace hke := hidden hke
    replace hg := hidden hg
    replace hpt := hidden hpt
    replace hh' := hidden hh'
    replace hkey := hidden hkey
    go_upto_region 9 with ((refine wpList_alloc S ?_; (clear S; intro bB wB hbB S)))
    have S2 : St w [ck, q, x.m, x.h.sb] wB (.blk bB (.cells (u8s (List.replicate 24 0)).toArray 149 (0, 0)) :: clk ck now :: x.mem q T TB) := S.sel (by repeat (first | exact Sel.nil | (apply Sel.cons; (repeat (first | exact Pull.head | apply Pull.tail)))))
    clear S; have S := S2; clear S2
    refine St.regionC S [.blk x.h.sb _] 9 [([0, 1, 2, 3, 4, 5, 6, 7], 8)] [] ?_
    clear S; intro wr Cr S Sc; simp only [walkC, pick, List.getElem?_cons_succ, List.getElem?_cons_zero, List.drop_succ_cons, List.drop_zero]
    (repeat (first | (go_big_quiet_want; (refine quiet_ld Sc ?_ (hi := q0)); go_big_quiet_on) | ((go_big_quiet_step (fail)))))
    refine wpQuiet_nil ?_
    go_wp2_with fail
    refine Calls.mono (ringRead q x.m bB T 149 x.r x.W x.sl (List.replicate 24 0) k0 0 24 24 x.h.post _ .nilIface _ (by rw [hL.out.z]; simp) S.sel3 hsnug.out (by omega) (by simp) (by omega) (by omega) (by omega)) ?_
    rintro ex w4 ⟨rfl, C⟩
    have S2 := S.call C; clear S C; simp only [List.cons_append, List.nil_append] at S2; have S := S2; clear S2
    rw [if_neg (by omega), show min 24 (x.W.length - k0) = 24 by omega]
    rw [hL.out.hdr, splice_all _ _ (by rw [h24.out]; simp)] at S
    go_wp2_with fail
    refine ⟨(S.sel (by repeat (first | exact Sel.nil | (apply Sel.cons; (repeat (first | exact Pull.head | apply Pull.tail)))))).inSt _, ?_⟩; (repeat (fail)); refine wpQuiet_nil ?_
    go_wp2_with ((refine wpList_box S ?_; (clear S; intro hB wH hhB S)))
    refine Calls.mono (hdrRead hB bB e.access e.expire e.key.length e.hash e.value.length e.room e.slot 0 e.gone (En.hdr e) _ _ _ _ _ _ _ _ _ 149 152 _ hE1.out hok5 hok6 (by omega) hok7 (by omega) (by omega) hok8 (by omega) S.sel2) ?_
    rintro ex w5 ⟨rfl, C⟩
    have S2 := S.call C; clear S C; simp only [List.cons_append, List.nil_append] at S2; have S := S2; clear S2
    by_cases h0 : e.expire = 0
    · have hbb : ((e.expire : Int) == 0) = true := by simp; omega
      go_wp2_with ((refine wpList_ld S ?_))
      ((first | go_ret | go_ret2 | go_ret3 | go_end0 | skip); refine hR.out _ _ ?_)
      have hend : Sg.ended e.expire now = false := by simp [Sg.ended, h0]
      refine ⟨?_, S.sel (by repeat (first | exact Sel.nil | (apply Sel.cons; (repeat (first | exact Pull.head | apply Pull.tail)))))⟩
      rw [hf.out]
      simp only [hgetD.out, hend]
      simp [h0]
    · have hbb : ((e.expire : Int) == 0) = false := by simp; omega
      have hmeth := methodNow (.pointer (some ⟨ck, 0, none⟩))
      go_wp2_with ((refine wpList_ld S ?_))
      refine Calls.mono (clockNow ck 99 (.int .u32 now) _ S.sel1) ?_
      rintro ex w6 ⟨rfl, C⟩
      have S2 := S.call C; clear S C; simp only [List.cons_append, List.nil_append] at S2; have S := S2; clear S2
      clear hmeth
      go_wp2_with ((refine wpList_ld S ?_))
      refine Calls.mono (isExpired e.expire now _ hok6 hnow) ?_
      rintro ex w7 ⟨rfl, C⟩
      have S2 := S.same C.chg; clear S C; have S := S2; clear S2
      by_cases hx : Sg.ended e.expire now = true
      · rw [hx]
        go_wp2_with ((refine wpList_ldE S hE.out.1 hE.out.2 ?_))
        ((first | go_ret | go_ret2 | go_ret3 | go_end0 | skip); refine hR.out _ _ ?_)
        refine ⟨?_, S.sel (by repeat (first | exact Sel.nil | (apply Sel.cons; (repeat (first | exact Pull.head | apply Pull.tail)))))⟩
        rw [hf.out]
        simp only [hgetD.out, hx]
        rfl
      · have hle : now ≤ e.expire := by
          have : ¬ (e.expire ≠ 0 ∧ e.expire ≤ now) := by simpa [Sg.ended] using hx
          omega
        rw [Bool.eq_false_iff.2 hx]
        replace hx := hidden hx
        go_wp2_with ((refine wpList_ld S ?_))
        ((first | go_ret | go_ret2 | go_ret3 | go_end0 | skip); refine hR.out _ _ ?_)
        refine ⟨?_, S.sel (by repeat (first | exact Sel.nil | (apply Sel.cons; (repeat (first | exact Pull.head | apply Pull.tail)))))⟩
        show Ending.returned (.tuple #[.int .u32 ((e.expire : Int) - (now : Int)), .nilIface]) = _
        rw [hf.out]
        simp only [hgetD.out, Bool.eq_false_iff.2 hx.out]
        rw [if_neg (by decide), if_pos h0]
        rw [Int.ofNat_sub hle]
end Go.Proofs.YtbklhnpnkinadaaDoor
end
section
namespace Go.Proofs.YtbklhnpnkinadaaDoor
open Go.Vil Go.Vil.Ri Go.RowKit
set_option linter.unusedVariables false
set_option linter.unusedSimpArgs false
namespace Held
variable {N : Nat} {s : Sg} {x : Sm}
/-- Only counts are changed. -/
theorem counts (H : Held N s x) {s' : Sg} {h' : Hd} {K : Nat} (hl : s'.list = s.list) (hz : s'.size = s.size) (h1 : h'.lens = x.h.lens) (h2 : h'.cap = x.h.cap) (h3 : h'.ec = x.h.ec ∧ h'.tc = x.h.tc ∧ h'.tt = x.h.tt ∧ h'.vac = x.h.vac)
    (h4 : h'.miss = s'.missed ∧ h'.hit = s'.hit ∧ h'.tev = s'.evacuated ∧ h'.tex = s'.expired ∧ h'.ov = s'.over ∧ h'.tou = s'.touched) (h5 : N ≤ K ∧ s'.missed ≤ K ∧ s'.hit ≤ K ∧ s'.evacuated ≤ K ∧ s'.expired ≤ K ∧ s'.over ≤ K ∧ s'.touched ≤ K) : Held K s' { x with h := h' } := by
  obtain ⟨n1, n2, n3, n4, n5, n6, n7, n8, n9, n10⟩ := H.nums
  obtain ⟨a1, a2, a3, a4⟩ := h3
  obtain ⟨b1, b2, b3, b4, b5, b6⟩ := h4
  obtain ⟨c0, c1, c2, c3, c4, c5, c6⟩ := h5
  have hr := H.lim.2.2.2.2.2.2
  refine ⟨by rw [hz, hl]; exact H.geo.head h1 h2, ⟨b1, b2, by rw [hl]; exact a1.trans n3, by rw [hl]; exact a2.trans n4, by rw [hl]; exact a3.trans n5, b3, b4, b5, b6, by rw [hl, hz]; exact a4.trans n10⟩, by rw [hz]; exact H.size, c1, c2, c3, c4, c5, c6, by show x.r.e ≤ K; omega⟩
theorem miss1 (H : Held N s x) : Held (N + 1) { s with missed := s.missed + 1 } { x with h := { x.h with miss := x.h.miss + 1 } } := by
  obtain ⟨n1, n2, n3, n4, n5, n6, n7, n8, n9, n10⟩ := H.nums
  obtain ⟨a, b, c, d, e, f, g⟩ := H.lim
  exact H.counts rfl rfl rfl rfl ⟨rfl, rfl, rfl, rfl⟩ ⟨by show x.h.miss + 1 = ((s.missed + 1 : Nat) : Int); omega, n2, n6, n7, n8, n9⟩ ⟨by omega, by show s.missed + 1 ≤ _; omega, by show s.hit ≤ _; omega, by show s.evacuated ≤ _; omega, by show s.expired ≤ _; omega, by show s.over ≤ _; omega, by show s.touched ≤ _; omega⟩
theorem lost1 (H : Held N s x) : Held (N + 1) { s with expired := s.expired + 1, missed := s.missed + 1 } { x with h := { x.h with tex := x.h.tex + 1, miss := x.h.miss + 1 } } := by
  obtain ⟨n1, n2, n3, n4, n5, n6, n7, n8, n9, n10⟩ := H.nums
  obtain ⟨a, b, c, d, e, f, g⟩ := H.lim
  exact H.counts rfl rfl rfl rfl ⟨rfl, rfl, rfl, rfl⟩ ⟨by show x.h.miss + 1 = ((s.missed + 1 : Nat) : Int); omega, n2, n6, by show x.h.tex + 1 = ((s.expired + 1 : Nat) : Int); omega, n8, n9⟩ ⟨by omega, by show s.missed + 1 ≤ _; omega, by show s.hit ≤ _; omega, by show s.evacuated ≤ _; omega, by show s.expired + 1 ≤ _; omega, by show s.over ≤ _; omega, by show s.touched ≤ _; omega⟩
theorem hit1 (H : Held N s x) : Held (N + 1) { s with hit := s.hit + 1 } { x with h := { x.h with hit := x.h.hit + 1 } } := by
  obtain ⟨n1, n2, n3, n4, n5, n6, n7, n8, n9, n10⟩ := H.nums
  obtain ⟨a, b, c, d, e, f, g⟩ := H.lim
  exact H.counts rfl rfl rfl rfl ⟨rfl, rfl, rfl, rfl⟩ ⟨n1, by show x.h.hit + 1 = ((s.hit + 1 : Nat) : Int); omega, n6, n7, n8, n9⟩ ⟨by omega, by show s.missed ≤ _; omega, by show s.hit + 1 ≤ _; omega, by show s.evacuated ≤ _; omega, by show s.expired ≤ _; omega, by show s.over ≤ _; omega, by show s.touched ≤ _; omega⟩
theorem touch1 (H : Held N s x) : Held (N + 1) { s with touched := s.touched + 1 } { x with h := { x.h with tou := x.h.tou + 1 } } := by
  obtain ⟨n1, n2, n3, n4, n5, n6, n7, n8, n9, n10⟩ := H.nums
  obtain ⟨a, b, c, d, e, f, g⟩ := H.lim
  exact H.counts rfl rfl rfl rfl ⟨rfl, rfl, rfl, rfl⟩ ⟨n1, n2, n6, n7, n8, by show x.h.tou + 1 = ((s.touched + 1 : Nat) : Int); omega⟩ ⟨by omega, by show s.missed ≤ _; omega, by show s.hit ≤ _; omega, by show s.evacuated ≤ _; omega, by show s.expired ≤ _; omega, by show s.over ≤ _; omega, by show s.touched + 1 ≤ _; omega⟩
theorem over1 (H : Held N s x) : Held (N + 1) { s with over := s.over + 1 } { x with h := { x.h with ov := x.h.ov + 1 } } := by
  obtain ⟨n1, n2, n3, n4, n5, n6, n7, n8, n9, n10⟩ := H.nums
  obtain ⟨a, b, c, d, e, f, g⟩ := H.lim
  exact H.counts rfl rfl rfl rfl ⟨rfl, rfl, rfl, rfl⟩ ⟨n1, n2, n6, n7, by show x.h.ov + 1 = ((s.over + 1 : Nat) : Int); omega, n9⟩ ⟨by omega, by show s.missed ≤ _; omega, by show s.hit ≤ _; omega, by show s.evacuated ≤ _; omega, by show s.expired ≤ _; omega, by show s.over + 1 ≤ _; omega, by show s.touched ≤ _; omega⟩
theorem reset (H : Held N s x) : Held N { s with missed := 0, hit := 0, evacuated := 0, expired := 0, over := 0 } { x with h := { x.h with tev := 0, tex := 0, ov := 0, hit := 0, miss := 0 } } := by
  obtain ⟨n1, n2, n3, n4, n5, n6, n7, n8, n9, n10⟩ := H.nums
  obtain ⟨a, b, c, d, e, f, g⟩ := H.lim
  exact H.counts rfl rfl rfl rfl ⟨rfl, rfl, rfl, rfl⟩ ⟨rfl, rfl, rfl, rfl, rfl, n9⟩ ⟨by omega, Nat.zero_le _, Nat.zero_le _, Nat.zero_le _, Nat.zero_le _, Nat.zero_le _, f⟩
/-- An entry is written over in place. -/
theorem written (H : Held N s x) {i : Nat} {e : En} (hi : s.list[i]? = some e) (f : En → En) (f1 : ∀ e, (f e).key = e.key) (f2 : ∀ e, (f e).room = e.room) (f3 : ∀ e, (f e).slot = e.slot) (f4 : ∀ e, (f e).hash = e.hash) (f5 : ∀ e, (f e).gone = e.gone)
    {r' : Ri} {W' : List UInt8} (hr : r'.Has W') (hb : r'.b = x.r.b) (he : r'.e = x.r.e) (hs : r'.data.length = x.r.data.length) (hW : W'.length = x.W.length)
    (hat : EnAt W' x.r.b (pos (x.o0 s.list) s.list i) (f e)) (ho : ∀ (j : Nat) (a : En), j ≠ i → s.list[j]? = some a → EnAt W' x.r.b (pos (x.o0 s.list) s.list j) a) :
    Held N (s.at' i f) { x with r := r', W := W', h := { x.h with tt := x.h.tt + ((f e).access - e.access) } } := by
  obtain ⟨n1, n2, n3, n4, n5, n6, n7, n8, n9, n10⟩ := H.nums
  have fl : ∀ e, (f e).len = e.len := fun e => by unfold En.len; rw [f1, f2]
  have g2 := (H.geo.changed hi f f1 f2 f3 f4 f5 hr hb he hs hW hat ho).head (h' := { x.h with tt := x.h.tt + ((f e).access - e.access) }) rfl rfl
  have c2 := times_modify f s.list i e hi
  refine ⟨g2, ⟨n1, n2, ?_, ?_, ?_, n6, n7, n8, n9, ?_⟩, H.size, by rw [show ({ x with r := r', W := W', h := { x.h with tt := x.h.tt + ((f e).access - e.access) } } : Sm).r.e = x.r.e from he]; exact H.lim⟩
  · show x.h.ec = (Sg.count (s.list.modify i f) : Nat)
    rw [count_modify_same f f5]; exact n3
  · show x.h.tc = ((s.list.modify i f).length : Nat)
    rw [List.length_modify]; exact n4
  · show x.h.tt + ((f e).access - e.access) = (Sg.times (s.list.modify i f) : Nat)
    omega
  · show x.h.vac = (s.size : Int) - (Sg.used (s.list.modify i f) : Nat)
    rw [used_modify f fl]; exact n10
/-- Its header is. -/
theorem header (H : Held N s x) {i k0 : Nat} {e : En} (hi : s.list[i]? = some e) (hk : pos (x.o0 s.list) s.list i = x.r.b + k0) (f : En → En) (f1 : ∀ e, (f e).key = e.key) (f2 : ∀ e, (f e).room = e.room) (f3 : ∀ e, (f e).slot = e.slot) (f4 : ∀ e, (f e).hash = e.hash) (f5 : ∀ e, (f e).gone = e.gone) (f6 : ∀ e, (f e).value = e.value)
    (hok : En.ok (f e)) : Held N (s.at' i f) { x with r := x.r.overs k0 (En.hdr (f e)), W := splice x.W k0 (En.hdr (f e)), h := { x.h with tt := x.h.tt + ((f e).access - e.access) } } := by
  have k := H.geo.ent i e hi
  have h24 := En.hdr_length (f e)
  have hl := k.len
  have hf := k.fit
  have hlow := k.low
  have hrest := Ri.overs_rest (En.hdr (f e)) x.r k0
  refine H.written hi f f1 f2 f3 f4 f5 (Ri.overs_has _ H.geo.snug.has (by rw [h24]; omega)) hrest.1 hrest.2.1 (Ri.overs_size (En.hdr (f e)) x.r k0) (splice_length _ _ _ (by rw [h24]; omega)) ?_ ?_
  · have := k.header (f1 e) (f6 e) (f2 e) hok
    rw [show pos (x.o0 s.list) s.list i - x.r.b = k0 by omega] at this
    exact this
  · intro j a hj ha
    have kj := H.geo.ent j a ha
    have hap := pos_apart (o := x.o0 s.list) ha hi hj
    have := kj.low
    have := kj.fit
    exact kj.beside (by rw [h24]; omega) (by rw [h24]; omega)
/-- Its header and its value are. -/
theorem filled (H : Held N s x) {i k0 : Nat} {e : En} (hi : s.list[i]? = some e) (hk : pos (x.o0 s.list) s.list i = x.r.b + k0) (f : En → En) (f1 : ∀ e, (f e).key = e.key) (f2 : ∀ e, (f e).room = e.room) (f3 : ∀ e, (f e).slot = e.slot) (f4 : ∀ e, (f e).hash = e.hash) (f5 : ∀ e, (f e).gone = e.gone)
    (hok : En.ok (f e)) : Held N (s.at' i f) { x with r := (x.r.overs k0 (En.hdr (f e))).overs (k0 + 24 + e.key.length) (f e).value, W := splice (splice x.W k0 (En.hdr (f e))) (k0 + 24 + e.key.length) (f e).value, h := { x.h with tt := x.h.tt + ((f e).access - e.access) } } := by
  have k := H.geo.ent i e hi
  have h24 := En.hdr_length (f e)
  have hl := k.len
  have hf := k.fit
  have hlow := k.low
  have hv := hok.2.1
  rw [f2] at hv
  have hrest := Ri.overs_rest (En.hdr (f e)) x.r k0
  have hrest2 := Ri.overs_rest (f e).value (x.r.overs k0 (En.hdr (f e))) (k0 + 24 + e.key.length)
  have hl1 := splice_length x.W k0 (En.hdr (f e)) (by rw [h24]; omega)
  have hl2 := splice_length (splice x.W k0 (En.hdr (f e))) (k0 + 24 + e.key.length) (f e).value (by omega)
  refine H.written hi f f1 f2 f3 f4 f5 (Ri.overs_has _ (Ri.overs_has _ H.geo.snug.has (by rw [h24]; omega)) (by show _ ≤ (splice x.W k0 (En.hdr (f e))).length; omega)) (hrest2.1.trans hrest.1) (hrest2.2.1.trans hrest.2.1) ((Ri.overs_size (f e).value (x.r.overs k0 (En.hdr (f e))) (k0 + 24 + e.key.length)).trans (Ri.overs_size (En.hdr (f e)) x.r k0)) (hl2.trans hl1) ?_ ?_
  · have := k.over (f1 e) (f2 e) hok
    rw [show pos (x.o0 s.list) s.list i - x.r.b = k0 by omega] at this
    exact this
  · intro j a hj ha
    have kj := H.geo.ent j a ha
    have hap := pos_apart (o := x.o0 s.list) ha hi hj
    have := kj.low
    have := kj.fit
    have h1 := kj.beside (p := En.hdr (f e)) (k := k0) (by rw [h24]; omega) (by rw [h24]; omega)
    exact h1.beside (by omega) (by omega)
end Held
end Go.Proofs.YtbklhnpnkinadaaDoor
end
section
namespace Go.Proofs.YtbklhnpnkinadaaDoor
open Go Go.RowKit Go.Vil Go.ChangeShapes Go.WideShapes Go.ChangeAt
set_option linter.unusedSimpArgs false
set_option linter.unusedVariables false
set_option maxRecDepth 100000

theorem _root_.Go.Vil.results_ctt {P : Program} {fn : Func} {l : List Value} {w w0 : World} {bs : List Nat} {L F : List Res} (S : St w0 bs w L) {i j k b : Nat} {t T : TypeId} {n : Nat} {c : List Value} {x y : Value} (h : fn.results = #[.cell k t, .tmp i, .tmp j] := by rfl) (h1 : TAgg P t n := by infer_instance)
    (hi : l[i]? = some x := by rfl) (hj : l[j]? = some y := by rfl) (hk : l[k]? = some (.pointer (some ⟨b, 0, none⟩)) := by rfl) (hp : Pull (.blk b (.cells c.toArray T (0, 0))) L F := by repeat (first | exact Pull.head | apply Pull.tail)) (hn : c.length = n := by rfl) :
    (results fn l.toArray).run P w = .ok (.tuple #[.agg c.toArray, x, y]) w := by
  have hl := run_loadVarA (P := P) (t := t) S hp hn
  simp [results, h, hi, hj, hk, asAddr, hl]

abbrev hdrCells (e : En) : List Value := [.int .u32 e.access, .int .u32 e.expire, .int .u16 e.key.length, .int .u16 e.hash, .int .u32 e.value.length, .int .u32 e.room, .bool e.gone, .int .u8 e.slot, .int .u16 0]
abbrev hdr0 : List Value := [.int .u32 0, .int .u32 0, .int .u16 0, .int .u16 0, .int .u32 0, .int .u32 0, .bool false, .int .u8 0, .int .u16 0]

set_option maxHeartbeats 3200000 in
theorem locPeek (q : Nat) (T TB : TypeId) (N : Nat) (s : Sg) (x : Sm) (hash : Nat) (key : List UInt8) (kn kc : Nat) (ka : Option Addr) (ev : Value) (w : World) (H : Held N s x) (hM : Mem w (x.mem q T TB)) (hh : hash < 18446744073709551616)
    (hk : Src w 1 (.slice ka kn kc) kn (u8s key)) (hd : Off ka [q, x.m, x.h.sb] (u8s key)) (hkc : kn ≤ kc) (hkm : kn ≤ 65535) (hE : GErr w [q, x.m, x.h.sb] 4 ev) :
    Calls Tryd.prog 94 #[.pointer (some ⟨q, 0, none⟩), .slice ka kn kc, .int .u64 hash, .bool true] w fun ex w' =>
      (s.find (hash / 256 % 256) (hash / 65536 % 65536) key = none ∧ ex = .returned (.tuple #[.agg hdr0.toArray, .int .i64 0, ev]) ∨
       ∃ (i : Nat) (e : En), s.find (hash / 256 % 256) (hash / 65536 % 65536) key = some i ∧ s.list[i]? = some e ∧ e.gone = false ∧ e.key = key ∧ ex = .returned (.tuple #[.agg (hdrCells e).toArray, .int .i64 (pos (x.o0 s.list) s.list i), .nilIface])) ∧
      St w [q, x.m, x.h.sb] w' (x.mem q T TB) := by
  have S : St w [q, x.m, x.h.sb] w (x.mem q T TB) := St.start hM
  clear hM
  obtain ⟨t, htt⟩ : ∃ t, hash / 256 % 256 = t := ⟨_, rfl⟩
  obtain ⟨h, hth⟩ : ∃ h, hash / 65536 % 65536 = h := ⟨_, rfl⟩
  rw [htt, hth]
  have htl : t < 256 := by omega
  obtain ⟨ps, hps⟩ := H.geo.slots.has htl
  have hpc := H.geo.slots.fit ps (List.mem_of_getElem? hps)
  have hcap := H.geo.slots.cap
  replace hps := hidden hps
  replace H := hidden H
  have htI : (hash : Int) / 256 % 256 = (t : Int) := by omega
  have hhI : IntKind.u16.wrap ((hash : Int) / 65536) = (h : Int) := by rw [IntKind.wrap_u16]; omega
  replace hk := hidden hk
  replace hE := hidden hE
  clear htt hth
  refine Calls.cps ?_; intro R hR
  go_enter Tryd.func94, Tryd.ntmps94
  go_wp2_with ((refine wpList_alloc S ?_; (clear S; intro rB wR hrB S)))
  refine Calls.mono (heldSlot q T TB N s x t ps _ H.out hps.out S.sel3) ?_
  rintro ex w2 ⟨rfl, C⟩
  have S2 := S.call C; clear S C; simp only [List.cons_append, List.nil_append] at S2; have S := S2; clear S2
  go_wp2_with (fail)
  refine Calls.mono (heldLookup q T TB N s x t h ps key kn kc ka _ H.out hps.out S.sel3 (hk.out.over S.chg hd) hd hkc hkm) ?_
  rintro ex w3 ⟨i, f, rfl, hT, hF, C⟩
  have S2 := S.call C; clear S C; simp only [List.cons_append, List.nil_append] at S2; have S := S2; clear S2
  cases f with
  | false =>
    have hn := hidden (hF rfl).1
    clear hT hF
    go_wp2_with ((refine wpList_ldE S hE.out.1 hE.out.2 ?_))
    refine ret_of (results_ctt S) ?_
    refine hR.out _ _ ?_
    exact ⟨.inl ⟨hn.out, rfl⟩, S.sel (by repeat (first | exact Sel.nil | (apply Sel.cons; (repeat (first | exact Pull.head | apply Pull.tail)))))⟩
  | true =>
    obtain ⟨k, e, hke, hg, hs, hh', hkey, hf, hpt⟩ := hT rfl
    clear hT hF
    subst hs
    have hok := (H.out.geo.ent k e hke).ok
    obtain ⟨k0, hL⟩ := H.out.geo.lay hke
    obtain ⟨z, hz⟩ : ∃ z, pos (x.o0 s.list) s.list k = z := ⟨_, rfl⟩
    rw [hz] at hpt hL
    have hil := (List.getElem?_eq_some_iff.1 hpt).1
    have q0 := (H.out.geo.slots.at' _ ps hps.out i _ hpt).1
    replace q0 : x.cs[e.slot * x.h.cap * 4 + i * 4]? = some (.int .i64 z) := q0
    have hroom := H.out.geo.slots.room hps.out
    have hfit := hL.fit
    have hlen : e.len = 24 + e.key.length + e.room := rfl
    have h24 := hidden (En.hdr_length e)
    obtain ⟨hok1, hok2, hok3, hok4, hok5, hok6, hok7, hok8⟩ := hok
    have hE1 := hidden (show En.hdr e = hdrBytes ((e.access : Nat) : Int) (e.expire : Nat) (e.key.length : Nat) (e.hash : Nat) (e.value.length : Nat) (e.room : Nat) e.gone (e.slot : Nat) ((0 : Nat) : Int) from rfl)
    have hW24 : k0 + 24 ≤ x.W.length := by omega
    obtain ⟨o, ho⟩ : ∃ o, e.slot * x.h.cap * 4 = o := ⟨_, rfl⟩
    rw [ho] at q0 hroom ⊢
    replace ho := hidden ho
    have hsnug := hidden H.out.geo.snug
    replace hz := hidden hz
    replace hL := hidden hL
    replace hlen := hidden hlen
    replace hf := hidden hf
    replace hke := hidden hke
    replace hg := hidden hg
    replace hpt := hidden hpt
    replace hh' := hidden hh'
    replace hkey := hidden hkey
    go_upto_region 11 with ((refine wpList_alloc S ?_; (clear S; intro bB wB hbB S)))
    have S2 : St w [q, x.m, x.h.sb] wB (.blk bB (.cells (u8s (List.replicate 24 0)).toArray 149 (0, 0)) :: .blk rB (.cells hdr0.toArray 152 (0, 0)) :: x.mem q T TB) := S.sel (by repeat (first | exact Sel.nil | (apply Sel.cons; (repeat (first | exact Pull.head | apply Pull.tail)))))
    clear S; have S := S2; clear S2
    refine St.regionC S [.blk x.h.sb _] 9 [([0, 1, 2, 3, 4, 5, 6, 7], 8)] [] ?_
    clear S; intro wr Cr S Sc; simp only [walkC, pick, List.getElem?_cons_succ, List.getElem?_cons_zero, List.drop_succ_cons, List.drop_zero]
    (repeat (first | (go_big_quiet_want; (refine quiet_ld Sc ?_ (hi := q0)); go_big_quiet_on) | ((go_big_quiet_step (fail)))))
    refine wpQuiet_nil ?_
    go_wp2_with fail
    refine Calls.mono (ringRead q x.m bB T 149 x.r x.W x.sl (List.replicate 24 0) k0 0 24 24 x.h.post _ .nilIface _ (by rw [hL.out.z]; simp) S.sel3 hsnug.out (by omega) (by simp) (by omega) (by omega) (by omega)) ?_
    rintro ex w4 ⟨rfl, C⟩
    have S2 := S.call C; clear S C; simp only [List.cons_append, List.nil_append] at S2; have S := S2; clear S2
    rw [if_neg (by omega), show min 24 (x.W.length - k0) = 24 by omega]
    rw [hL.out.hdr, splice_all _ _ (by rw [h24.out]; simp)] at S
    go_wp2_with fail
    refine ⟨(S.sel (by repeat (first | exact Sel.nil | (apply Sel.cons; (repeat (first | exact Pull.head | apply Pull.tail)))))).inSt _, ?_⟩; (repeat (fail)); refine wpQuiet_nil ?_
    go_wp2_with ((refine wpList_box S ?_; (clear S; intro hB wH hhB S)))
    refine Calls.mono (hdrRead hB bB e.access e.expire e.key.length e.hash e.value.length e.room e.slot 0 e.gone (En.hdr e) _ _ _ _ _ _ _ _ _ 149 152 _ hE1.out hok5 hok6 (by omega) hok7 (by omega) (by omega) hok8 (by omega) S.sel2) ?_
    rintro ex w5 ⟨rfl, C⟩
    have S2 := S.call C; clear S C; simp only [List.cons_append, List.nil_append] at S2; have S := S2; clear S2
    have S2 : St w [q, x.m, x.h.sb] w5 (.blk hB (.cells (hdrCells e).toArray 152 (0, 0)) :: .blk bB (.cells (u8s (En.hdr e)).toArray 149 (0, 0)) :: .blk rB (.cells hdr0.toArray 152 (0, 0)) :: x.mem q T TB) := S.sel (by repeat (first | exact Sel.nil | (apply Sel.cons; (repeat (first | exact Pull.head | apply Pull.tail)))))
    clear S; have S := S2; clear S2
    go_upto_region 25 with (fail)
    refine St.regionC S [.blk hB _, .blk x.h.sb _] 10 [([0, 1, 2, 3, 4, 5, 6], 7)] [8, 9] ?_
    clear S; intro wr2 Cr S Sc; simp only [walkC, pick, List.getElem?_cons_succ, List.getElem?_cons_zero, List.drop_succ_cons, List.drop_zero]
    (repeat (first | (go_big_quiet_want; (refine quiet_ld Sc ?_ (hi := q0)); go_big_quiet_on) | (first | (go_big_quiet_step (fail)) | (go_big_quiet_want; (refine quiet_ldA Sc ?_); go_big_quiet_on))))
    refine wpQuiet_nil ?_
    refine wpList_stA S ?_; (clear S; intro ws S; simp only [splice, List.take_zero, List.take_succ_cons, List.drop_succ_cons, List.drop_zero, List.drop_nil, List.length_cons, List.length_nil, Nat.reduceAdd, Nat.zero_add, List.nil_append, List.cons_append, List.append_nil] at S)
    refine ⟨(S.sel (by repeat (first | exact Sel.nil | (apply Sel.cons; (repeat (first | exact Pull.head | apply Pull.tail)))))).inSt _, ?_⟩; (repeat ((go_big_quiet_step (fail)))); refine wpQuiet_nil ?_
    go_wp2_with (fail)
    refine ret_of (results_ctt S) ?_
    refine hR.out _ _ ?_
    exact ⟨.inr ⟨k, e, hf.out, hke.out, hg.out, hkey.out, by rw [hz.out]⟩, S.sel (by repeat (first | exact Sel.nil | (apply Sel.cons; (repeat (first | exact Pull.head | apply Pull.tail)))))⟩
end Go.Proofs.YtbklhnpnkinadaaDoor
end
section
namespace Go.Proofs.YtbklhnpnkinadaaDoor
open Go Go.RowKit Go.Vil Go.ChangeShapes Go.WideShapes Go.ChangeAt
set_option linter.unusedSimpArgs false
set_option linter.unusedVariables false
set_option maxRecDepth 100000

set_option maxHeartbeats 1600000 in
theorem segDel (q : Nat) (T TB : TypeId) (N : Nat) (s : Sg) (x : Sm) (hash : Nat) (key : List UInt8) (kn kc : Nat) (ka : Option Addr) (w : World) (H : Held N s x) (hM : Mem w (x.mem q T TB)) (hh : hash < 18446744073709551616)
    (hk : Src w 1 (.slice ka kn kc) kn (u8s key)) (hd : Off ka [q, x.m, x.h.sb] (u8s key)) (hkc : kn ≤ kc) (hkm : kn ≤ 65535) :
    Calls Tryd.prog 81 #[.pointer (some ⟨q, 0, none⟩), .slice ka kn kc, .int .u64 hash] w fun ex w' => ∃ (x' : Sm),
      ex = .returned (.bool (s.find (hash / 256 % 256) (hash / 65536 % 65536) key).isSome) ∧
      Held N (match s.find (hash / 256 % 256) (hash / 65536 % 65536) key with | none => s | some i => s.at' i gone') x' ∧ Stay x x' ∧ St w [q, x.m, x.h.sb] w' (x'.mem q T TB) := by
  have S : St w [q, x.m, x.h.sb] w (x.mem q T TB) := St.start hM
  clear hM
  obtain ⟨t, htt⟩ : ∃ t, hash / 256 % 256 = t := ⟨_, rfl⟩
  obtain ⟨h, hth⟩ : ∃ h, hash / 65536 % 65536 = h := ⟨_, rfl⟩
  rw [htt, hth]
  have htl : t < 256 := by omega
  obtain ⟨ps, hps⟩ := H.geo.slots.has htl
  replace hps := hidden hps
  replace H := hidden H
  have htI : (hash : Int) / 256 % 256 = (t : Int) := by omega
  have hhI : IntKind.u16.wrap ((hash : Int) / 65536) = (h : Int) := by rw [IntKind.wrap_u16]; omega
  replace hk := hidden hk
  clear htt hth
  refine Calls.cps ?_; intro R hR
  go_enter Tryd.func81, Tryd.ntmps81
  go_wp2_with (fail)
  refine Calls.mono (heldSlot q T TB N s x t ps _ H.out hps.out S.sel3) ?_
  rintro ex w2 ⟨rfl, C⟩
  have S2 := S.call C; clear S C; simp only [List.cons_append, List.nil_append] at S2; have S := S2; clear S2
  go_wp2_with (fail)
  refine Calls.mono (heldLookup q T TB N s x t h ps key kn kc ka _ H.out hps.out S.sel3 (hk.out.over S.chg hd) hd hkc hkm) ?_
  rintro ex w3 ⟨i, f, rfl, hT, hF, C⟩
  have S2 := S.call C; clear S C; simp only [List.cons_append, List.nil_append] at S2; have S := S2; clear S2
  cases f with
  | false =>
    have hn := hidden (hF rfl).1
    clear hT hF
    go_wp2_with (fail)
    ((first | go_ret | go_ret2 | go_ret3 | go_end0 | skip); refine hR.out _ _ ?_)
    rw [hn.out]
    exact ⟨x, rfl, H.out, Stay.refl x, S.sel (by repeat (first | exact Sel.nil | (apply Sel.cons; (repeat (first | exact Pull.head | apply Pull.tail)))))⟩
  | true =>
    obtain ⟨k, e, hke, hg, hs, hh', hkey, hf, hpt⟩ := hT rfl
    clear hT hF
    subst hs
    replace hf := hidden hf
    replace hke := hidden hke
    replace hg := hidden hg
    replace hpt := hidden hpt
    replace hh' := hidden hh'
    replace hkey := hidden hkey
    have hec := H.out.nums.ec
    have hec2 := H.out.count_le'
    have hecb : -1152921504606846976 ≤ x.h.ec ∧ x.h.ec ≤ 1152921504606846976 := by omega
    clear hec hec2
    go_wp2_with (fail)
    refine Calls.mono (delPtr' q T TB s.size s.list x k i e ps _ H.out.geo hke.out hg.out hps.out hpt.out hecb S.sel3) ?_
    rintro ex w4 ⟨rfl, x', D, C⟩
    have S2 := S.call C; clear S C; simp only [List.cons_append, List.nil_append] at S2; have S := S2; clear S2
    replace D := hidden D
    go_wp2_with fail
    ((first | go_ret | go_ret2 | go_ret3 | go_end0 | skip); refine hR.out _ _ ?_)
    rw [hf.out]
    exact ⟨x', rfl, H.out.del hke.out hg.out D.out, D.out.stay, S.sel (by repeat (first | exact Sel.nil | (apply Sel.cons; (repeat (first | exact Pull.head | apply Pull.tail)))))⟩
end Go.Proofs.YtbklhnpnkinadaaDoor
end
section
namespace Go.Proofs.YtbklhnpnkinadaaDoor
open Go Go.RowKit Go.Vil Go.ChangeShapes Go.WideShapes Go.ChangeAt
set_option linter.unusedSimpArgs false
set_option linter.unusedVariables false
set_option maxRecDepth 100000

def accessed (now : Nat) (e : En) : En := { e with access := now }
/-- How an entry is located. -/
inductive Loc (s : Sg) (t h now : Nat) (key : List UInt8) (ev : Value) : Sg → Sm → Value → Prop
  | none (x' : Sm) : s.find t h key = none → Loc s t h now key ev { s with missed := s.missed + 1 } x' (.tuple #[.agg hdr0.toArray, .int .i64 0, ev])
  | ended (x' : Sm) (i : Nat) (e : En) : s.find t h key = some i → s.list[i]? = some e → Sg.ended e.expire now = true →
      Loc s t h now key ev { s.at' i gone' with expired := s.expired + 1, missed := s.missed + 1 } x' (.tuple #[.agg hdr0.toArray, .int .i64 0, ev])
  | there (x' : Sm) (i : Nat) (e : En) : s.find t h key = some i → s.list[i]? = some e → Sg.ended e.expire now = false → e.gone = false →
      Loc s t h now key ev (s.at' i (accessed now)) x' (.tuple #[.agg (hdrCells (accessed now e)).toArray, .int .i64 (pos (x'.o0 (s.at' i (accessed now)).list) (s.at' i (accessed now)).list i), .nilIface])

set_option maxHeartbeats 3200000 in
theorem locGet (q ck now : Nat) (T TB : TypeId) (N : Nat) (s : Sg) (x : Sm) (hash : Nat) (key : List UInt8) (kn kc : Nat) (ka : Option Addr) (ev : Value) (w : World) (H : Held N s x) (hM : Mem w (clk ck now :: x.mem q T TB)) (hnow : now < 4294967296) (htm : x.h.timer = .iface 97 (.pointer (some ⟨ck, 0, none⟩))) (hpast : ∀ e ∈ s.list, e.access ≤ now) (hN : N ≤ 1152921504000000000) (hh : hash < 18446744073709551616)
    (hk : Src w 1 (.slice ka kn kc) kn (u8s key)) (hd : Off ka [ck, q, x.m, x.h.sb] (u8s key)) (hkc : kn ≤ kc) (hkm : kn ≤ 65535) (hE : GErr w [ck, q, x.m, x.h.sb] 4 ev) :
    Calls Tryd.prog 94 #[.pointer (some ⟨q, 0, none⟩), .slice ka kn kc, .int .u64 hash, .bool false] w fun ex w' => ∃ (s' : Sg) (x' : Sm) (v : Value), ex = .returned v ∧ Loc s (hash / 256 % 256) (hash / 65536 % 65536) now key ev s' x' v ∧ Held (N + 1) s' x' ∧ Stay x x' ∧
      St w [ck, q, x.m, x.h.sb] w' (clk ck now :: x'.mem q T TB) := by
  have S : St w [ck, q, x.m, x.h.sb] w (clk ck now :: x.mem q T TB) := St.start hM
  clear hM
  obtain ⟨t, htt⟩ : ∃ t, hash / 256 % 256 = t := ⟨_, rfl⟩
  obtain ⟨h, hth⟩ : ∃ h, hash / 65536 % 65536 = h := ⟨_, rfl⟩
  rw [htt, hth]
  have htl : t < 256 := by omega
  obtain ⟨ps, hps⟩ := H.geo.slots.has htl
  have hpc := H.geo.slots.fit ps (List.mem_of_getElem? hps)
  have hcap := H.geo.slots.cap
  have hwm : wrap64 (x.h.miss + 1) = x.h.miss + 1 := by have := H.nums.miss; have := H.lim; unfold wrap64; omega
  have hwx : wrap64 (x.h.tex + 1) = x.h.tex + 1 := by have := H.nums.tex; have := H.lim; unfold wrap64; omega
  have htt0 : 0 ≤ x.h.tt ∧ x.h.tt ≤ 17592186044416 := by have := H.nums.tt; have := H.times_lt; omega
  have hecb : -1152921504606846976 ≤ x.h.ec ∧ x.h.ec ≤ 1152921504606846976 := by have := H.nums.ec; have := H.count_le'; omega
  replace hwm := hidden hwm
  replace hwx := hidden hwx
  replace hpast := hidden hpast
  replace hps := hidden hps
  replace H := hidden H
  have htI : (hash : Int) / 256 % 256 = (t : Int) := by omega
  have hhI : IntKind.u16.wrap ((hash : Int) / 65536) = (h : Int) := by rw [IntKind.wrap_u16]; omega
  replace hk := hidden hk
  replace hE := hidden hE
  clear htt hth
  refine Calls.cps ?_; intro R hR
  go_enter Tryd.func94, Tryd.ntmps94
  go_wp2_with ((refine wpList_alloc S ?_; (clear S; intro rB wR hrB S)))
  refine Calls.mono (heldSlot q T TB N s x t ps _ H.out hps.out S.sel3) ?_
  rintro ex w2 ⟨rfl, C⟩
  have S2 := S.call C; clear S C; simp only [List.cons_append, List.nil_append] at S2; have S := S2; clear S2
  go_wp2_with (fail)
  refine Calls.mono (heldLookup q T TB N s x t h ps key kn kc ka _ H.out hps.out S.sel3 (hk.out.over S.chg hd) (hd.mono (by simp)) hkc hkm) ?_
  rintro ex w3 ⟨i, f, rfl, hT, hF, C⟩
  have S2 := S.call C; clear S C; simp only [List.cons_append, List.nil_append] at S2; have S := S2; clear S2
  cases f with
  | false =>
    have hn := hidden (hF rfl).1
    clear hT hF
    go_wp2_with ((refine wpList_ldE S hE.out.1 hE.out.2 ?_))
    obtain ⟨wa, hrun, S2⟩ := atAdd S q 6 1
    clear S; have S := S2; clear S2
    rw [hrun]
    rw [hwm.out] at S
    go_wp2_with fail
    refine ret_of (results_ctt S) ?_
    refine hR.out _ _ ?_
    exact ⟨_, { x with h := { x.h with miss := x.h.miss + 1 } }, _, rfl, .none _ hn.out, H.out.miss1, ⟨rfl, rfl, rfl, rfl⟩, S.sel (by repeat (first | exact Sel.nil | (apply Sel.cons; (repeat (first | exact Pull.head | apply Pull.tail)))))⟩
  | true =>
    obtain ⟨k, e, hke, hg, hs, hh', hkey, hf, hpt⟩ := hT rfl
    clear hT hF
    subst hs
    have hok := (H.out.geo.ent k e hke).ok
    obtain ⟨k0, hL⟩ := H.out.geo.lay hke
    obtain ⟨z, hz⟩ : ∃ z, pos (x.o0 s.list) s.list k = z := ⟨_, rfl⟩
    rw [hz] at hpt hL
    have hil := (List.getElem?_eq_some_iff.1 hpt).1
    have q0 := (H.out.geo.slots.at' _ ps hps.out i _ hpt).1
    replace q0 : x.cs[e.slot * x.h.cap * 4 + i * 4]? = some (.int .i64 z) := q0
    have hroom := H.out.geo.slots.room hps.out
    have hfit := hL.fit
    have hlen : e.len = 24 + e.key.length + e.room := rfl
    have h24 := hidden (En.hdr_length e)
    obtain ⟨hok1, hok2, hok3, hok4, hok5, hok6, hok7, hok8⟩ := hok
    have hE1 := hidden (show En.hdr e = hdrBytes ((e.access : Nat) : Int) (e.expire : Nat) (e.key.length : Nat) (e.hash : Nat) (e.value.length : Nat) (e.room : Nat) e.gone (e.slot : Nat) ((0 : Nat) : Int) from rfl)
    have hW24 : k0 + 24 ≤ x.W.length := by omega
    obtain ⟨o, ho⟩ : ∃ o, e.slot * x.h.cap * 4 = o := ⟨_, rfl⟩
    rw [ho] at q0 hroom ⊢
    replace ho := hidden ho
    have hsnug := hidden H.out.geo.snug
    replace hz := hidden hz
    replace hL := hidden hL
    replace hlen := hidden hlen
    replace hf := hidden hf
    replace hke := hidden hke
    replace hg := hidden hg
    replace hpt := hidden hpt
    replace hh' := hidden hh'
    replace hkey := hidden hkey
    go_upto_region 11 with ((refine wpList_alloc S ?_; (clear S; intro bB wB hbB S)))
    have S2 : St w [ck, q, x.m, x.h.sb] wB (.blk bB (.cells (u8s (List.replicate 24 0)).toArray 149 (0, 0)) :: .blk rB (.cells hdr0.toArray 152 (0, 0)) :: clk ck now :: x.mem q T TB) := S.sel (by repeat (first | exact Sel.nil | (apply Sel.cons; (repeat (first | exact Pull.head | apply Pull.tail)))))
    clear S; have S := S2; clear S2
    refine St.regionC S [.blk x.h.sb _] 9 [([0, 1, 2, 3, 4, 5, 6, 7], 8)] [] ?_
    clear S; intro wr Cr S Sc; simp only [walkC, pick, List.getElem?_cons_succ, List.getElem?_cons_zero, List.drop_succ_cons, List.drop_zero]
    (repeat (first | (go_big_quiet_want; (refine quiet_ld Sc ?_ (hi := q0)); go_big_quiet_on) | ((go_big_quiet_step (fail)))))
    refine wpQuiet_nil ?_
    go_wp2_with fail
    refine Calls.mono (ringRead q x.m bB T 149 x.r x.W x.sl (List.replicate 24 0) k0 0 24 24 x.h.post _ .nilIface _ (by rw [hL.out.z]; simp) S.sel3 hsnug.out (by omega) (by simp) (by omega) (by omega) (by omega)) ?_
    rintro ex w4 ⟨rfl, C⟩
    have S2 := S.call C; clear S C; simp only [List.cons_append, List.nil_append] at S2; have S := S2; clear S2
    rw [if_neg (by omega), show min 24 (x.W.length - k0) = 24 by omega]
    rw [hL.out.hdr, splice_all _ _ (by rw [h24.out]; simp)] at S
    go_wp2_with fail
    refine ⟨(S.sel (by repeat (first | exact Sel.nil | (apply Sel.cons; (repeat (first | exact Pull.head | apply Pull.tail)))))).inSt _, ?_⟩; (repeat (fail)); refine wpQuiet_nil ?_
    go_wp2_with ((refine wpList_box S ?_; (clear S; intro hB wH hhB S)))
    refine Calls.mono (hdrRead hB bB e.access e.expire e.key.length e.hash e.value.length e.room e.slot 0 e.gone (En.hdr e) _ _ _ _ _ _ _ _ _ 149 152 _ hE1.out hok5 hok6 (by omega) hok7 (by omega) (by omega) hok8 (by omega) S.sel2) ?_
    rintro ex w5 ⟨rfl, C⟩
    have S2 := S.call C; clear S C; simp only [List.cons_append, List.nil_append] at S2; have S := S2; clear S2
    have S2 : St w [ck, q, x.m, x.h.sb] w5 (.blk hB (.cells (hdrCells e).toArray 152 (0, 0)) :: .blk bB (.cells (u8s (En.hdr e)).toArray 149 (0, 0)) :: .blk rB (.cells hdr0.toArray 152 (0, 0)) :: clk ck now :: x.mem q T TB) := S.sel (by repeat (first | exact Sel.nil | (apply Sel.cons; (repeat (first | exact Pull.head | apply Pull.tail)))))
    clear S; have S := S2; clear S2
    have hmeth := methodNow (.pointer (some ⟨ck, 0, none⟩))
    go_wp2_with ((refine wpList_ld S ?_))
    refine Calls.mono (clockNow ck 99 (.int .u32 now) _ S.sel1) ?_
    rintro ex w6 ⟨rfl, C⟩
    have S2 := S.call C; clear S C; simp only [List.cons_append, List.nil_append] at S2; have S := S2; clear S2
    clear hmeth
    go_wp2_with ((refine wpList_ld S ?_))
    refine Calls.mono (isExpired e.expire now _ hok6 hnow) ?_
    rintro ex w7 ⟨rfl, C⟩
    have S2 := S.same C.chg; clear S C; have S := S2; clear S2
    have hacc : e.access ≤ now := hpast.out e (List.mem_of_getElem? hke.out)
    by_cases hx : Sg.ended e.expire now = true
    · rw [hx]
      replace hx := hidden hx
      go_wp2_with (fail)
      rw [← ho.out]
      refine Calls.mono (delPtr' q T TB s.size s.list x k i e ps _ H.out.geo hke.out hg.out hps.out (by rw [hz.out]; exact hpt.out) hecb S.sel3) ?_
      rintro ex w8 ⟨rfl, x1, D, C⟩
      have S2 := S.call C; clear S C
      simp only [Sm.mem, List.cons_append, List.nil_append] at S2
      have S := S2; clear S2
      have H1 := H.out.del hke.out hg.out D
      obtain ⟨dn, hdn⟩ := D.h
      have hx1 : x1.h.tex = x.h.tex := by rw [hdn]; rfl
      have hx2 : x1.h.miss = x.h.miss := by rw [hdn]; rfl
      have hst := D.stay
      replace H1 := hidden H1
      replace hx1 := hidden hx1
      replace hx2 := hidden hx2
      clear D hdn
      go_wp2_with (fail)
      obtain ⟨wa, hrun, S2⟩ := atAdd S q 13 1
      clear S; have S := S2; clear S2
      rw [hrun]
      rw [hx1.out, hwx.out, ← hx1.out] at S
      go_wp2_with ((refine wpList_ldE S hE.out.1 hE.out.2 ?_))
      obtain ⟨wb, hrun2, S2⟩ := atAdd S q 6 1
      clear S; have S := S2; clear S2
      rw [hrun2]
      rw [hx2.out, hwm.out, ← hx2.out] at S
      go_wp2_with fail
      refine ret_of (results_ctt S) ?_
      refine hR.out _ _ ?_
      exact ⟨_, { x1 with h := { x1.h with tex := x1.h.tex + 1, miss := x1.h.miss + 1 } }, _, rfl, .ended _ k e hf.out hke.out hx.out, H1.out.lost1, hst.trans ⟨rfl, rfl, rfl, rfl⟩, S.sel (by repeat (first | exact Sel.nil | (apply Sel.cons; (repeat (first | exact Pull.head | apply Pull.tail)))))⟩
    · rw [Bool.eq_false_iff.2 hx]
      replace hx := hidden (Bool.eq_false_iff.2 hx)
      have hwt : wrap64 (x.h.tt + ((now : Int) - (e.access : Int))) = x.h.tt + ((now : Int) - (e.access : Int)) := by unfold wrap64; omega
      replace hwt := hidden hwt
      go_upto_region 21 with (fail)
      refine St.regionC S [.blk hB _] 11 [([0, 1, 2, 3, 4, 5, 6, 7, 8, 9], 10)] [] ?_
      clear S; intro wr Cr S Sc; simp only [walkC, pick, List.getElem?_cons_succ, List.getElem?_cons_zero, List.drop_succ_cons, List.drop_zero]; (repeat (first | (go_big_quiet_step (fail)) | (go_big_quiet_want; (refine quiet_ld Sc ?_); go_big_quiet_on))); refine wpQuiet_nil ?_
      refine wpList_atAdd S ?_ Tryd.func89 (by kernel_rfl) (by rfl) (by kernel_rfl) (by kernel_rfl); (clear S; intro ws S)
      refine ⟨(S.sel (by repeat (first | exact Sel.nil | (apply Sel.cons; (repeat (first | exact Pull.head | apply Pull.tail)))))).inSt _, ?_⟩; (repeat (fail)); refine wpQuiet_nil ?_
      rw [hwt.out] at S
      go_wp2_with ((refine wpList_st S ?_; (clear S; intro ws S)))
      refine Calls.mono (hdrWrite hB bB 0 24 24 (En.hdr e) ((now : Nat) : Int) ((e.expire : Nat) : Int) ((e.key.length : Nat) : Int) ((e.hash : Nat) : Int) ((e.value.length : Nat) : Int) ((e.room : Nat) : Int) ((e.slot : Nat) : Int) ((0 : Nat) : Int) e.gone _ 149 152 (by omega) (by rw [h24.out]; omega) (by omega) (by omega) (by omega) (by omega) (by omega) (by omega) (by omega) (by omega) (by omega) (by omega) (by omega) (by omega) (by omega) (by omega) (by omega) (by omega) (by omega) S.sel2) ?_
      rintro ex w8 ⟨rfl, C⟩
      have S2 := S.call C; clear S C; simp only [List.cons_append, List.nil_append] at S2; have S := S2; clear S2
      have h24' := En.hdr_length (accessed now e)
      rw [show hdrBytes ((now : Nat) : Int) ((e.expire : Nat) : Int) ((e.key.length : Nat) : Int) ((e.hash : Nat) : Int) ((e.value.length : Nat) : Int) ((e.room : Nat) : Int) e.gone ((e.slot : Nat) : Int) ((0 : Nat) : Int) = En.hdr (accessed now e) from rfl, splice_all _ _ (by rw [h24.out, h24'])] at S
      replace h24' := hidden h24'
      go_upto_region 24 with (fail)
      refine St.regionC S [.blk x.h.sb _] 9 [([0, 1, 2, 3, 4, 5, 6, 7], 8)] [] ?_
      clear S; intro wr3 Cr S Sc; simp only [walkC, pick, List.getElem?_cons_succ, List.getElem?_cons_zero, List.drop_succ_cons, List.drop_zero]
      (repeat (first | (go_big_quiet_want; (refine quiet_ld Sc ?_ (hi := q0)); go_big_quiet_on) | ((go_big_quiet_step (fail)))))
      refine wpQuiet_nil ?_
      go_wp2_with fail
      refine Calls.mono (ringWriteAt q x.m T x.r x.W x.sl (En.hdr (accessed now e)) k0 24 24 (some ⟨bB, 0, none⟩) _ _ _ (by rw [hL.out.z]; simp) S.sel2 hsnug.out (S.src8w (by repeat (first | exact Pull.head | apply Pull.tail)) h24'.out) (S.offB (r := .blk bB _) (by repeat (first | exact Pull.head | apply Pull.tail)) rfl (by repeat (first | exact PullsF.nil | (apply PullsF.cons; (repeat (first | exact PullF.head rfl | apply PullF.tail)))))) (by omega) (by omega)) ?_
      rintro ex w9 ⟨rfl, C⟩
      have S2 := S.call C; clear S C; simp only [rMem, List.cons_append, List.nil_append] at S2; have S := S2; clear S2
      go_wp2_with fail
      refine ⟨(S.sel (by repeat (first | exact Sel.nil | (apply Sel.cons; (repeat (first | exact Pull.head | apply Pull.tail)))))).inSt _, ?_⟩; (repeat (fail)); refine wpQuiet_nil ?_
      go_upto_region 25 with (fail)
      refine St.regionC S [.blk hB _, .blk x.h.sb _] 10 [([0, 1, 2, 3, 4, 5, 6], 7)] [8, 9] ?_
      clear S; intro wr2 Cr S Sc; simp only [walkC, pick, List.getElem?_cons_succ, List.getElem?_cons_zero, List.drop_succ_cons, List.drop_zero]
      (repeat (first | (go_big_quiet_want; (refine quiet_ld Sc ?_ (hi := q0)); go_big_quiet_on) | (first | (go_big_quiet_step (fail)) | (go_big_quiet_want; (refine quiet_ldA Sc ?_); go_big_quiet_on))))
      refine wpQuiet_nil ?_
      refine wpList_stA S ?_; (clear S; intro ws S; simp only [splice, List.take_zero, List.take_succ_cons, List.drop_succ_cons, List.drop_zero, List.drop_nil, List.length_cons, List.length_nil, Nat.reduceAdd, Nat.zero_add, List.nil_append, List.cons_append, List.append_nil] at S)
      refine ⟨(S.sel (by repeat (first | exact Sel.nil | (apply Sel.cons; (repeat (first | exact Pull.head | apply Pull.tail)))))).inSt _, ?_⟩; (repeat ((go_big_quiet_step (fail)))); refine wpQuiet_nil ?_
      have hHd := (H.out.header (k0 := k0) hke.out (by rw [hz.out]; exact hL.out.z) (accessed now) (fun _ => rfl) (fun _ => rfl) (fun _ => rfl) (fun _ => rfl) (fun _ => rfl) (fun _ => rfl) ⟨hok1, hok2, hok3, hok4, hnow, hok6, hok7, hok8⟩).mono (Nat.le_succ N)
      have hrest := Ri.overs_rest (En.hdr (accessed now e)) x.r k0
      have hpz : pos (Sm.o0 { x with r := x.r.overs k0 (En.hdr (accessed now e)), W := splice x.W k0 (En.hdr (accessed now e)), h := { x.h with tt := x.h.tt + (((accessed now e).access : Int) - (e.access : Int)) } } (s.list.modify k (accessed now))) (s.list.modify k (accessed now)) k = z := by
        rw [← hz.out, pos_modify (accessed now) (fun _ => rfl)]
        unfold Sm.o0
        rw [used_modify (accessed now) (fun _ => rfl), hrest.2.1]
      go_wp2_with (fail)
      refine ret_of (results_ctt S) ?_
      refine hR.out _ _ ?_
      exact ⟨_, _, _, rfl, by rw [← hpz]; exact .there _ k e hf.out hke.out hx.out hg.out, hHd, ⟨rfl, rfl, rfl, rfl⟩, S.sel (by repeat (first | exact Sel.nil | (apply Sel.cons; (repeat (first | exact Pull.head | apply Pull.tail)))))⟩
end Go.Proofs.YtbklhnpnkinadaaDoor
end
section
namespace Go.Vil
open Go Go.RowKit
set_option linter.unusedSimpArgs false
set_option linter.unusedVariables false
section
variable {P : Program} {ops : Array Oper} {Q : Exit → Act → World → Prop} {rest : List Oper} {o : Oper} {a : Act} {w w' : World}
theorem run_copyNil {dT sT ty e : TypeId} {z : Value} {size bytes : Nat} [ht : TSlice P dT e] [he : TElem P e z size bytes] {m : Nat} {sv : Value} {xs : List Value} (hs : Src w size sv m xs) :
    (Builtin.copy_ #[dT, sT] ty #[.slice none 0 0, sv]).run P w = .ok (goInt 0) w := by
  obtain ⟨inf, hi, hz, hsize, hby, hzs⟩ := he.is
  subst hsize
  have hl := hs.lenOf (P := P) (w' := w) rfl
  have hf := hs.first (P := P) (w' := w) (fun _ _ h => h) 0 (Nat.zero_le _)
  simp [Builtin.copy_, run_underlying ht.is, sizeOf, typeInfo, hi, hl, hf]
theorem wpList_copyNil {sv : Value} {m : Nat} {xs : List Value} {size : Nat} (hs : Src w size sv m xs) {x y : Operand} {t tx e : TypeId} {z : Value} {bytes : Nat} {a' : Act}
    (k : wpList P ops Q rest a' w)
    (hw : Region.wanted o (yielded ops a.tmps) = true := by rfl) (ho : o.op = .call { callee := .builtin .copy, args := #[x, y], argTypes := #[t, tx] } := by rfl)
    (ht : TSlice P t e := by infer_instance) (he : TElem P e z size bytes := by infer_instance)
    (hx : slot a x = some (.slice none 0 0) := by rfl) (hy : slot a y = some sv := by rfl)
    (hput : Put a o.dst (goInt 0) a' := by exact put_of (by conv => lhs; simp only [List.set_cons_succ, List.set_cons_zero])) : wpList P ops Q (o :: rest) a w := by
  have hr := run_copyNil (P := P) (w := w) (dT := t) (sT := tx) (ty := o.type) hs
  refine wpList_run hw (w' := w) (v := goInt 0) ?_ (by rw [hput.is]; exact k)
  simp [execOp, ho, resolve, invoke, builtin, eval_slot hx, eval_slot hy, hr]
end
end Go.Vil
namespace Go.Proofs.YtbklhnpnkinadaaDoor
open Go Go.RowKit Go.Vil
set_option linter.unusedSimpArgs false
set_option linter.unusedVariables false
set_option maxRecDepth 100000

set_option maxHeartbeats 1600000 in
theorem ringReadNil (q m : Nat) (T : TypeId) (r : Ri) (W sl : List UInt8) (k : Nat) (post : List Value) (z : Int) (w : World) (hz : z = r.b + k)
    (hM : Mem w [rHead q m T r.b r.e r.data.length (r.data ++ sl).length r.ix post, rBlk m r.data sl]) (h : Snug r W (r.data ++ sl).length) (hk : k ≤ W.length) :
    Calls Tryd.prog 49 #[.pointer (some ⟨q, 0, none⟩), .slice none 0 0, .int .i64 z] w fun e w' =>
      e = .returned (.tuple #[.int .i64 0, .nilIface]) ∧ St w [q, m] w' [rHead q m T r.b r.e r.data.length (r.data ++ sl).length r.ix post, rBlk m r.data sl] := by
  subst hz
  have S : St w [q, m] w [rHead q m T r.b r.e r.data.length (r.data ++ sl).length r.ix post, rBlk m r.data sl] := St.start hM
  clear hM
  have hs := hidden h
  obtain ⟨hh, h2, h3, h4⟩ := h
  have h5 := hh.le
  have h6 := hh.len
  have h7 := hh.fit
  have hat := Ri.at_lt hh k
  have hsz : r.size = r.data.length := rfl
  have hle : r.len = r.e - r.b := rfl
  have hwk : W.length - k = r.e - (r.b + k) := by omega
  have hk2 : r.b + k ≤ r.e := by omega
  have hb1 : decide ((r.e : Int) < (r.b : Int) + (k : Int)) = false := decide_eq_false (by omega)
  rw [hsz] at h7 hat
  have hcl : (r.data ++ sl).length = r.data.length + sl.length := List.length_append
  generalize hC : (r.data ++ sl).length = C at *
  replace hh := hidden hh
  replace hk := hidden hk
  clear hle hsz
  refine Calls.cps ?_; intro R hR
  go_enter Tryd.func49, Tryd.ntmps49
  go_wp2_with ((refine wpList_ld S ?_))
  refine Calls.mono (ringOff q m T r W C k post _ _ rfl S.sel1 hs.out hk.out) ?_
  rintro e w2 ⟨rfl, C1⟩
  have S2 := S.call C1; clear S C1; simp only [List.cons_append, List.nil_append] at S2; have S := S2; clear S2
  generalize r.at' k = at0 at *
  obtain ⟨re, hre⟩ : ∃ re, re = at0 + (W.length - k) := ⟨_, rfl⟩
  by_cases c1 : at0 + (W.length - k) ≤ r.data.length
  · have hsrc : Src w2 1 (.slice (some ⟨m, at0, none⟩) (re - at0) (C - at0)) (re - at0) (u8s (((r.data ++ sl).drop at0).take (re - at0))) := S.src8 (b := m) (o := at0) (m := re - at0) (c := C - at0) (l := r.data ++ sl) (by repeat (first | exact Pull.head | apply Pull.tail)) (by omega)
    replace hsrc := hidden hsrc
    go_wp2_with (first | (refine wpList_slcBH at0 re ?_; rw [cutN_low (by omega), Nat.zero_add]) | (refine wpList_copyNil hsrc.out ?_) | (refine wpList_ld S ?_))
    ((first | go_ret | go_ret2 | go_ret3 | go_end0 | skip); refine hR.out _ _ ?_)
    exact ⟨rfl, S⟩
  · have hsrc : Src w2 1 (.slice (some ⟨m, at0, none⟩) (r.data.length - at0) (C - at0)) (r.data.length - at0) (u8s (((r.data ++ sl).drop at0).take (r.data.length - at0))) := S.src8 (b := m) (o := at0) (m := r.data.length - at0) (c := C - at0) (l := r.data ++ sl) (by repeat (first | exact Pull.head | apply Pull.tail)) (by omega)
    replace hsrc := hidden hsrc
    go_wp2_with (first | (refine wpList_slcB at0 ?_; rw [cutN_low (by omega), Nat.zero_add]) | (refine wpList_copyNil hsrc.out ?_) | (refine wpList_ld S ?_))
    ((first | go_ret | go_ret2 | go_ret3 | go_end0 | skip); refine hR.out _ _ ?_)
    exact ⟨rfl, S⟩
end Go.Proofs.YtbklhnpnkinadaaDoor
end
section
namespace Go.Proofs.YtbklhnpnkinadaaDoor
open Go Go.RowKit Go.Vil Go.ChangeShapes Go.WideShapes Go.ChangeAt
set_option linter.unusedSimpArgs false
set_option linter.unusedVariables false
set_option maxRecDepth 100000

def valOf : Option (Nat × En) → List UInt8
  | none => []
  | some p => p.2.value
def endOf : Option (Nat × En) → Nat
  | none => 0
  | some p => p.2.expire
def errOf (ev : Value) : Option (Nat × En) → Value
  | none => ev
  | some _ => .nilIface
def hitIf (pk : Bool) (s : Sg) : Option (Nat × En) → Sg
  | none => s
  | some _ => if pk then s else { s with hit := s.hit + 1 }
/-- What locating an entry gives. -/
def Located (N : Nat) (s1 : Sg) (x x1 : Sm) (ev : Value) (r : Option (Nat × En)) (ex : Ending) : Prop :=
  Held N s1 x1 ∧ Stay x x1 ∧ match r with
    | none => ex = .returned (.tuple #[.agg hdr0.toArray, .int .i64 0, ev])
    | some p => s1.list[p.1]? = some p.2 ∧ ex = .returned (.tuple #[.agg (hdrCells p.2).toArray, .int .i64 (pos (x1.o0 s1.list) s1.list p.1), .nilIface])

set_option maxHeartbeats 3200000 in
theorem getRest (q ck now : Nat) (T TB : TypeId) (N : Nat) (x : Sm) (pk : Bool) (hash : Nat) (kn kc : Nat) (ka : Option Addr) (ev : Value) (w : World) (Φ : Sg → Option (Nat × En) → Prop) (hev : ∃ t p, ev = .iface t p) (hN : N ≤ 1152921504000000000)
    (hl : Calls Tryd.prog 94 #[.pointer (some ⟨q, 0, none⟩), .slice ka kn kc, .int .u64 hash, .bool pk] w fun ex w2 => ∃ s1 x1 r, Φ s1 r ∧ Located N s1 x x1 ev r ex ∧ St w [ck, q, x.m, x.h.sb] w2 (clk ck now :: x1.mem q T TB)) :
    Calls Tryd.prog 78 #[.pointer (some ⟨q, 0, none⟩), .slice ka kn kc, .slice none 0 0, .int .u64 hash, .bool pk] w fun ex w' => ∃ (s1 : Sg) (x2 : Sm) (r : Option (Nat × En)) (dv : Value), Φ s1 r ∧ Held (N + 1) (hitIf pk s1 r) x2 ∧ Stay x x2 ∧
      ex = .returned (.tuple #[dv, .int .u32 (endOf r : Nat), errOf ev r]) ∧ St w [ck, q, x.m, x.h.sb] w' (.row 5 1 dv (valOf r).length (u8s (valOf r)) :: clk ck now :: x2.mem q T TB) := by
  obtain ⟨et, ep, rfl⟩ := hev
  refine Calls.cps ?_; intro R hR
  go_enter Tryd.func78, Tryd.ntmps78
  go_wp2_with fail
  refine Calls.mono hl ?_
  rintro ex w2 ⟨s1, x1, r, hΦ, ⟨H, hst, hr⟩, S⟩
  replace hΦ := hidden hΦ
  replace hst := hidden hst
  cases r with
  | none =>
    subst hr
    replace H := hidden H
    go_wp2_with (first | (refine wpList_alloc S ?_; (clear S; intro nb wb hnb S)) | (refine wpList_stA S ?_; (clear S; intro ws S; simp only [splice, List.take_zero, List.take_succ_cons, List.drop_succ_cons, List.drop_zero, List.drop_nil, List.length_cons, List.length_nil, Nat.reduceAdd, Nat.zero_add, List.nil_append, List.cons_append, List.append_nil] at S)))
    ((first | go_ret | go_ret2 | go_ret3 | go_end0 | skip); refine hR.out _ _ ?_)
    exact ⟨s1, x1, none, .slice none 0 0, hΦ.out, H.out.mono (Nat.le_succ N), hst.out, rfl, (S.nilRow 5 1).sel (by repeat (first | exact Sel.nil | (apply Sel.cons; (repeat (first | exact Pull.head | apply Pull.tail)))))⟩
  | some p =>
    obtain ⟨i, e⟩ := p
    obtain ⟨hke, rfl⟩ := hr
    dsimp only at hke
    have hok := (H.geo.ent i e hke).ok
    obtain ⟨k0, hL⟩ := H.geo.lay hke
    obtain ⟨z, hz⟩ : ∃ z, pos (x1.o0 s1.list) s1.list i = z := ⟨_, rfl⟩
    dsimp only
    rw [hz]
    rw [hz] at hL
    have hfit := hL.fit
    have hlen : e.len = 24 + e.key.length + e.room := rfl
    obtain ⟨hok1, hok2, hok3, hok4, hok5, hok6, hok7, hok8⟩ := hok
    have hkW : k0 + 24 + e.key.length + e.value.length ≤ x1.W.length := by omega
    have hzb : z ≤ 1152921504606846976 := by have := hL.z; have := H.geo.ends; have := H.geo.snug.e; omega
    have hval := hidden hL.val
    have hlz := hidden hL.z
    have hvB : e.value.length ≤ 1073741824 := by omega
    have hwh : wrap64 (x1.h.hit + 1) = x1.h.hit + 1 := by have := H.nums.hit; have := H.lim; unfold wrap64; omega
    have hsnug := hidden H.geo.snug
    replace hwh := hidden hwh
    replace hlen := hidden hlen
    replace hfit := hidden hfit
    replace hz := hidden hz
    replace H := hidden H
    replace hke := hidden hke
    clear hL
    by_cases hv0 : e.value.length = 0
    · have hvn : e.value = [] := List.eq_nil_of_length_eq_zero hv0
      have hvn2 : (valOf (some (i, e))) = [] := hvn
      go_upto_region 7 with (first | (refine wpList_ld S ?_) | (refine wpList_alloc S ?_; (clear S; intro nb wb hnb S)) | (refine wpList_stA S ?_; (clear S; intro ws S; simp only [splice, List.take_zero, List.take_succ_cons, List.drop_succ_cons, List.drop_zero, List.drop_nil, List.length_cons, List.length_nil, Nat.reduceAdd, Nat.zero_add, List.nil_append, List.cons_append, List.append_nil] at S)))
      refine St.regionC S [.blk nb _] 11 [([0, 1, 2, 3, 4, 5, 6, 7, 8, 9], 10)] [] ?_
      clear S; intro wr Cr S Sc; simp only [walkC, pick, List.getElem?_cons_succ, List.getElem?_cons_zero, List.drop_succ_cons, List.drop_zero]; (repeat (first | (go_big_quiet_step (fail)) | (go_big_quiet_want; (refine quiet_ld Sc ?_); go_big_quiet_on))); refine wpQuiet_nil ?_
      go_wp2_with fail
      refine Calls.mono (ringReadNil q x1.m T x1.r x1.W x1.sl (k0 + 24 + e.key.length) x1.h.post _ _ (by rw [hlz.out]; simp; omega) S.sel2 hsnug.out (by omega)) ?_
      rintro ex w3 ⟨rfl, C⟩
      have S2 := S.call C; clear S C; simp only [List.cons_append, List.nil_append] at S2; have S := S2; clear S2
      go_wp2_with fail
      refine ⟨(S.sel (by repeat (first | exact Sel.nil | (apply Sel.cons; (repeat (first | exact Pull.head | apply Pull.tail)))))).inSt _, ?_⟩; (repeat (fail)); refine wpQuiet_nil ?_
      cases pk with
      | true =>
        go_wp2_with (fail)
        ((first | go_ret | go_ret2 | go_ret3 | go_end0 | skip); refine hR.out _ _ ?_)
        exact ⟨s1, x1, some (i, e), .slice none 0 0, hΦ.out, H.out.mono (Nat.le_succ N), hst.out, rfl, by rw [hvn2]; exact (S.nilRow 5 1).sel (by repeat (first | exact Sel.nil | (apply Sel.cons; (repeat (first | exact Pull.head | apply Pull.tail)))))⟩
      | false =>
        go_wp2_with (fail)
        obtain ⟨wa, hrun, S2⟩ := atAdd S q 7 1
        clear S; have S := S2; clear S2
        rw [hrun]
        rw [hwh.out] at S
        go_wp2_with fail
        ((first | go_ret | go_ret2 | go_ret3 | go_end0 | skip); refine hR.out _ _ ?_)
        exact ⟨s1, { x1 with h := { x1.h with hit := x1.h.hit + 1 } }, some (i, e), .slice none 0 0, hΦ.out, H.out.hit1, hst.out.trans ⟨rfl, rfl, rfl, rfl⟩, rfl, by rw [hvn2]; exact (S.nilRow 5 1).sel (by repeat (first | exact Sel.nil | (apply Sel.cons; (repeat (first | exact Pull.head | apply Pull.tail)))))⟩
    · go_upto_region 7 with (first | (refine wpList_mk8 S ?_; (clear S; intro vB wV hvB2 S)) | (refine wpList_ld S ?_) | (refine wpList_alloc S ?_; (clear S; intro nb wb hnb S)) | (refine wpList_stA S ?_; (clear S; intro ws S; simp only [splice, List.take_zero, List.take_succ_cons, List.drop_succ_cons, List.drop_zero, List.drop_nil, List.length_cons, List.length_nil, Nat.reduceAdd, Nat.zero_add, List.nil_append, List.cons_append, List.append_nil] at S)))
      refine St.regionC S [.blk nb _] 11 [([0, 1, 2, 3, 4, 5, 6, 7, 8, 9], 10)] [] ?_
      clear S; intro wr Cr S Sc; simp only [walkC, pick, List.getElem?_cons_succ, List.getElem?_cons_zero, List.drop_succ_cons, List.drop_zero]; (repeat (first | (go_big_quiet_step (fail)) | (go_big_quiet_want; (refine quiet_ld Sc ?_); go_big_quiet_on))); refine wpQuiet_nil ?_
      go_wp2_with fail
      refine Calls.mono (ringRead q x1.m vB T 5 x1.r x1.W x1.sl (List.replicate e.value.length 0) (k0 + 24 + e.key.length) 0 e.value.length e.value.length x1.h.post _ .nilIface _ (by rw [hlz.out]; simp; omega) S.sel3 hsnug.out (by omega) (by simp) (by omega) (by omega) (by omega)) ?_
      rintro ex w3 ⟨rfl, C⟩
      have S2 := S.call C; clear S C; simp only [List.cons_append, List.nil_append] at S2; have S := S2; clear S2
      rw [if_neg (by omega), show min e.value.length (x1.W.length - (k0 + 24 + e.key.length)) = e.value.length by omega]
      rw [hval.out, splice_all _ _ (by simp)] at S
      go_wp2_with fail
      refine ⟨(S.sel (by repeat (first | exact Sel.nil | (apply Sel.cons; (repeat (first | exact Pull.head | apply Pull.tail)))))).inSt _, ?_⟩; (repeat (fail)); refine wpQuiet_nil ?_
      cases pk with
      | true =>
        go_wp2_with (fail)
        ((first | go_ret | go_ret2 | go_ret3 | go_end0 | skip); refine hR.out _ _ ?_)
        exact ⟨s1, x1, some (i, e), .slice (some ⟨vB, 0, none⟩) e.value.length e.value.length, hΦ.out, H.out.mono (Nat.le_succ N), hst.out, rfl, (S.toRow8 (b := vB) (l := e.value) (n := e.value.length) (by repeat (first | exact Pull.head | apply Pull.tail)) rfl (by unfold maxLen; omega)).sel (by repeat (first | exact Sel.nil | (apply Sel.cons; (repeat (first | exact Pull.head | apply Pull.tail)))))⟩
      | false =>
        go_wp2_with (fail)
        obtain ⟨wa, hrun, S2⟩ := atAdd S q 7 1
        clear S; have S := S2; clear S2
        rw [hrun]
        rw [hwh.out] at S
        go_wp2_with fail
        ((first | go_ret | go_ret2 | go_ret3 | go_end0 | skip); refine hR.out _ _ ?_)
        exact ⟨s1, { x1 with h := { x1.h with hit := x1.h.hit + 1 } }, some (i, e), .slice (some ⟨vB, 0, none⟩) e.value.length e.value.length, hΦ.out, H.out.hit1, hst.out.trans ⟨rfl, rfl, rfl, rfl⟩, rfl, (S.toRow8 (b := vB) (l := e.value) (n := e.value.length) (by repeat (first | exact Pull.head | apply Pull.tail)) rfl (by unfold maxLen; omega)).sel (by repeat (first | exact Sel.nil | (apply Sel.cons; (repeat (first | exact Pull.head | apply Pull.tail)))))⟩
end Go.Proofs.YtbklhnpnkinadaaDoor
end
section
namespace Go.Proofs.YtbklhnpnkinadaaDoor
open Go Go.RowKit Go.Vil
set_option linter.unusedSimpArgs false
set_option linter.unusedVariables false

/-- What was got (pk: only looked at). -/
def Got (s : Sg) (pk : Bool) (t h now : Nat) (key : List UInt8) (s1 : Sg) (r : Option (Nat × En)) : Prop :=
  (s.find t h key = none ∧ r = none ∧ s1 = if pk then s else { s with missed := s.missed + 1 }) ∨
  (pk = false ∧ ∃ (i : Nat) (e : En), s.find t h key = some i ∧ s.list[i]? = some e ∧ Sg.ended e.expire now = true ∧ r = none ∧ s1 = { s.at' i gone' with expired := s.expired + 1, missed := s.missed + 1 }) ∨
  (∃ (i : Nat) (e : En), s.find t h key = some i ∧ s.list[i]? = some e ∧ (pk = false → Sg.ended e.expire now = false) ∧ r = some (i, if pk then e else accessed now e) ∧ s1 = if pk then s else s.at' i (accessed now))

theorem locatedGet (q ck now : Nat) (T TB : TypeId) (N : Nat) (s : Sg) (x : Sm) (hash : Nat) (key : List UInt8) (kn kc : Nat) (ka : Option Addr) (ev : Value) (w : World) (H : Held N s x) (hM : Mem w (clk ck now :: x.mem q T TB)) (hnow : now < 4294967296) (htm : x.h.timer = .iface 97 (.pointer (some ⟨ck, 0, none⟩))) (hpast : ∀ e ∈ s.list, e.access ≤ now) (hN : N ≤ 1152921504000000000) (hh : hash < 18446744073709551616)
    (hk : Src w 1 (.slice ka kn kc) kn (u8s key)) (hd : Off ka [ck, q, x.m, x.h.sb] (u8s key)) (hkc : kn ≤ kc) (hkm : kn ≤ 65535) (hE : GErr w [ck, q, x.m, x.h.sb] 4 ev) :
    Calls Tryd.prog 94 #[.pointer (some ⟨q, 0, none⟩), .slice ka kn kc, .int .u64 hash, .bool false] w fun ex w2 => ∃ s1 x1 r, Got s false (hash / 256 % 256) (hash / 65536 % 65536) now key s1 r ∧ Located (N + 1) s1 x x1 ev r ex ∧ St w [ck, q, x.m, x.h.sb] w2 (clk ck now :: x1.mem q T TB) := by
  refine Calls.mono (locGet q ck now T TB N s x hash key kn kc ka ev w H hM hnow htm hpast hN hh hk hd hkc hkm hE) ?_
  rintro ex w2 ⟨s1, x1, v, rfl, hl, H1, hst, S⟩
  cases hl with
  | none _ hf => exact ⟨_, x1, none, .inl ⟨hf, rfl, rfl⟩, ⟨H1, hst, rfl⟩, S⟩
  | ended _ i e hf hi he => exact ⟨_, x1, none, .inr (.inl ⟨rfl, i, e, hf, hi, he, rfl, rfl⟩), ⟨H1, hst, rfl⟩, S⟩
  | there _ i e hf hi he hg =>
    refine ⟨_, x1, some (i, accessed now e), .inr (.inr ⟨i, e, hf, hi, fun _ => he, rfl, rfl⟩), ⟨H1, hst, ?_, rfl⟩, S⟩
    show (s.list.modify i (accessed now))[i]? = _
    rw [get_modify, if_pos rfl, hi]; rfl
theorem locatedPeek (q ck now : Nat) (T TB : TypeId) (N : Nat) (s : Sg) (x : Sm) (hash : Nat) (key : List UInt8) (kn kc : Nat) (ka : Option Addr) (ev : Value) (w : World) (H : Held N s x) (hM : Mem w (clk ck now :: x.mem q T TB)) (hh : hash < 18446744073709551616)
    (hk : Src w 1 (.slice ka kn kc) kn (u8s key)) (hd : Off ka [ck, q, x.m, x.h.sb] (u8s key)) (hkc : kn ≤ kc) (hkm : kn ≤ 65535) (hE : GErr w [ck, q, x.m, x.h.sb] 4 ev) :
    Calls Tryd.prog 94 #[.pointer (some ⟨q, 0, none⟩), .slice ka kn kc, .int .u64 hash, .bool true] w fun ex w2 => ∃ s1 x1 r, Got s true (hash / 256 % 256) (hash / 65536 % 65536) now key s1 r ∧ Located (N + 1) s1 x x1 ev r ex ∧ St w [ck, q, x.m, x.h.sb] w2 (clk ck now :: x1.mem q T TB) := by
  have S : St w [ck, q, x.m, x.h.sb] w (clk ck now :: x.mem q T TB) := St.start hM
  refine Calls.mono (locPeek q T TB N s x hash key kn kc ka ev w H S.sel3 hh hk (hd.mono (by simp)) hkc hkm ⟨hE.1, fun h => hE.2 (by simp at h ⊢; exact .inr h)⟩) ?_
  rintro ex w2 ⟨hl, C⟩
  have S2 := S.call C
  simp only [Sm.mem, List.cons_append, List.nil_append] at S2
  rcases hl with ⟨hf, rfl⟩ | ⟨i, e, hf, hi, hg, hk', rfl⟩
  · exact ⟨s, x, none, .inl ⟨hf, rfl, rfl⟩, ⟨H.mono (Nat.le_succ N), Stay.refl x, rfl⟩, S2.sel (by repeat (first | exact Sel.nil | (apply Sel.cons; (repeat (first | exact Pull.head | apply Pull.tail)))))⟩
  · exact ⟨s, x, some (i, e), .inr (.inr ⟨i, e, hf, hi, fun h => (by cases h), rfl, rfl⟩), ⟨H.mono (Nat.le_succ N), Stay.refl x, hi, rfl⟩, S2.sel (by repeat (first | exact Sel.nil | (apply Sel.cons; (repeat (first | exact Pull.head | apply Pull.tail)))))⟩
/-- What an operation that gets answers. -/
theorem step_got {s s1 : Sg} {r : Option (Nat × En)} {op : FOp} (hk : op.kind = 1 ∨ op.kind = 2 ∨ op.kind = 8) (h : Got s false (op.hash / 256 % 256) (op.hash / 65536 % 65536) op.now op.key s1 r) :
    s.step op = (hitIf false s1 r, ⟨if r.isSome then 0 else 1, valOf r, if op.kind = 2 then endOf r else 0, false, []⟩) := by
  have h0 : op.kind ≠ 0 := by rcases hk with h | h | h <;> omega
  unfold Sg.step
  rcases h with ⟨hf, rfl, rfl⟩ | ⟨_, i, e, hf, hi, he, rfl, rfl⟩ | ⟨i, e, hf, hi, he, rfl, rfl⟩
  · simp only [hf]
    rw [if_neg h0, if_pos hk]
    simp [hitIf, valOf, endOf, Sg.none']
  · have hgetD : s.list.getD i ⟨0, 0, [], [], 0, 0, 0, true⟩ = e := by rw [List.getD_eq_getElem?_getD, hi]; rfl
    simp only [hf, hgetD]
    rw [if_neg h0, if_pos hk, if_pos he, show (if op.kind = 2 then endOf (none : Option (Nat × En)) else 0) = 0 by simp [endOf]]
    rfl
  · have hgetD : s.list.getD i ⟨0, 0, [], [], 0, 0, 0, true⟩ = e := by rw [List.getD_eq_getElem?_getD, hi]; rfl
    simp only [hf, hgetD]
    rw [if_neg h0, if_pos hk, if_neg (by rw [he rfl]; decide)]
    rfl
theorem step_looked {s s1 : Sg} {r : Option (Nat × En)} {op : FOp} (hk : op.kind = 3 ∨ op.kind = 4 ∨ op.kind = 9) (h : Got s true (op.hash / 256 % 256) (op.hash / 65536 % 65536) op.now op.key s1 r) :
    s.step op = (hitIf true s1 r, ⟨if r.isSome then 0 else 1, valOf r, if op.kind = 4 then endOf r else 0, false, []⟩) := by
  have h0 : op.kind ≠ 0 := by rcases hk with h | h | h <;> omega
  have h1 : ¬ (op.kind = 1 ∨ op.kind = 2 ∨ op.kind = 8) := by rcases hk with h | h | h <;> omega
  unfold Sg.step
  rcases h with ⟨hf, rfl, rfl⟩ | ⟨hc, _⟩ | ⟨i, e, hf, hi, he, rfl, rfl⟩
  · simp only [hf]
    rw [if_neg h0, if_neg h1, if_pos hk]
    simp [hitIf, valOf, endOf, Sg.none']
  · cases hc
  · have hgetD : s1.list.getD i ⟨0, 0, [], [], 0, 0, 0, true⟩ = e := by rw [List.getD_eq_getElem?_getD, hi]; rfl
    simp only [hf, hgetD]
    rw [if_neg h0, if_neg h1, if_pos hk]
    rfl
end Go.Proofs.YtbklhnpnkinadaaDoor
end
section
namespace Go.Proofs.YtbklhnpnkinadaaDoor
open Go Go.RowKit Go.Vil
set_option linter.unusedSimpArgs false
set_option linter.unusedVariables false
theorem zzSet (a0 a1 a2 a3 a4 : Value) (w : World) (Q : Value → World → Prop) (h : Calls Tryd.prog 77 #[a0, a1, a2, a3, a4] w fun e w' => ∃ v, e = .returned v ∧ Q v w') :
    Calls Tryd.prog 65 #[a0, a1, a2, a3, a4] w fun e w' => ∃ v, e = .returned v ∧ Q v w' := by
  refine Calls.cps ?_; intro R hR
  go_enter Tryd.func65, Tryd.ntmps65
  go_wp2_with fail
  refine Calls.mono h ?_
  rintro e w2 ⟨v, rfl, hq⟩
  go_wp2_with fail
  ((first | go_ret | go_ret2 | go_ret3 | go_end0 | skip); refine hR.out _ _ ?_)
  exact ⟨v, rfl, hq⟩
theorem zzTouch (a0 a1 a2 a3 : Value) (w : World) (Q : Value → World → Prop) (h : Calls Tryd.prog 79 #[a0, a1, a2, a3] w fun e w' => ∃ v, e = .returned v ∧ Q v w') :
    Calls Tryd.prog 67 #[a0, a1, a2, a3] w fun e w' => ∃ v, e = .returned v ∧ Q v w' := by
  refine Calls.cps ?_; intro R hR
  go_enter Tryd.func67, Tryd.ntmps67
  go_wp2_with fail
  refine Calls.mono h ?_
  rintro e w2 ⟨v, rfl, hq⟩
  go_wp2_with fail
  ((first | go_ret | go_ret2 | go_ret3 | go_end0 | skip); refine hR.out _ _ ?_)
  exact ⟨v, rfl, hq⟩
theorem zzDel (a0 a1 a2 : Value) (w : World) (Q : Value → World → Prop) (h : Calls Tryd.prog 81 #[a0, a1, a2] w fun e w' => ∃ v, e = .returned v ∧ Q v w') :
    Calls Tryd.prog 69 #[a0, a1, a2] w fun e w' => ∃ v, e = .returned v ∧ Q v w' := by
  refine Calls.cps ?_; intro R hR
  go_enter Tryd.func69, Tryd.ntmps69
  go_wp2_with fail
  refine Calls.mono h ?_
  rintro e w2 ⟨v, rfl, hq⟩
  go_wp2_with fail
  ((first | go_ret | go_ret2 | go_ret3 | go_end0 | skip); refine hR.out _ _ ?_)
  exact ⟨v, rfl, hq⟩
theorem zzView (a0 a1 a2 a3 a4 : Value) (w : World) (Q : Value → World → Prop) (h : Calls Tryd.prog 82 #[a0, a1, a2, a3, a4] w fun e w' => ∃ v, e = .returned v ∧ Q v w') :
    Calls Tryd.prog 70 #[a0, a1, a2, a3, a4] w fun e w' => ∃ v, e = .returned v ∧ Q v w' := by
  refine Calls.cps ?_; intro R hR
  go_enter Tryd.func70, Tryd.ntmps70
  go_wp2_with fail
  refine Calls.mono h ?_
  rintro e w2 ⟨v, rfl, hq⟩
  go_wp2_with fail
  ((first | go_ret | go_ret2 | go_ret3 | go_end0 | skip); refine hR.out _ _ ?_)
  exact ⟨v, rfl, hq⟩
theorem zzTtl (a0 a1 a2 : Value) (w : World) (Q : Value → Value → World → Prop) (h : Calls Tryd.prog 80 #[a0, a1, a2] w fun e w' => ∃ u v, e = .returned (.tuple #[u, v]) ∧ Q u v w') :
    Calls Tryd.prog 68 #[a0, a1, a2] w fun e w' => ∃ u v, e = .returned (.tuple #[u, v]) ∧ Q u v w' := by
  refine Calls.cps ?_; intro R hR
  go_enter Tryd.func68, Tryd.ntmps68
  go_wp2_with fail
  refine Calls.mono h ?_
  rintro e w2 ⟨u, v, rfl, hq⟩
  go_wp2_with fail
  ((first | go_ret | go_ret2 | go_ret3 | go_end0 | skip); refine hR.out _ _ ?_)
  exact ⟨u, v, rfl, hq⟩
theorem zzGet (a0 a1 a2 a3 : Value) (w : World) (Q : Value → Value → Value → World → Prop) (h : Calls Tryd.prog 78 #[a0, a1, .slice none 0 0, a2, a3] w fun e w' => ∃ u v y, e = .returned (.tuple #[u, v, y]) ∧ Q u v y w') :
    Calls Tryd.prog 66 #[a0, a1, a2, a3] w fun e w' => ∃ u v y, e = .returned (.tuple #[u, v, y]) ∧ Q u v y w' := by
  refine Calls.cps ?_; intro R hR
  go_enter Tryd.func66, Tryd.ntmps66
  go_wp2_with fail
  refine Calls.mono h ?_
  rintro e w2 ⟨u, v, y, rfl, hq⟩
  go_wp2_with fail
  ((first | go_ret | go_ret2 | go_ret3 | go_end0 | skip); refine hR.out _ _ ?_)
  exact ⟨u, v, y, rfl, hq⟩
theorem zzClear (a0 : Value) (w : World) (Q : World → Prop) (h : Calls Tryd.prog 83 #[a0] w fun e w' => e = .returned (.tuple #[]) ∧ Q w') :
    Calls Tryd.prog 72 #[a0] w fun e w' => e = .returned (.tuple #[]) ∧ Q w' := by
  refine Calls.cps ?_; intro R hR
  go_enter Tryd.func72, Tryd.ntmps72
  go_wp2_with fail
  refine Calls.mono h ?_
  rintro e w2 ⟨rfl, hq⟩
  go_wp2_with fail
  ((first | go_ret | go_ret2 | go_ret3 | go_end0 | skip); refine hR.out _ _ ?_)
  exact ⟨rfl, hq⟩
theorem zzReset (a0 : Value) (w : World) (Q : World → Prop) (h : Calls Tryd.prog 84 #[a0] w fun e w' => e = .returned (.tuple #[]) ∧ Q w') :
    Calls Tryd.prog 73 #[a0] w fun e w' => e = .returned (.tuple #[]) ∧ Q w' := by
  refine Calls.cps ?_; intro R hR
  go_enter Tryd.func73, Tryd.ntmps73
  go_wp2_with fail
  refine Calls.mono h ?_
  rintro e w2 ⟨rfl, hq⟩
  go_wp2_with fail
  ((first | go_ret | go_ret2 | go_ret3 | go_end0 | skip); refine hR.out _ _ ?_)
  exact ⟨rfl, hq⟩
end Go.Proofs.YtbklhnpnkinadaaDoor
end
section
namespace Go.Proofs.YtbklhnpnkinadaaDoor
open Go Go.RowKit Go.Vil
set_option linter.unusedSimpArgs false
set_option linter.unusedVariables false
set_option maxRecDepth 100000

set_option maxHeartbeats 1600000 in
theorem ringSlice (q m : Nat) (T : TypeId) (r : Ri) (W sl : List UInt8) (k n : Nat) (post : List Value) (z : Int) (w : World) (hz : z = r.b + k)
    (hM : Mem w (rMem q m T r sl post)) (h : Snug r W (r.data ++ sl).length) (hk : k + n ≤ W.length) :
    Calls Tryd.prog 51 #[.pointer (some ⟨q, 0, none⟩), .int .i64 z, .int .i64 n] w fun e w' =>
      ∃ (ad : Addr) (c : Nat), e = .returned (.tuple #[.slice (some ad) n c, .nilIface]) ∧ n ≤ c ∧ Src w' 1 (.slice (some ad) n c) n (u8s ((W.drop k).take n)) ∧ (ad.block = m ∨ w.heap.size ≤ ad.block) ∧ St w [q, m] w' (rMem q m T r sl post) := by
  subst hz
  have S : St w [q, m] w [rHead q m T r.b r.e r.data.length (r.data ++ sl).length r.ix post, rBlk m r.data sl] := St.start hM
  clear hM
  have hsn := hidden h
  obtain ⟨hh, h2, h3, h4⟩ := h
  have h5 := hh.le
  have h6 := hh.len
  have h7 := hh.fit
  have h8 := hh.ix
  have hat := Ri.at_lt hh k
  have hsz : r.size = r.data.length := rfl
  have hle : r.len = r.e - r.b := rfl
  have hk2 : r.b + k + n ≤ r.e := by omega
  have hb1 : decide ((r.e : Int) < (r.b : Int) + (k : Int)) = false := decide_eq_false (by omega)
  have hpin := @Ri.piece_in r W hh sl k n hk
  have htwo := @Ri.piece_two r W hh k n hk
  rw [hsz] at h7 h8 hat hpin htwo
  generalize hP : (W.drop k).take n = p at *
  have hpl : p.length = n := by rw [← hP, List.length_take, List.length_drop]; omega
  have hn3 : n ≤ r.data.length := by omega
  have hcl : (r.data ++ sl).length = r.data.length + sl.length := List.length_append
  unfold rMem
  generalize hC : (r.data ++ sl).length = C at *
  replace hpin := hidden hpin
  replace htwo := hidden htwo
  replace hpl := hidden hpl
  replace hP := hidden hP
  replace hcl := hidden hcl
  replace hh := hidden hh
  replace hk := hidden hk
  clear hle hsz h6
  refine Calls.cps ?_; intro R hR
  go_enter Tryd.func51, Tryd.ntmps51
  go_wp2_with ((refine wpList_ld S ?_))
  refine Calls.mono (ringOff q m T r W C k post _ _ rfl S.sel1 hsn.out (by have := hk.out; omega)) ?_
  rintro e w2 ⟨rfl, C1⟩
  have S2 := S.call C1; clear S C1; simp only [List.cons_append, List.nil_append] at S2; have S := S2; clear S2
  generalize r.at' k = at0 at *
  by_cases c1 : at0 + n ≤ r.data.length
  · go_wp2_with (first | (refine wpList_slcLHM at0 (at0 + n) (at0 + n) ?_) | (refine wpList_ld S ?_))
    ((first | go_ret | go_ret2 | go_ret3 | go_end0 | skip); refine hR.out _ _ ?_)
    refine ⟨cutAt ⟨m, 0, none⟩ at0 (at0 + n) 1, at0 + n - at0, ?_, by omega, ?_, .inl (by unfold cutAt; split <;> first | rfl | exact block_add _ _), S⟩
    · rw [Nat.add_sub_cancel_left]; rfl
    · have h1 := St.srcIn (b := m) (o := 0) (n := at0 + n) (c := at0 + n) S (by repeat (first | exact Pull.head | apply Pull.tail)) (by rw [List.length_append]; omega) rfl
      have h2 := h1.cut at0 n (at0 + n - at0) (by omega) (Nat.le_refl _)
      rw [List.drop_zero, List.drop_take, Nat.add_sub_cancel_left, List.take_take, Nat.min_self, hpin.out c1] at h2
      rw [Nat.add_sub_cancel_left]
      exact h2
  · go_upto_region 8 with (first | (refine wpList_mk8 (ln := n) (cn := n) S ?_; (clear S; intro nb wb hnb S)) | (refine wpList_ld S ?_))
    have hX : (r.data.drop at0).length = r.data.length - at0 := List.length_drop
    have hY : (r.data.take (at0 + n - r.data.length)).length = at0 + n - r.data.length := by rw [List.length_take]; omega
    have hXY := htwo.out (by omega)
    have hsrc : Src wb 1 (.slice (some ⟨m, at0, none⟩) (r.data.length - at0) (C - at0)) (r.data.length - at0) (u8s (r.data.drop at0)) := by
      refine St.srcIn (b := m) (o := at0) (n := r.data.length - at0) (l := r.data ++ sl) S (by repeat (first | exact Pull.head | apply Pull.tail)) ?_ ?_
      · rw [List.length_append]; omega
      · rw [List.drop_append_of_le_length (by omega), List.take_append_of_le_length (Nat.le_of_eq List.length_drop.symm), List.take_of_length_le (Nat.le_of_eq List.length_drop)]
    obtain ⟨n1, hn1⟩ : ∃ n1, n1 = r.data.length - at0 := ⟨_, rfl⟩
    rw [← hn1] at hsrc hX
    obtain ⟨X, hXe⟩ : ∃ X, X = r.data.drop at0 := ⟨_, rfl⟩
    obtain ⟨Y, hYe⟩ : ∃ Y, Y = r.data.take (at0 + n - r.data.length) := ⟨_, rfl⟩
    rw [← hXe] at hX hXY hsrc
    rw [← hYe] at hY hXY
    replace hsrc := hidden hsrc
    replace hX := hidden hX
    replace hY := hidden hY
    replace hXe := hidden hXe
    replace hYe := hidden hYe
    replace hXY := hidden hXY
    go_upto_region 10 with (first | (refine wpList_slcB at0 ?_; rw [cutN_low (by omega), Nat.zero_add, ← hn1]) | (refine wpList_copyM S hsrc.out n1 ?_ (hfit := by rw [List.length_replicate]; omega); (clear S; intro ws S)) | (refine wpList_ld S ?_))
    refine St.regionC S [rHead q m T r.b r.e r.data.length C r.ix post, rBlk m r.data sl] 19 [([0, 1, 2, 3, 4, 5, 6, 7, 8, 9, 10, 11, 12, 13, 14, 15], 16)] [17, 18] ?_
    clear S; intro wr Cr S Sc; simp only [walkC, pick, List.getElem?_cons_succ, List.getElem?_cons_zero, List.drop_succ_cons, List.drop_zero]
    (repeat (first | (go_big_quiet_want; (first | (refine quiet_slcB n1 ?_; rw [cutN_low (by omega), Nat.zero_add]) | (refine quiet_slcH (at0 + n - r.data.length) ?_)); go_big_quiet_on) | (first | (go_big_quiet_step (fail)) | (go_big_quiet_want; (refine quiet_ld Sc ?_); go_big_quiet_on))))
    refine wpQuiet_nil ?_
    have hsrc2 : Src wr 1 (.slice (some ⟨m, 0, none⟩) (at0 + n - r.data.length) C) (at0 + n - r.data.length) (u8s Y) := by
      refine St.srcIn (b := m) (o := 0) (n := at0 + n - r.data.length) (l := r.data ++ sl) S (by repeat (first | exact Pull.head | apply Pull.tail)) ?_ ?_
      · rw [List.length_append]; omega
      · rw [List.drop_zero, List.take_append_of_le_length (by omega)]; exact hYe.out.symm
    rw [List.take_of_length_le (Nat.le_of_eq hX.out)] at S
    have hZ : (splice (List.replicate n 0) 0 X).length = n := by rw [splice_length _ _ _ (by rw [List.length_replicate]; have := hX.out; omega), List.length_replicate]
    have hres : splice (splice (List.replicate n 0) 0 X) n1 Y = p := by
      have h1 := splice_splice (List.replicate n 0) 0 X Y (by rw [List.length_replicate]; have := hX.out; have := hY.out; omega)
      rw [Nat.zero_add, hX.out] at h1
      rw [h1, ← hXY.out, splice_all _ _ (by rw [List.length_replicate]; exact hpl.out)]
    replace hres := hidden hres
    generalize splice (List.replicate n 0) 0 X = Z at *
    refine wpList_copyM S hsrc2 (at0 + n - r.data.length) ?_ (hfit := by omega)
    clear S hsrc2; intro ws2 S
    refine ⟨(S.sel (by repeat (first | exact Sel.nil | (apply Sel.cons; (repeat (first | exact Pull.head | apply Pull.tail)))))).inSt _, ?_⟩; (repeat ((go_big_quiet_step (fail)))); refine wpQuiet_nil ?_
    rw [List.take_of_length_le (Nat.le_of_eq hY.out), hres.out] at S
    go_wp2_with (fail)
    ((first | go_ret | go_ret2 | go_ret3 | go_end0 | skip); refine hR.out _ _ ?_)
    exact ⟨⟨nb, 0, none⟩, n, rfl, Nat.le_refl _, S.src8w (by repeat (first | exact Pull.head | apply Pull.tail)) hpl.out, .inr hnb, S.sel (by repeat (first | exact Sel.nil | (apply Sel.cons; (repeat (first | exact Pull.head | apply Pull.tail)))))⟩
end Go.Proofs.YtbklhnpnkinadaaDoor
end
section
namespace Go.Proofs.YtbklhnpnkinadaaDoor
open Go Go.RowKit Go.Vil Go.ChangeShapes Go.WideShapes Go.ChangeAt
set_option linter.unusedSimpArgs false
set_option linter.unusedVariables false
set_option maxRecDepth 100000

abbrev ansBlk (ab : Nat) (f : Int) (v : Value) (n : Int) (is rp : Bool) (nums all : Value) : Res := .blk ab (.cells [.int .i64 f, v, .int .u32 n, .bool is, .bool rp, nums, all].toArray 73 (0, 0))

set_option maxHeartbeats 1600000 in
theorem see (ab n c : Nat) (ad : Addr) (vs : List UInt8) (f m : Int) (is rp : Bool) (nums all : Value) (w : World) (hM : Mem w [ansBlk ab f (.slice none 0 0) m is rp nums all]) (hs : Src w 1 (.slice (some ad) n c) n (u8s vs)) (hn : n ≤ 1073741824) :
    Calls Tryd.prog 64 #[.slice (some ad) n c, .pointer (some ⟨ab, 0, none⟩)] w fun e w' => ∃ dv, e = .returned .nilIface ∧ St w [ab] w' [.row 5 1 dv n (u8s vs), ansBlk ab f dv m is rp nums all] := by
  have S : St w [ab] w [ansBlk ab f (.slice none 0 0) m is rp nums all] := St.start hM
  clear hM
  replace hs := hidden hs
  refine Calls.cps ?_; intro R hR
  go_enter Tryd.func64, Tryd.ntmps64
  go_wp2_with (first | (refine wpList_appN S hs.out ?_ (h63 := by unfold maxLen; omega) (hb := by omega); (clear S; intro va wa hva S; obtain ⟨va1, va2, rfl, va3, va4⟩ := S.rowSlice)) | (refine wpList_ld S ?_) | (refine wpList_st S ?_; (clear S; intro ws S)))
  ((first | go_ret | go_ret2 | go_ret3 | go_end0 | skip); refine hR.out _ _ ?_)
  exact ⟨_, rfl, S.sel (by repeat (first | exact Sel.nil | (apply Sel.cons; (repeat (first | exact Pull.head | apply Pull.tail)))))⟩
end Go.Proofs.YtbklhnpnkinadaaDoor
end
