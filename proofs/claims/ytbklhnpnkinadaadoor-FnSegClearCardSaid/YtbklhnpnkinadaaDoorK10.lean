/- An operation of a segment: it is set. · Operations and answers of a segment as they lie in memory; the bounds of the thin package. · A new segment. · A script of operations of a segment. · What stays so while a segment's script is done. · A script of operations of a segment: its run. · A number of 64 bits modulo another. · A segment in plain Lean: what a clearing leaves, what a later clock turns, what a look turns not. · The scripts of the laws of a segment: plain. · Regions that draw their order, in which what was read is turned later: up to the first operation that turns it, all that reads it is done. · What came in, as the calculus of memory has it. · What came in: slices of structs, as the calculus of memory has them. · Lists of bytes that came in. · Rows are read. · Scripts that came in: bounds, and what is done of them. · Scripts of a segment with a later clock: plain. · The script of a law of a segment. · Answers of a segment are compared. -/
import Derived.Test.YtbklhnpnkinadaaDoorK1
import Derived.Test.YtbklhnpnkinadaaDoorK2
import Derived.Test.YtbklhnpnkinadaaDoorK4
import Derived.Test.YtbklhnpnkinadaaDoorK5
import Derived.Test.YtbklhnpnkinadaaDoorK6
import Derived.Test.YtbklhnpnkinadaaDoorK9
import Derived.Laws.Bits64
import Derived.OpenShut
import Derived.ProofKit
import Derived.Deep.Slices
import Derived.Deep.Strs
import Derived.Deep.DeepCutAuto
section
namespace Go.Proofs.YtbklhnpnkinadaaDoor
open Go Go.RowKit Go.Vil
set_option linter.unusedSimpArgs false
set_option linter.unusedVariables false
set_option maxRecDepth 100000

set_option maxHeartbeats 6400000 in
theorem sDo0 (q ck now N : Nat) (s : Sg) (x : Sm) (key value : List UInt8) (kn kc vn vc : Nat) (ka va : Option Addr) (keys : Value) (ex num : Int) (hash : Nat) (own is : Bool) (e1 e2 : Value) (w : World) (A : SArg q ck now N s x key value kn kc vn vc ka va ex hash e1 e2 w) :
    Calls Tryd.prog 44 #[.pointer (some ⟨q, 0, none⟩), .agg (fopCells 0 (.slice ka kn kc) (.slice va vn vc) ex now hash own is num keys)] w (SDoEnd q ck x.m x.h.sb now N x w (s.step ⟨0, key, value, ex, now, hashOf own hash key⟩)) := by
  have S : St w [ck, q, x.m, x.h.sb] w (clk ck now :: x.mem q 105 155) := St.start A.mem
  obtain ⟨h0, hh0⟩ : ∃ h0, hashOf own hash key = h0 := ⟨_, rfl⟩
  have hb0 : h0 < 18446744073709551616 := by rw [← hh0]; exact hashOf_lt own hash key A.cH
  rw [hh0]
  have hhv := hidden hh0
  have hkc := A.cK
  have hkm := A.mK
  have hmf : ∀ (fn : Fn) (first cap : Array Value) (w : World), (Instr.makeFunc fn first cap).run Tryd.prog w = .ok (.func fn first cap) w := fun _ _ _ _ => rfl
  replace A := hidden A
  replace hb0 := hidden hb0
  clear hh0
  refine Calls.cps ?_; intro R hR
  go_enter_defers Tryd.func44, Tryd.ntmps44
  go_upto_if 17 with (first | (refine wpList_box S ?_; (clear S; intro oB wO hoB S)) | (refine wpList_alloc S ?_; (clear S; intro aB wA haB S)) | (refine wpList_ld S ?_))
  go_cut [5] from 18 to 20 (fun hv w' => hv = .int .u64 h0 ∧ St w [ck, q, x.m, x.h.sb] w' (ansBlk aB 0 (.slice none 0 0) 0 false false (.slice none 0 0) (.slice none 0 0) :: .blk oB (.cells (fopCells 0 (.slice ka kn kc) (.slice va vn vc) ex now hash own is num keys) 66 (0, 0)) :: clk ck now :: x.mem q 105 155))
  case first =>
    cases own with
    | false =>
      go_wp2_with (fail)
      go_meet
      exact ⟨by rw [hashOf_told hash h0 key hhv.out], S.sel (by repeat (first | exact Sel.nil | (apply Sel.cons; (repeat (first | exact Pull.head | apply Pull.tail)))))⟩
    | true =>
      go_wp2_with ((refine wpList_ld S ?_))
      refine Calls.mono (zzHash _ kn key _ (A.out.kS.over S.chg A.out.koff) ⟨ka, kc, rfl, by unfold maxLen; omega, hkc⟩ (A.out.pr.call S (bs' := [])).1 (by omega)) ?_
      rintro e w2 ⟨rfl, C⟩
      have S2 := S.call C; clear S C; simp only [List.cons_append, List.nil_append] at S2; have S := S2; clear S2
      go_wp2_with (fail)
      go_meet
      exact ⟨by rw [hashOf_own hash h0 key hhv.out], S.sel (by repeat (first | exact Sel.nil | (apply Sel.cons; (repeat (first | exact Pull.head | apply Pull.tail)))))⟩
  case rest =>
  obtain ⟨rfl, S⟩ := hcut
  go_wp2_with ((refine wpList_ld S ?_))
  refine Calls.mono (zzSet _ _ _ _ _ _ (fun v w2 => ∃ (x' : Sm), v = (if (s.set key value h0 ex now).2 then .nilIface else e2) ∧ Held (N + 134217728) (s.set key value h0 ex now).1 x' ∧ x'.m = x.m ∧ x'.h.timer = x.h.timer ∧
      St wc [ck, q, x.m, x.h.sb] w2 (clk ck now :: x'.mem q 105 155)) ((segSet q ck now _ N s x h0 key value kn kc vn vc ka va ex e2 _ A.out.H (S.sel (by repeat (first | exact Sel.nil | (apply Sel.cons; (repeat (first | exact Pull.head | apply Pull.tail)))))).mem hb0.out (A.out.kS.over S.chg A.out.koff) (S.offG A.out.kS A.out.koff) hkc hkm (A.out.vS.over S.chg A.out.voff) (S.offG A.out.vS A.out.voff) A.out.cV A.out.mV A.out.cNow A.out.cEx A.out.timer A.out.past A.out.cN (A.out.le.call S)).mono ?_)) ?_
  · rintro e w2 ⟨x', h1, h2⟩
    exact ⟨_, h1, x', rfl, h2⟩
  rintro e w2 ⟨v, rfl, x', hv, H1, hm1, ht1, C⟩
  have S2 := S.call C; clear S C
  simp only [Sm.mem, List.cons_append, List.nil_append] at S2
  have S := S2; clear S2
  replace H1 := hidden H1
  have hst : s.step ⟨0, key, value, ex, now, h0⟩ = ((s.set key value h0 ex now).1, if (s.set key value h0 ex now).2 then Sg.ok else Sg.none') := rfl
  have hi2 := A.out.i2
  generalize s.set key value h0 ex now = st at *
  obtain ⟨s1, ok⟩ := st
  simp only at *
  replace hst := hidden hst
  replace hv := hidden hv
  go_wp2_with (fail)
  refine Calls.mono (wrongOf ok e2 v _ hi2 hv.out) ?_
  rintro e w3 ⟨fz, rfl, hfz, C⟩
  have S2 := S.call C; clear S C; simp only [List.cons_append, List.nil_append] at S2; have S := S2; clear S2
  go_wp2_with (first | (refine wpList_ldA S ?_) | (refine wpList_st S ?_; (clear S; intro ws S)) | (refine wpList_stA S ?_; (clear S; intro ws S; simp only [splice, List.take_zero, List.take_succ_cons, List.drop_succ_cons, List.drop_zero, List.drop_nil, List.length_cons, List.length_nil, Nat.reduceAdd, Nat.zero_add, List.nil_append, List.cons_append, List.append_nil] at S)))
  refine door_of (results_c S) (idleF _) ?_
  refine hR.out _ _ ?_
  rw [hst.out]
  obtain rfl := hfz.out
  cases ok with
  | true => exact ⟨x', _, _, rfl, H1.out.mono (by omega), hm1, ht1, ((S.nilRow 2 1).nilRow 5 1).sel (by repeat (first | exact Sel.nil | (apply Sel.cons; (repeat (first | exact Pull.head | apply Pull.tail)))))⟩
  | false => exact ⟨x', _, _, rfl, H1.out.mono (by omega), hm1, ht1, ((S.nilRow 2 1).nilRow 5 1).sel (by repeat (first | exact Sel.nil | (apply Sel.cons; (repeat (first | exact Pull.head | apply Pull.tail)))))⟩
end Go.Proofs.YtbklhnpnkinadaaDoor
end
section
namespace Go.Proofs.YtbklhnpnkinadaaDoor
open Go Go.RowKit Go.Vil
set_option linter.unusedSimpArgs false
set_option linter.unusedVariables false
set_option maxRecDepth 100000

/-- An operation as it is given. -/
structure SOp where
  kind : Int
  key : List UInt8
  value : List UInt8
  expire : Int
  now : Nat
  hash : Nat
  own : Bool
  is : Bool
  num : Int
/-- With the hash that counts. -/
def SOp.f (op : SOp) : FOp := ⟨op.kind, op.key, op.value, op.expire, op.now, hashOf op.own op.hash op.key⟩
abbrev sopCells (op : SOp) (kv vv keys : Value) : List Value := [.int .i64 op.kind, kv, vv, .int .i64 op.expire, .int .u32 op.now, .int .u64 op.hash, .bool op.own, .bool op.is, .int .i64 op.num, keys]
def SOpV (w : World) (op : SOp) (cs : List Value) : Prop := ∃ ka kn kc va vn vc, cs = sopCells op (.slice ka kn kc) (.slice va vn vc) (.slice none 0 0) ∧ Src w 1 (.slice ka kn kc) kn (u8s op.key) ∧ kn ≤ kc ∧ Src w 1 (.slice va vn vc) vn (u8s op.value) ∧ vn ≤ vc
theorem SOpV.on {w w' : World} {op : SOp} {cs : List Value} (h : SOpV w op cs) (C : Chg [] w w') : SOpV w' op cs := by
  obtain ⟨ka, kn, kc, va, vn, vc, h1, h2, h3, h4, h5⟩ := h
  exact ⟨ka, kn, kc, va, vn, vc, h1, h2.on C, h3, h4.on C, h5⟩
def stotal (l : List SOp) : Nat := (l.map fun op => op.key.length + op.value.length).sum
theorem stotal_take (l : List SOp) (k : Nat) (op : SOp) (h : l[k]? = some op) : stotal (l.take (k + 1)) = stotal (l.take k) + (op.key.length + op.value.length) := by
  unfold stotal
  rw [List.take_add_one, h]; simp
theorem stotal_take_le (l : List SOp) (k : Nat) : stotal (l.take k) ≤ stotal l := by
  have := List.take_append_drop k l
  have h2 : stotal l = stotal (l.take k) + stotal (l.drop k) := by
    unfold stotal
    rw [← List.sum_append, ← List.map_append, this]
  omega
/-- An operation within the bounds. -/
structure SOk (op : SOp) : Prop where
  kind : 0 ≤ op.kind ∧ op.kind ≤ 12
  key : op.key.length ≤ 65535
  value : op.value.length ≤ 65535
  expire : -1152921504606846976 ≤ op.expire ∧ op.expire ≤ 1000000
  now : op.now ≤ 2147483648
  hash : op.hash < 18446744073709551616

set_option maxHeartbeats 1600000 in
theorem freeFine (v : Value) (ops : List SOp) (w : World) (h : Arr SOpV 10 w v ops) (hk : ∀ op ∈ ops, SOk op) (hl : ops.length ≤ 400) (hb : stotal ops ≤ 262144) :
    Calls Tryd.prog 42 #[v, .int .i64 12] w fun e w' => e = .returned (.bool true) ∧ St w [] w' [] := by
  have S := St.begin w
  obtain ⟨oa, c, rfl, hc⟩ := h.shape
  have hh := hidden h
  replace hk := hidden hk
  clear h
  refine Calls.cps ?_; intro R hR
  go_enter Tryd.func42, Tryd.ntmps42
  go_wp2_with (fail)
  go_loopg [5, 12] ops.length (fun g by' i wr => ∃ k : Nat, Hid (k + g = ops.length) ∧ i = .int .i64 k ∧ by' = .int .i64 (stotal (ops.take k)) ∧ k ≤ ops.length ∧ stotal (ops.take k) ≤ 262144 ∧ St w [] wr [])
  case atStart => exact ⟨0, hidden (by omega), rfl, rfl, Nat.zero_le _, by simp [stotal], S⟩
  case round =>
    obtain ⟨gO, hgO⟩ : ∃ n, n = gk := ⟨_, rfl⟩
    subst hgO
    obtain ⟨k, hg, rfl, rfl, hkn, htk, S⟩ := hrel
    by_cases hlt : k < ops.length
    · obtain ⟨ad, rfl⟩ := hh.out.some (by decide) (by omega)
      have hop : ops[k]? = some ops[k] := List.getElem?_eq_getElem hlt
      have hok := hk.out ops[k] (List.getElem_mem hlt)
      have ht1 := stotal_take ops k _ hop
      have ht2 := stotal_take_le ops (k + 1)
      obtain ⟨cs, ⟨ka, kn, kc, va, vn, vc, rfl, hs, hkc, hv, hvc⟩, hl3, hcell⟩ := hh.out.get k _ hop
      have hln := hs.len8
      have hlv := hv.len8
      generalize ops[k] = op at *
      replace hcell := hidden hcell
      replace hop := hidden hop
      obtain ⟨k1, k2⟩ := hok.kind
      replace hln := hidden hln
      replace hlv := hidden hlv
      replace ht1 := hidden ht1
      have hn1 : stotal (ops.take k) + (kn + vn) ≤ 262144 := by have := ht1.out; have := hln.out; have := hlv.out; omega
      have hb1 : decide (12 < op.kind) = false := decide_eq_false (by omega)
      have hb2 : (op.kind == 21) = false := by simp; omega
      replace hok := hidden hok
      clear hs hv hl3 ht2
      go_wp2_with (first | (refine wpList_ldAc S ?_ (by rfl) hcell.out) | (refine wpList_ld S ?_) | (refine wpList_alloc S ?_; (clear S; intro nb wb hnb S)) | (refine wpList_stA S ?_; (clear S; intro ws S; simp only [splice, List.take_zero, List.take_succ_cons, List.drop_succ_cons, List.drop_zero, List.drop_nil, List.length_cons, List.length_nil, Nat.reduceAdd, Nat.zero_add, List.nil_append, List.cons_append, List.append_nil] at S)))
      go_loopg [5, 28] 0 (fun g by' i wr => i = .int .i64 0 ∧ by' = .int .i64 (stotal (ops.take k) + (kn + vn) : Nat) ∧ wr = ws)
      case atStart => exact ⟨rfl, by go_num, rfl⟩
      case round =>
        obtain ⟨rfl, rfl, rfl⟩ := hrel
        go_wp2_with (first | go_big_skip | (refine wpList_ld S ?_))
        go_roundg (gO - 1)
        case measure => have := hg.out; omega
        case rel =>
          have h5 := ht1.out
          have h6 := hln.out
          have h7 := hlv.out
          exact ⟨k + 1, hidden (by have := hg.out; omega), by go_num, by rw [h5, h6, h7], by omega, by omega, S.sel (by repeat (first | exact Sel.nil | (apply Sel.cons; (repeat (first | exact Pull.head | apply Pull.tail)))))⟩
    · have hkl : k = ops.length := by omega
      have hb1 : decide ((ops.length : Int) ≤ 400) = true := decide_eq_true (by omega)
      have hb2 : decide ((stotal (ops.take k) : Int) ≤ 262144) = true := decide_eq_true (by omega)
      replace hkl := hidden hkl
      go_wp2_with (fail)
      ((first | go_ret | go_ret2 | go_ret3 | go_end0 | skip); refine hR.out _ _ ?_)
      exact ⟨rfl, S.sel (by repeat (first | exact Sel.nil | (apply Sel.cons; (repeat (first | exact Pull.head | apply Pull.tail)))))⟩
end Go.Proofs.YtbklhnpnkinadaaDoor
end
section
namespace Go.Proofs.YtbklhnpnkinadaaDoor
open Go Go.RowKit Go.Vil
set_option linter.unusedSimpArgs false
set_option linter.unusedVariables false
set_option maxRecDepth 100000

def tail0 : List Value := List.replicate 256 (.int .i32 0) ++ [.int .i32 0, .slice none 0 0]
def zeros : List Value := .int .i64 0 :: .int .i64 0 :: .slice none 0 0 :: .int .i64 0 :: .int .i64 0 :: .int .u32 0 :: .int .i64 0 :: .int .i64 0 :: .int .i64 0 :: .int .i64 0 :: .int .i64 0 :: .nilIface :: .int .i64 0 :: .int .i64 0 :: .int .i64 0 :: .int .i64 0 :: .int .i64 0 :: tail0
def freshHd (n : Nat) (tv : Value) (nb : Nat) : Hd := ⟨0, 0, 0, 0, 0, tv, 0, 0, 0, 0, n, List.replicate 256 0, 1, nb⟩

theorem zeros_eq : (Value.agg Tryd.zeroCells105).cells = zeros.toArray := by rfl

set_option maxHeartbeats 3200000 in
theorem newSegment (n : Nat) (tt : TypeId) (tp : Value) (w : World) (h1 : 1 ≤ n) (hn : n ≤ 1073741824) :
    Calls Tryd.prog 61 #[.int .i64 n, .int .i64 0, .iface tt tp] w fun e w' => ∃ (m nb : Nat) (cs : List Value), e = .returned (.agg ((freshHd n (.iface tt tp) nb).cells m 0 0 n n 0).toArray) ∧ cs.length = 1024 ∧ (∀ u ∈ cs, u.oneCell' = true) ∧
      St w [] w' [.blk m (.cells (u8s (List.replicate n 0)).toArray 5 (0, 0)), .blk nb (.cells cs.toArray 155 (0, 0))] := by
  have S := St.begin w
  obtain ⟨tl, htl⟩ : ∃ tl, tail0 = tl := ⟨_, rfl⟩
  refine Calls.cps ?_; intro R hR
  go_enter Tryd.func61, Tryd.ntmps61
  go_upto_region 1 with ((refine wpList_alloc (cs := zeros) S ?_ (hv := zeros_eq); (clear S; intro gB wG hgB S)))
  unfold zeros at S
  rw [htl] at S
  go_wp2_with (fail)
  refine Calls.mono (newRing n 0 _ hn) ?_
  rintro ex w2 ⟨m, rfl, C⟩
  have S2 := S.call C; clear S C; simp only [List.cons_append, List.nil_append] at S2; have S := S2; clear S2
  have hl2 : tl.length = 258 := by rw [← htl]; rfl
  replace htl := hidden htl
  go_wp2_with (first | (refine wpList_mkC S ?_ (ln := 256) (cn := 256); (clear S; intro nb wb cs0 hnb hcs0 hone0 S)) | (refine wpList_stA S ?_; (clear S; intro ws S; simp only [splice, List.take_zero, List.take_succ_cons, List.drop_succ_cons, List.drop_zero, List.drop_nil, List.length_cons, List.length_nil, Nat.reduceAdd, Nat.zero_add, List.nil_append, List.cons_append, List.append_nil] at S)) | (refine wpList_st S ?_ (hi := by simp [hl2]); (clear S; intro ws S)) | (refine wpList_ld S ?_ (hi := by first | rfl | (simp only [List.getElem?_cons_succ]; rw [List.getElem?_set, if_pos rfl, if_pos (by omega)]))))
  have htl3 : (tl.set 256 (.int .i32 1)).set 257 (.slice (some ⟨nb, 0, none⟩) 256 256) = (freshHd n (.iface tt tp) nb).tail := by rw [← htl.out]; rfl
  rw [htl3] at S
  have S2 : St w [] ws [.blk gB (.cells ((freshHd n (.iface tt tp) nb).cells m 0 0 n n 0).toArray 105 (0, 0)), .blk nb (.cells cs0.toArray 155 (0, 0)), .blk m (.cells (u8s (List.replicate n 0)).toArray 5 (0, 0))] := S.sel (by repeat (first | exact Sel.nil | (apply Sel.cons; (repeat (first | exact Pull.head | apply Pull.tail)))))
  clear S; have S := S2; clear S2
  refine ret_of (results_c S (hn := by rw [Hd.long]; rfl)) ?_
  refine hR.out _ _ ?_
  exact ⟨m, nb, cs0, rfl, hcs0, hone0, S.sel (by repeat (first | exact Sel.nil | (apply Sel.cons; (repeat (first | exact Pull.head | apply Pull.tail)))))⟩
theorem zzNewSegment (n : Nat) (tt : TypeId) (tp : Value) (w : World) (h1 : 1 ≤ n) (hn : n ≤ 1073741824) :
    Calls Tryd.prog 43 #[.int .i64 n, .iface tt tp] w fun e w' => ∃ (m nb : Nat) (cs : List Value), e = .returned (.agg ((freshHd n (.iface tt tp) nb).cells m 0 0 n n 0).toArray) ∧ cs.length = 1024 ∧ (∀ u ∈ cs, u.oneCell' = true) ∧
      St w [] w' [.blk m (.cells (u8s (List.replicate n 0)).toArray 5 (0, 0)), .blk nb (.cells cs.toArray 155 (0, 0))] := by
  have S := St.begin w
  obtain ⟨tl, htl⟩ : ∃ tl, tail0 = tl := ⟨_, rfl⟩
  refine Calls.cps ?_; intro R hR
  go_enter Tryd.func43, Tryd.ntmps43
  go_upto_region 1 with ((refine wpList_alloc (cs := zeros) S ?_ (hv := zeros_eq); (clear S; intro gB wG hgB S)))
  unfold zeros at S
  rw [htl] at S
  go_wp2_with (fail)
  refine Calls.mono (newSegment n tt tp _ h1 hn) ?_
  rintro ex w2 ⟨m, nb, cs, rfl, hcs, ho, C⟩
  have S2 := S.call C; clear S C; simp only [List.cons_append, List.nil_append] at S2; have S := S2; clear S2
  have hl2 : tl.length = 258 := by rw [← htl]; rfl
  replace htl := hidden htl
  have hlen : ((freshHd n (.iface tt tp) nb).cells m 0 0 n n 0).length = 275 := by rw [Hd.long]; rfl
  have hone : oneCells ((freshHd n (.iface tt tp) nb).cells m 0 0 n n 0) = true := by rfl
  obtain ⟨c, hc⟩ : ∃ c, (freshHd n (.iface tt tp) nb).cells m 0 0 n n 0 = c := ⟨_, rfl⟩
  rw [hc] at hlen hone ⊢
  replace hc := hidden hc
  go_wp2_with ((refine wpList_stA S ?_ (hl := hlen) (h1c := hone) (hfit := by simp [hl2]); (clear S; intro ws S)))
  rw [splice_all _ _ (by simp [hl2, hlen])] at S
  refine ret_of (results_c S (hn := hlen)) ?_
  refine hR.out _ _ ?_
  exact ⟨m, nb, cs, by rw [hc.out], hcs, ho, S.sel (by repeat (first | exact Sel.nil | (apply Sel.cons; (repeat (first | exact Pull.head | apply Pull.tail)))))⟩
end Go.Proofs.YtbklhnpnkinadaaDoor
end
section
namespace Go.Proofs.YtbklhnpnkinadaaDoor
open Go Go.RowKit Go.Vil
set_option linter.unusedSimpArgs false
set_option linter.unusedVariables false
set_option maxRecDepth 100000

theorem segDo (q ck N : Nat) (s : Sg) (x : Sm) (op : SOp) (kn kc vn vc : Nat) (ka va : Option Addr) (keys : Value) (e1 e2 : Value) (w : World) (hk : SOk op) (A : SArg q ck op.now N s x op.key op.value kn kc vn vc ka va op.expire op.hash e1 e2 w) :
    Calls Tryd.prog 44 #[.pointer (some ⟨q, 0, none⟩), .agg (sopCells op (.slice ka kn kc) (.slice va vn vc) keys).toArray] w (SDoEnd q ck x.m x.h.sb op.now N x w (s.step op.f)) := by
  obtain ⟨k, key, value, ex, now, hash, own, is, num⟩ := op
  have hk := hk.kind
  simp only at hk A
  obtain ⟨hk0, hk9⟩ := hk
  obtain ⟨i, rfl⟩ : ∃ i : Nat, k = i := ⟨k.toNat, by omega⟩
  match i, hk9 with
  | 0, _ => exact sDo0 q ck now N s x key value kn kc vn vc ka va keys ex num hash own is e1 e2 w A
  | 1, _ => exact sDo1 q ck now N s x key value kn kc vn vc ka va keys ex num hash own is e1 e2 w A
  | 2, _ => exact sDo2 q ck now N s x key value kn kc vn vc ka va keys ex num hash own is e1 e2 w A
  | 3, _ => exact sDo3 q ck now N s x key value kn kc vn vc ka va keys ex num hash own is e1 e2 w A
  | 4, _ => exact sDo4 q ck now N s x key value kn kc vn vc ka va keys ex num hash own is e1 e2 w A
  | 5, _ => exact sDo5 q ck now N s x key value kn kc vn vc ka va keys ex num hash own is e1 e2 w A
  | 6, _ => exact sDo6 q ck now N s x key value kn kc vn vc ka va keys ex num hash own is e1 e2 w A
  | 7, _ => exact sDo7 q ck now N s x key value kn kc vn vc ka va keys ex num hash own is e1 e2 w A
  | 8, _ => exact sDo8 q ck now N s x key value kn kc vn vc ka va keys ex num hash own is e1 e2 w A
  | 9, _ => exact sDo9 q ck now N s x key value kn kc vn vc ka va keys ex num hash own is e1 e2 w A
  | 10, _ => exact sDo10 q ck now N s x key value kn kc vn vc ka va keys ex num hash own is e1 e2 w A
  | 11, _ => exact sDo11 q ck now N s x key value kn kc vn vc ka va keys ex num hash own is e1 e2 w A
  | 12, _ => exact sDo12 q ck now N s x key value kn kc vn vc ka va keys ex num hash own is e1 e2 w A
  | n + 13, h => omega
end Go.Proofs.YtbklhnpnkinadaaDoor
end
section
namespace Go.Proofs.YtbklhnpnkinadaaDoor
open Go.Vil Go.Vil.Ri Go.RowKit
set_option linter.unusedVariables false
set_option linter.unusedSimpArgs false

theorem mem_modify {l : List En} {i : Nat} {f : En → En} {e : En} (h : e ∈ l.modify i f) : e ∈ l ∨ ∃ a ∈ l, e = f a := by
  obtain ⟨j, hj⟩ := List.mem_iff_getElem?.1 h
  rw [get_modify] at hj
  split at hj
  · cases ha : l[j]? with
    | none => rw [ha] at hj; cases hj
    | some a => rw [ha] at hj; cases hj; exact .inr ⟨a, List.mem_of_getElem? ha, rfl⟩
  · exact .inl (List.mem_of_getElem? hj)
theorem past_modify {l : List En} {i : Nat} {f : En → En} {t : Nat} (h : ∀ e ∈ l, e.access ≤ t) (hf : ∀ e, e.access ≤ t → (f e).access ≤ t) : ∀ e ∈ l.modify i f, e.access ≤ t := by
  intro e he
  rcases mem_modify he with h1 | ⟨a, ha, rfl⟩
  · exact h e h1
  · exact hf a (h a ha)
theorem past_add {s : Sg} {e : En} {now t : Nat} (h : ∀ e ∈ s.list, e.access ≤ t) (he : e.access ≤ t) : ∀ a ∈ (s.add e now).list, a.access ≤ t := by
  intro a ha
  rcases List.mem_append.1 (show a ∈ (Sg.evac e.len now s 0).list ++ [e] from ha) with h1 | h1
  · exact h a (evac_sub _ _ _ _ a h1)
  · simp at h1; subst h1; exact he
theorem set_past {s : Sg} {key value : List UInt8} {hash now : Nat} {sec : Int} (h : ∀ e ∈ s.list, e.access ≤ now) : ∀ e ∈ (s.set key value hash sec now).1.list, e.access ≤ now := by
  unfold Sg.set
  split
  · exact h
  · split
    · exact past_add h (Nat.le_refl _)
    · split
      · exact past_modify h (fun e _ => Nat.le_refl _)
      · exact past_add (past_modify h (fun e he => he)) (Nat.le_refl _)
theorem set_size (s : Sg) (key value : List UInt8) (hash now : Nat) (sec : Int) : (s.set key value hash sec now).1.size = s.size := by
  unfold Sg.set
  split
  · rfl
  · split
    · exact evac_size _ _ _ _
    · split
      · rfl
      · exact evac_size _ _ _ _
theorem step_past (s : Sg) (op : FOp) (h : ∀ e ∈ s.list, e.access ≤ op.now) : ∀ e ∈ (s.step op).1.list, e.access ≤ op.now := by
  unfold Sg.step
  simp only
  repeat' split
  all_goals first
    | exact h
    | exact set_past h
    | exact past_modify h (fun e he => he)
    | exact past_modify h (fun e _ => Nat.le_refl _)
    | (intro e he; simp [Sg.fresh] at he)
theorem step_size (s : Sg) (op : FOp) : (s.step op).1.size = s.size := by
  unfold Sg.step
  simp only
  repeat' split
  all_goals first
    | rfl
    | exact set_size _ _ _ _ _ _
theorem step_fault (s : Sg) (op : FOp) : (s.step op).2.fault ≠ 2 := by
  unfold Sg.step
  simp only
  repeat' split
  all_goals first
    | decide
    | (show (0 : Int) ≠ 2; decide)
    | (show (1 : Int) ≠ 2; decide)
    | (show (3 : Int) ≠ 2; decide)
end Go.Proofs.YtbklhnpnkinadaaDoor
end
section
namespace Go.Proofs.YtbklhnpnkinadaaDoor
open Go Go.RowKit Go.Vil
set_option linter.unusedSimpArgs false
set_option linter.unusedVariables false
set_option maxRecDepth 100000

/-- Times that do not fall. -/
def Timed : Nat → List SOp → Prop
  | _, [] => True
  | t, op :: l => t ≤ op.now ∧ Timed op.now l
/-- An answer as it lies in memory. -/
def fansCells (l : List ((Value × Value) × FAns)) : List Value := (l.map fun p => [.int .i64 p.2.fault, p.1.1, .int .u32 p.2.number, .bool p.2.is, .bool false, p.1.2, .slice none 0 0]).flatten
def fansRows (l : List ((Value × Value) × FAns)) : List Res := (l.map fun p => [.row 5 1 p.1.1 p.2.value.length (u8s p.2.value), .row 2 1 p.1.2 p.2.numbers.length (p.2.numbers.map fun n => .int .i64 n)]).flatten
def FAnsV (w : World) (an : FAns) (cs : List Value) : Prop := ∃ oa c na nc, cs = [.int .i64 an.fault, .slice oa an.value.length c, .int .u32 an.number, .bool an.is, .bool false, .slice na an.numbers.length nc, .slice none 0 0] ∧ Src w 1 (.slice oa an.value.length c) an.value.length (u8s an.value) ∧ an.value.length ≤ c ∧ an.value.length ≤ maxLen ∧
  Src w 1 (.slice na an.numbers.length nc) an.numbers.length (an.numbers.map fun n => .int .i64 n) ∧ an.numbers.length ≤ nc ∧ an.numbers.length ≤ maxLen
theorem FAnsV.on {w w' : World} {an : FAns} {cs : List Value} (h : FAnsV w an cs) (C : Chg [] w w') : FAnsV w' an cs := by
  obtain ⟨oa, c, na, nc, h1, h2, h3, h4, h5, h6, h7⟩ := h
  exact ⟨oa, c, na, nc, h1, h2.on C, h3, h4, h5.on C, h6, h7⟩
theorem fans_arr {w : World} {v : Value} {done : List ((Value × Value) × FAns)} (hrow : (Res.row 73 7 v done.length (fansCells done)).holds w) (hall : ∀ r ∈ fansRows done, r.holds w) : Arr FAnsV 7 w v (done.map (·.2)) := by
  have hsh : ∀ p ∈ done, ∃ oa c na nc, p.1.1 = .slice oa p.2.value.length c ∧ p.2.value.length ≤ c ∧ p.2.value.length ≤ maxLen ∧ Src w 1 p.1.1 p.2.value.length (u8s p.2.value) ∧
      p.1.2 = .slice na p.2.numbers.length nc ∧ p.2.numbers.length ≤ nc ∧ p.2.numbers.length ≤ maxLen ∧ Src w 1 p.1.2 p.2.numbers.length (p.2.numbers.map fun n => .int .i64 n) := by
    intro p hp
    have hr := hall _ (List.mem_flatten.2 ⟨_, List.mem_map_of_mem hp, List.mem_cons_self⟩)
    have hr2 := hall _ (List.mem_flatten.2 ⟨_, List.mem_map_of_mem hp, List.mem_cons_of_mem _ List.mem_cons_self⟩)
    obtain ⟨oa, c, h1, h2, h2b⟩ := row_shape (by decide) hr
    obtain ⟨na, nc, h3, h4, h4b⟩ := row_shape (by decide) hr2
    exact ⟨oa, c, na, nc, h1, h2, by unfold maxLen; unfold maxLen at h2b; simpa using h2b, Src.row hr (u8s_one _), h3, h4, by unfold maxLen; unfold maxLen at h4b; simpa using h4b, Src.row hr2 (by intro u hu; obtain ⟨n, _, rfl⟩ := List.mem_map.1 hu; rfl)⟩
  refine row_arr (css := done.map fun p => [.int .i64 p.2.fault, p.1.1, .int .u32 p.2.number, .bool p.2.is, .bool false, p.1.2, .slice none 0 0]) (by decide) (by rw [List.length_map]; exact hrow) ?_ ?_
  · refine Each.of_get (by simp) fun i an cs h1 h2 => ?_
    rw [List.getElem?_map] at h1 h2
    cases hd : done[i]? with
    | none => rw [hd] at h1; cases h1
    | some p =>
      rw [hd] at h1 h2
      simp only [Option.map_some, Option.some.injEq] at h1 h2
      subst h1 h2
      obtain ⟨oa, c, na, nc, h3, h4, h4b, h5, h6, h7, h7b, h8⟩ := hsh p (List.mem_of_getElem? hd)
      rw [h3] at h5 ⊢
      rw [h6] at h8 ⊢
      exact ⟨⟨oa, c, na, nc, rfl, h5, h4, h4b, h8, h7, h7b⟩, rfl⟩
  · intro cs hcs u hu
    obtain ⟨p, hp, rfl⟩ := List.mem_map.1 hcs
    obtain ⟨oa, c, na, nc, h3, _, _, _, h6, _⟩ := hsh p hp
    rw [h3, h6] at hu
    simp at hu
    rcases hu with rfl | rfl | rfl | rfl | rfl | rfl | rfl <;> rfl
/-- The variables that count. -/
structure SErrs (w : World) (bs : List Nat) (e1 e2 : Value) : Prop where
  nf : GErr w bs 4 e1
  le : GErr w bs 3 e2
  pr : GErr w bs 5 (.int .u64 11400714785074694791)
  i1 : ∃ t p, e1 = .iface t p
  i2 : ∃ t p, e2 = .iface t p
theorem SErrs.call {w w' : World} {bs bs' : List Nat} {L F : List Res} {e1 e2 : Value} (h : SErrs w bs e1 e2) (S : St w bs w' L)
    (hp : PullsF bs' L F := by repeat (first | exact PullsF.nil | (apply PullsF.cons; (repeat (first | exact PullF.head rfl | apply PullF.tail))))) : SErrs w' bs' e1 e2 :=
  ⟨h.nf.call S hp, h.le.call S hp, h.pr.call S hp, h.i1, h.i2⟩

set_option maxHeartbeats 6400000 in
theorem segRunR (v : Value) (ops : List SOp) (size : Nat) (e1 e2 : Value) (w : World) (h : Arr SOpV 10 w v ops) (hk : ∀ op ∈ ops, SOk op) (hl : ops.length ≤ 400) (hb : stotal ops ≤ 262144) (hs1 : 1 ≤ size) (hs : size ≤ 4096) (hE : SErrs w [] e1 e2) (hT : Timed 0 ops) :
    Calls Tryd.prog 25 #[.int .i64 size, v] w fun e w' => ∃ ov done, e = .returned (.tuple #[ov, .int .i64 0]) ∧ (Sg.fresh size).run (ops.map SOp.f) = done.map (·.2) ∧ St w [] w' (.row 73 7 ov done.length (fansCells done) :: fansRows done) := by
  have S := St.begin w
  obtain ⟨oa, c, rfl, hc⟩ := h.shape
  have hh := hidden h
  have hfine := hidden (fun (w' : World) (h' : Arr SOpV 10 w' (.slice oa ops.length c) ops) => freeFine _ ops w' h' hk hl hb)
  replace hE := hidden hE
  replace hT := hidden hT
  replace hk := hidden hk
  clear h hb
  have hb1 : decide ((size : Int) < 1) = false := decide_eq_false (by omega)
  have hb2 : decide ((65536 : Int) < (size : Int)) = false := decide_eq_false (by omega)
  refine Calls.cps ?_; intro R hR
  go_enter Tryd.func25, Tryd.ntmps25
  go_wp2_with (fail)
  refine Calls.mono (hfine.out _ (hh.out.on S.chg fun _ _ h => h.on S.chg)) ?_
  rintro e w2 ⟨rfl, C⟩
  have S2 := S.call C; clear S C; simp only [List.cons_append, List.nil_append] at S2; have S := S2; clear S2
  go_wp2_with ((refine wpList_box S ?_; (clear S; intro nb wb hnb S)))
  obtain ⟨ck, hck⟩ : ∃ x, x = nb := ⟨_, rfl⟩
  subst hck
  refine Calls.mono (zzNewSegment size 97 (.pointer (some ⟨ck, 0, none⟩)) _ hs1 (by omega)) ?_
  rintro e w3 ⟨m, sb, cs0, rfl, hcs, hone, C⟩
  have S2 := S.call C; clear S C; simp only [List.cons_append, List.nil_append] at S2; have S := S2; clear S2
  have hH := hidden (held_fresh 0 size ⟨List.replicate size 0, 0, 0, 0⟩ m sb [] (freshHd size (.iface 97 (.pointer (some ⟨ck, 0, none⟩))) sb) cs0 0 hs1 hs List.length_replicate rfl rfl rfl hcs hone rfl rfl ⟨rfl, rfl, rfl, rfl, rfl, rfl, rfl, rfl, rfl, rfl⟩ (Nat.le_refl _))
  obtain ⟨tl, htl⟩ : ∃ tl, tail0 = tl := ⟨_, rfl⟩
  have hl2 : tl.length = 258 := by rw [← htl]; rfl
  have hlen : ((freshHd size (.iface 97 (.pointer (some ⟨ck, 0, none⟩))) sb).cells m 0 0 size size 0).length = 275 := by rw [Hd.long]; rfl
  have hone1 : oneCells ((freshHd size (.iface 97 (.pointer (some ⟨ck, 0, none⟩))) sb).cells m 0 0 size size 0) = true := by rfl
  obtain ⟨cc, hcc⟩ : ∃ c, (freshHd size (.iface 97 (.pointer (some ⟨ck, 0, none⟩))) sb).cells m 0 0 size size 0 = c := ⟨_, rfl⟩
  rw [hcc] at hlen hone1 ⊢
  replace hcc := hidden hcc
  replace htl := hidden htl
  go_upto_region 5 with (first | (refine wpList_alloc (cs := zeros) S ?_ (hv := zeros_eq); (clear S; intro rq wG hrq S; unfold zeros at S; rw [htl.out] at S)) | (refine wpList_stA S ?_ (hl := hlen) (h1c := hone1) (hfit := by simp [hl2]); (clear S; intro ws S)))
  rw [splice_all _ _ (by simp [hl2, hlen])] at S
  have S2 : St w [] ws [.row 73 7 (.slice none 0 0) 0 [], .blk rq (.cells ((freshHd size (.iface 97 (.pointer (some ⟨ck, 0, none⟩))) sb).cells m 0 0 size size 0).toArray 105 (0, 0)), .blk m (.cells (u8s (List.replicate size 0)).toArray 5 (0, 0)), .blk sb (.cells cs0.toArray 155 (0, 0)), clk ck 0] := by
    rw [hcc.out]; exact (S.nilRow 73 7).sel (by repeat (first | exact Sel.nil | (apply Sel.cons; (repeat (first | exact Pull.head | apply Pull.tail)))))
  clear S; have S := S2; clear S2
  clear hcc htl hlen hone1 hl2
  go_wp2_with (fail)
  go_loopg [4, 9, 10, 30] ops.length (fun g out xp ap i wr => ∃ (k : Nat) (done : List ((Value × Value) × FAns)) (s : Sg) (x : Sm) (t : Nat), Hid (k + g = ops.length) ∧ i = .int .i64 k ∧ k ≤ ops.length ∧ done.length = k ∧
    Hid ((Sg.fresh size).run (ops.map SOp.f) = done.map (·.2) ++ s.run ((ops.drop k).map SOp.f)) ∧ Hid (Held (k * 268435456) s x) ∧ Hid (s.size = size) ∧ Hid (x.h.timer = .iface 97 (.pointer (some ⟨ck, 0, none⟩))) ∧ Hid (∀ e ∈ s.list, e.access ≤ t) ∧ Hid (Timed t (ops.drop k)) ∧
    St w [] wr (.row 73 7 out k (fansCells done) :: clk ck t :: rHead rq x.m 105 x.r.b x.r.e x.r.data.length (x.r.data ++ x.sl).length x.r.ix x.h.post :: rBlk x.m x.r.data x.sl :: .blk x.h.sb (.cells x.cs.toArray 155 (0, 0)) :: fansRows done))
  case atStart =>
    refine ⟨0, [], Sg.fresh size, _, 0, hidden (by omega), rfl, Nat.zero_le _, rfl, hidden (by rw [List.drop_zero]; rfl), hH, hidden rfl, hidden rfl, hidden (by intro e he; simp [Sg.fresh] at he), by rw [List.drop_zero]; exact hT, ?_⟩
    have e1 : ((List.replicate size 0 : List UInt8) ++ []) = List.replicate size 0 := List.append_nil _
    dsimp only
    unfold rBlk rHead
    rw [e1, List.length_replicate]
    exact S.sel (by repeat (first | exact Sel.nil | (apply Sel.cons; (repeat (first | exact Pull.head | apply Pull.tail)))))
  case round =>
    obtain ⟨k, done, s, x, t, hg, rfl, hkn, hdl, hrun, hH1, hsz, htm, hpast, hTd, S⟩ := hrel
    clear hH
    by_cases hlt : k < ops.length
    · obtain ⟨ad, rfl⟩ := hh.out.some (by decide) (by omega)
      have hop : ops[k]? = some ops[k] := List.getElem?_eq_getElem hlt
      have hdrop : ops.drop k = ops[k] :: ops.drop (k + 1) := List.drop_eq_getElem_cons hlt
      have hok := hk.out ops[k] (List.getElem_mem hlt)
      obtain ⟨cs, ⟨ka, kn, kc, va, vn, vc, rfl, hks, hkc, hvs, hvc⟩, hl3, hcell⟩ := hh.out.get k _ hop
      have hrun1 := hrun.out
      have hT1 := hTd.out
      rw [hdrop] at hrun1 hT1
      generalize ops[k] = op at *
      replace hcell := hidden hcell
      obtain ⟨f1, f4⟩ := hT1
      replace hks := hidden hks
      replace hvs := hidden hvs
      replace hrun1 := hidden hrun1
      replace hdrop := hidden hdrop
      replace f1 := hidden f1
      replace f4 := hidden f4
      replace hok := hidden hok
      clear hTd hrun hl3 hop
      go_wp2_with (first | (refine wpList_ldAc S ?_ (by rfl) hcell.out) | (refine wpList_ld S ?_) | (refine wpList_ldA S ?_) | (refine wpList_st S ?_; (clear S; intro ws S)) | (refine wpList_alloc S ?_; (clear S; intro nb wb hnb S)) | (refine wpList_stA S ?_; (clear S; intro ws S; simp only [splice, List.take_zero, List.take_succ_cons, List.drop_succ_cons, List.drop_zero, List.drop_nil, List.length_cons, List.length_nil, Nat.reduceAdd, Nat.zero_add, List.nil_append, List.cons_append, List.append_nil] at S)))
      have A1 : Mem _ (clk ck op.now :: x.mem rq 105 155) := S.mem.sel (rs := [clk ck op.now, rHead rq x.m 105 x.r.b x.r.e x.r.data.length (x.r.data ++ x.sl).length x.r.ix x.h.post, rBlk x.m x.r.data x.sl, .blk x.h.sb (.cells x.cs.toArray 155 (0, 0))]) (by repeat (first | exact Sel.nil | (apply Sel.cons; (repeat (first | exact Pull.head | apply Pull.tail)))))
      have A3 : Off ka [ck, rq, x.m, x.h.sb] (u8s op.key) := S.off hks.out (bs := [ck, rq, x.m, x.h.sb])
      have A4 : Off va [ck, rq, x.m, x.h.sb] (u8s op.value) := S.off hvs.out (bs := [ck, rq, x.m, x.h.sb])
      have A5 : SErrs _ [ck, rq, x.m, x.h.sb] e1 e2 := hE.out.call S (bs' := [ck, rq, x.m, x.h.sb])
      refine Calls.mono (segDo rq ck (k * 268435456) s x op kn kc vn vc ka va (.slice none 0 0) e1 e2 _ hok.out ⟨hH1.out, by have := hsz.out; omega, A1, hks.out.on S.chg, A3, hkc, by have := hks.out.len8; have := hok.out.key; omega, hvs.out.on S.chg, A4, hvc, by have := hvs.out.len8; have := hok.out.value; omega, hok.out.hash, hok.out.now, hok.out.expire, htm.out, fun e he => Nat.le_trans (hpast.out e he) f1.out, by omega, A5.nf, A5.le, A5.pr, A5.i1, A5.i2⟩) ?_
      clear A1 A3 A4 A5
      rintro e w4 ⟨x', dv, nv, rfl, hH2, hm2, ht2, C⟩
      have S2 := S.call C; clear S C
      simp only [Sm.mem, List.cons_append, List.nil_append] at S2
      have S := S2; clear S2
      have hfz0 := step_fault s op.f
      have hsz2 := step_size s op.f
      have hpast2 := step_past s op.f (fun e he => Nat.le_trans (hpast.out e he) f1.out)
      generalize hst : s.step op.f = st at *
      obtain ⟨s2, an⟩ := st
      simp only at *
      have hfz : (an.fault == 2) = false := by simpa using hfz0
      replace hst := hidden hst
      replace hH2 := hidden hH2
      replace hsz2 := hidden hsz2
      replace hpast2 := hidden hpast2
      replace hm2 := hidden hm2
      replace ht2 := hidden ht2
      clear hfz0
      obtain ⟨a3, c3, rfl, hc3, hc4⟩ := S.rowSlice (hp := Pull.head)
      obtain ⟨a5, c5, rfl, hc5, hc6⟩ := S.rowSlice (hp := .tail .head)
      go_wp2_with (first | (refine wpList_appB S ?_; (clear S; intro va2 wa hva S)) | (refine wpList_ld S ?_) | (refine wpList_ldA S ?_) | (refine wpList_alloc S ?_; (clear S; intro nb wb hnb S)) | (refine wpList_bs S ?_; (clear S; intro nb wb hnb S)) | (refine wpList_stA S ?_; (clear S; intro ws S; simp only [splice, List.take_zero, List.take_succ_cons, List.drop_succ_cons, List.drop_zero, List.drop_nil, List.length_cons, List.length_nil, Nat.reduceAdd, Nat.zero_add, List.nil_append, List.cons_append, List.append_nil] at S)))
      go_roundg (gk - 1)
      case measure => have := hg.out; omega
      case rel =>
        refine ⟨k + 1, done ++ [((.slice a3 an.value.length c3, .slice a5 an.numbers.length c5), an)], s2, x', op.now, hidden (by have := hg.out; omega), by go_num, by omega, by simp [hdl], hidden ?_, hidden (by rw [show (k + 1) * 268435456 = k * 268435456 + 268435456 by omega]; exact hH2.out), hidden (hsz2.out.trans hsz.out), hidden (ht2.out.trans htm.out), hpast2, f4, ?_⟩
        · rw [hrun1.out]
          show _ ++ ((s.step op.f).2 :: Sg.run (s.step op.f).1 _) = _
          rw [hst.out]; simp
        · have e1 : fansCells (done ++ [((.slice a3 an.value.length c3, .slice a5 an.numbers.length c5), an)]) = fansCells done ++ [.int .i64 an.fault, .slice a3 an.value.length c3, .int .u32 an.number, .bool an.is, .bool false, .slice a5 an.numbers.length c5, .slice none 0 0] := by simp [fansCells]
          have e2 : fansRows (done ++ [((.slice a3 an.value.length c3, .slice a5 an.numbers.length c5), an)]) = fansRows done ++ [.row 5 1 (.slice a3 an.value.length c3) an.value.length (u8s an.value), .row 2 1 (.slice a5 an.numbers.length c5) an.numbers.length (an.numbers.map fun n => .int .i64 n)] := by simp [fansRows]
          rw [e1, e2]
          have S2 : St w [] wa (.row 73 7 va2 (k + 1) (fansCells done ++ [.int .i64 an.fault, .slice a3 an.value.length c3, .int .u32 an.number, .bool an.is, .bool false, .slice a5 an.numbers.length c5, .slice none 0 0]) :: clk ck op.now :: rHead rq x'.m 105 x'.r.b x'.r.e x'.r.data.length (x'.r.data ++ x'.sl).length x'.r.ix x'.h.post :: rBlk x'.m x'.r.data x'.sl :: .blk x'.h.sb (.cells x'.cs.toArray 155 (0, 0)) :: .row 5 1 (.slice a3 an.value.length c3) an.value.length (u8s an.value) :: .row 2 1 (.slice a5 an.numbers.length c5) an.numbers.length (an.numbers.map fun n => .int .i64 n) :: fansRows done) := (S.selT (by repeat (first | (apply SelT.nil; (repeat (first | exact Suf.refl | apply Suf.cons)); done) | (apply SelT.cons; (repeat (first | exact Pull.head | apply Pull.tail))))))
          exact S2.perm (.cons _ (.cons _ (.cons _ (.cons _ (.cons _ (by simpa using (List.perm_append_comm (l₁ := [.row 5 1 (.slice a3 an.value.length c3) an.value.length (u8s an.value), .row 2 1 (.slice a5 an.numbers.length c5) an.numbers.length (an.numbers.map fun n => .int .i64 n)]) (l₂ := fansRows done))))))))
    · have hkl : k = ops.length := by omega
      replace hkl := hidden hkl
      go_wp2_with (fail)
      ((first | go_ret | go_ret2 | go_ret3 | go_end0 | skip); refine hR.out _ _ ?_)
      have e : (Sg.fresh size).run (ops.map SOp.f) = done.map (·.2) := by
        rw [hrun.out, hkl.out, List.drop_length]; simp [Sg.run]
      refine ⟨_, done, rfl, e, ?_⟩
      rw [hdl]
      exact (S.selT (by repeat (first | (apply SelT.nil; (repeat (first | exact Suf.refl | apply Suf.cons)); done) | (apply SelT.cons; (repeat (first | exact Pull.head | apply Pull.tail))))))
theorem segRun (v : Value) (ops : List SOp) (size : Nat) (e1 e2 : Value) (w : World) (h : Arr SOpV 10 w v ops) (hk : ∀ op ∈ ops, SOk op) (hl : ops.length ≤ 400) (hb : stotal ops ≤ 262144) (hs1 : 1 ≤ size) (hs : size ≤ 4096) (hE : SErrs w [] e1 e2) (hT : Timed 0 ops) :
    Calls Tryd.prog 25 #[.int .i64 size, v] w fun e w' => ∃ ov, e = .returned (.tuple #[ov, .int .i64 0]) ∧ Arr FAnsV 7 w' ov ((Sg.fresh size).run (ops.map SOp.f)) ∧ Chg [] w w' := by
  refine Calls.mono (segRunR v ops size e1 e2 w h hk hl hb hs1 hs hE hT) ?_
  rintro e w' ⟨ov, done, rfl, hr, S⟩
  refine ⟨ov, rfl, ?_, S.chg⟩
  rw [hr]
  exact fans_arr (S.mem.2 _ List.mem_cons_self) fun r hr => S.mem.2 r (List.mem_cons_of_mem _ hr)
end Go.Proofs.YtbklhnpnkinadaaDoor
end
section
namespace Go.Proofs.YtbklhnpnkinadaaDoor
open Go Go.RowKit Go.Vil
def u64r (z : Int) : Int := z % 18446744073709551616
theorem wrap_rem64 (z m : Int) (h0 : 0 < m) (h1 : m ≤ 9223372036854775807) : wrap64 ((IntKind.u64.wrap z).tmod m) = u64r z % m := by
  have hw : IntKind.u64.wrap z = u64r z := by unfold u64r; rw [IntKind.wrap_u64]
  have hlo : 0 ≤ u64r z := Int.emod_nonneg _ (by decide)
  rw [hw, Int.tmod_eq_emod_of_nonneg hlo]
  have h2 := Int.emod_nonneg (u64r z) (show m ≠ 0 by omega)
  have h3 := Int.emod_lt_of_pos (u64r z) h0
  unfold wrap64; omega
end Go.Proofs.YtbklhnpnkinadaaDoor
end
section
set_option linter.unusedVariables false
set_option linter.unusedSimpArgs false
namespace Go.Vil
/-- An answer where more was touched. -/
def FAns.moreT (k : Nat) (a : FAns) : FAns := { a with numbers := if a.numbers.length = 10 then a.numbers.set 8 (a.numbers.getD 8 0 + k) else a.numbers }
namespace Sg
def moreT (k : Nat) (s : Sg) : Sg := { s with touched := s.touched + k }
theorem evac_moreT (k need now : Nat) (s : Sg) (row : Nat) : evac need now (moreT k s) row = moreT k (evac need now s row) := by
  refine evac_ind (motive := fun s row => evac need now (moreT k s) row = moreT k (evac need now s row)) need now ?_ ?_ ?_ ?_ ?_ s row
  · intro s row h
    rw [evac_full h, evac_full (s := moreT k s) h]
  · intro s row h hl
    rw [evac_nil hl, evac_nil (s := moreT k s) hl]
  · intro s row e l h hl hg ih
    rw [evac_gone h hl hg, evac_gone (s := moreT k s) h hl hg]
    exact ih
  · intro s row e l h hl hg hk ih
    rw [evac_keep h hl hg hk, evac_keep (s := moreT k s) h hl hg hk]
    exact ih
  · intro s row e l h hl hg hk ih
    rw [evac_drop h hl hg hk, evac_drop (s := moreT k s) h hl hg hk, ← ih]
    congr 1
    unfold dropS
    split <;> rfl
theorem add_moreT (k : Nat) (s : Sg) (e : En) (now : Nat) : add (moreT k s) e now = moreT k (add s e now) := by
  unfold add
  rw [evac_moreT]; rfl
theorem set_moreT (k : Nat) (s : Sg) (key value : List UInt8) (hash : Nat) (sec : Int) (now : Nat) : (moreT k s).set key value hash sec now = (moreT k (s.set key value hash sec now).1, (s.set key value hash sec now).2) := by
  unfold set
  rw [show (moreT k s).size = s.size from rfl, show ∀ a b c, (moreT k s).find a b c = s.find a b c from fun _ _ _ => rfl, show (moreT k s).list = s.list from rfl]
  split
  · rfl
  · split
    · rw [add_moreT]
    · split
      · rfl
      · rename_i i _ _
        have h := add_moreT k (s.at' i fun e => { e with gone := true })
        rw [← h]; rfl
theorem step_moreT (k : Nat) (s : Sg) (op : FOp) : (moreT k s).step op = (moreT k (s.step op).1, (s.step op).2.moreT k) := by
  have hf : ∀ a b c, (moreT k s).find a b c = s.find a b c := fun _ _ _ => rfl
  have hl : (moreT k s).list = s.list := rfl
  unfold step
  simp only [hf, hl, set_moreT]
  split
  · split <;> rfl
  · split
    · split
      · rfl
      · split <;> rfl
    · split
      · split <;> rfl
      · split
        · split
          · rfl
          · split
            · rfl
            · refine Prod.ext ?_ rfl
              show Sg.mk _ _ _ _ _ _ _ _ = Sg.mk _ _ _ _ _ _ _ _
              congr 1
              show s.touched + k + 1 = s.touched + 1 + k
              omega
        · split
          · split
            · rfl
            · split <;> rfl
          · split
            · split <;> rfl
            · split
              · refine Prod.ext rfl ?_
                show FAns.mk _ _ _ _ _ = FAns.mk _ _ _ _ _
                congr 1
              · split
                · rfl
                · split <;> rfl
theorem run_moreT (k : Nat) : ∀ (l : List FOp) (s : Sg), (moreT k s).run l = (s.run l).map (FAns.moreT k)
  | [], _ => rfl
  | op :: l, s => by
    show ((moreT k s).step op).2 :: run ((moreT k s).step op).1 l = _
    rw [step_moreT, run_moreT k l]; rfl
/-- Behind a clearing. -/
theorem run_clear (s : Sg) (key value : List UInt8) (ex : Int) (now hash : Nat) (l : List FOp) : s.run (⟨11, key, value, ex, now, hash⟩ :: l) = ok :: ((fresh s.size).run l).map (FAns.moreT s.touched) := by
  show ok :: run { fresh s.size with touched := s.touched } l = _
  have : ({ fresh s.size with touched := s.touched } : Sg) = moreT s.touched (fresh s.size) := by
    show _ = Sg.mk _ _ _ _ _ _ _ (0 + s.touched)
    rw [Nat.zero_add]
  rw [this, run_moreT]
/-- Without those that only look. -/
theorem run_looks : ∀ (l : List FOp) (s : Sg), s.endS (l.filter fun op => !looks op) = s.endS l ∧ ((l.zip (s.run l)).filter fun p => !looks p.1).map (·.2) = s.run (l.filter fun op => !looks op)
  | [], _ => ⟨rfl, rfl⟩
  | op :: l, s => by
    obtain ⟨h1, h2⟩ := run_looks l (s.step op).1
    cases hk : looks op with
    | true =>
      have h3 := step_looks s op hk
      rw [h3] at h1 h2
      rw [List.filter_cons_of_neg (by simp [hk])]
      refine ⟨h1.trans (by show s.endS l = endS (s.step op).1 l; rw [h3]), ?_⟩
      show (((op, (s.step op).2) :: l.zip (run (s.step op).1 l)).filter _).map _ = _
      rw [List.filter_cons_of_neg (by simp [hk]), h3]
      exact h2
    | false =>
      rw [List.filter_cons_of_pos (by simp [hk])]
      refine ⟨h1, ?_⟩
      show (((op, (s.step op).2) :: l.zip (run (s.step op).1 l)).filter _).map _ = (s.step op).2 :: run (s.step op).1 _
      rw [List.filter_cons_of_pos (by simp [hk]), List.map_cons, h2]
/-- All times later by so much. -/
def later (d : Nat) (e : En) : En := { e with access := e.access + d, expire := if e.expire = 0 then 0 else e.expire + d }
def lateS (d : Nat) (s : Sg) : Sg := { s with list := s.list.map (later d) }
theorem ended_late (d a now : Nat) : ended (if a = 0 then 0 else a + d) (now + d) = ended a now := by
  unfold ended
  by_cases h : a = 0
  · simp [h]
  · rw [if_neg h]
    by_cases h2 : a ≤ now
    · rw [decide_eq_true (by omega), decide_eq_true (by omega)]
    · rw [decide_eq_false (by omega), decide_eq_false (by omega)]
theorem ends_late (d now : Nat) (sec : Int) : ends (now + d) sec = if ends now sec = 0 then 0 else ends now sec + d := by
  unfold ends
  by_cases h : sec ≤ 0
  · rw [if_pos h, if_pos h, if_pos rfl]
  · rw [if_neg h, if_neg h, if_neg (by omega)]; omega
theorem times_late (d : Nat) : ∀ l : List En, times (l.map (later d)) = times l + d * l.length
  | [] => rfl
  | e :: l => by
    have h := times_late d l
    show (e.access + d) + times (l.map (later d)) = (e.access + times l) + d * (l.length + 1)
    rw [h, Nat.mul_add]; omega
theorem used_late (d : Nat) (l : List En) : used (l.map (later d)) = used l := by
  unfold used
  rw [List.map_map]; rfl
theorem count_late (d : Nat) : ∀ l : List En, count (l.map (later d)) = count l
  | [] => rfl
  | e :: l => by
    have h := count_late d l
    unfold count at *
    rw [List.map_cons]
    cases hg : e.gone with
    | true =>
      rw [List.filter_cons_of_neg (by simp [later, hg]), List.filter_cons_of_neg (by simp [hg])]
      exact h
    | false =>
      rw [List.filter_cons_of_pos (by simp [later, hg]), List.filter_cons_of_pos (by simp [hg]), List.length_cons, List.length_cons, h]
theorem keeps_late (d : Nat) (e : En) (l : List En) (now row : Nat) : keeps (later d e) (l.map (later d)) (now + d) row = keeps e l now row := by
  have h := times_late d (e :: l)
  rw [List.map_cons] at h
  unfold keeps
  rw [show ended (later d e).expire (now + d) = ended e.expire now from ended_late d e.expire now, h, List.length_map, show (later d e).access = e.access + d from rfl, Nat.add_mul, List.length_cons]
  congr 2
  by_cases hc : times (e :: l) < e.access * (l.length + 1)
  · rw [decide_eq_true hc, decide_eq_true (by omega)]
  · rw [decide_eq_false hc, decide_eq_false (by omega)]
theorem evac_late (d need now : Nat) (s : Sg) (row : Nat) : evac need (now + d) (lateS d s) row = lateS d (evac need now s row) := by
  have hfree : ∀ s : Sg, (lateS d s).free = s.free := fun s => by unfold free; rw [show (lateS d s).list = s.list.map (later d) from rfl, used_late]; rfl
  refine evac_ind (motive := fun s row => evac need (now + d) (lateS d s) row = lateS d (evac need now s row)) need now ?_ ?_ ?_ ?_ ?_ s row
  · intro s row h
    rw [evac_full h, evac_full (by rw [hfree]; exact h)]
  · intro s row h hl
    rw [evac_nil hl, evac_nil (s := lateS d s) (by show s.list.map _ = _; rw [hl]; rfl)]
  · intro s row e l h hl hg ih
    rw [evac_gone h hl hg, evac_gone (s := lateS d s) (e := later d e) (l := l.map (later d)) (by rw [hfree]; exact h) (by show s.list.map _ = _; rw [hl]; rfl) hg]
    exact ih
  · intro s row e l h hl hg hk ih
    rw [evac_keep h hl hg hk, evac_keep (s := lateS d s) (e := later d e) (l := l.map (later d)) (by rw [hfree]; exact h) (by show s.list.map _ = _; rw [hl]; rfl) hg (by rw [keeps_late]; exact hk), ← ih]
    congr 1
    unfold keepS lateS
    simp
  · intro s row e l h hl hg hk ih
    rw [evac_drop h hl hg hk, evac_drop (s := lateS d s) (e := later d e) (l := l.map (later d)) (by rw [hfree]; exact h) (by show s.list.map _ = _; rw [hl]; rfl) hg (by rw [keeps_late]; exact hk), ← ih]
    congr 1
    unfold dropS
    rw [show ended (later d e).expire (now + d) = ended e.expire now from ended_late d e.expire now]
    split <;> rfl
theorem modify_map {f g1 g2 : En → En} (h : ∀ e, g2 (f e) = f (g1 e)) : ∀ (l : List En) (i : Nat), (l.map f).modify i g2 = (l.modify i g1).map f
  | [], i => by simp
  | e :: l, 0 => by simp [h]
  | e :: l, i + 1 => by simpa using modify_map h l i
theorem find_late (d : Nat) (s : Sg) (a b : Nat) (key : List UInt8) : (lateS d s).find a b key = s.find a b key := by
  unfold find
  rw [show (lateS d s).list = s.list.map (later d) from rfl, List.findIdx?_map]; rfl
theorem getD_late (d : Nat) (l : List En) (i : Nat) : ((l.map (later d)).getD i ⟨0, 0, [], [], 0, 0, 0, true⟩).room = (l.getD i ⟨0, 0, [], [], 0, 0, 0, true⟩).room ∧
    ((l.map (later d)).getD i ⟨0, 0, [], [], 0, 0, 0, true⟩).value = (l.getD i ⟨0, 0, [], [], 0, 0, 0, true⟩).value ∧
    ((l.map (later d)).getD i ⟨0, 0, [], [], 0, 0, 0, true⟩).expire = (if (l.getD i ⟨0, 0, [], [], 0, 0, 0, true⟩).expire = 0 then 0 else (l.getD i ⟨0, 0, [], [], 0, 0, 0, true⟩).expire + d) := by
  rw [List.getD, List.getElem?_map, List.getD]
  cases l[i]? with
  | none => exact ⟨rfl, rfl, rfl⟩
  | some e => exact ⟨rfl, rfl, rfl⟩
theorem add_late (d : Nat) (s : Sg) (e : En) (now : Nat) : add (lateS d s) (later d e) (now + d) = lateS d (add s e now) := by
  unfold add
  rw [show (later d e).len = e.len from rfl, evac_late]
  unfold lateS
  simp
theorem set_late (d : Nat) (s : Sg) (key value : List UInt8) (hash : Nat) (sec : Int) (now : Nat) : (lateS d s).set key value hash sec (now + d) = (lateS d (s.set key value hash sec now).1, (s.set key value hash sec now).2) := by
  unfold set
  rw [show (lateS d s).size = s.size from rfl, find_late, show (lateS d s).list = s.list.map (later d) from rfl]
  split
  · rfl
  · split
    · rw [← add_late, ends_late]; rfl
    · rename_i i _
      obtain ⟨h1, _, _⟩ := getD_late d s.list i
      rw [h1]
      split
      · refine Prod.ext ?_ rfl
        show Sg.mk _ _ _ _ _ _ _ _ = Sg.mk _ _ _ _ _ _ _ _
        congr 1
        refine modify_map (f := later d) ?_ s.list i
        intro e
        simp only [later, ends_late]
      · refine Prod.ext ?_ rfl
        rw [← add_late, ends_late]
        show add _ _ _ = add _ _ _
        congr 1
        show Sg.mk _ _ _ _ _ _ _ _ = Sg.mk _ _ _ _ _ _ _ _
        congr 1
        refine modify_map (f := later d) ?_ s.list i
        intro e
        rfl
end Sg
/-- An answer where all times are later. -/
def FAns.late (d : Nat) (kind : Int) (a : FAns) : FAns :=
  { a with number := if (kind = 2 ∨ kind = 4) ∧ 0 < a.number then a.number + d else a.number, numbers := if a.numbers.length = 10 then a.numbers.set 4 (a.numbers.getD 4 0 + d * a.numbers.getD 3 0) else a.numbers }
def FOp.late (d : Nat) (op : FOp) : FOp := { op with now := op.now + d }
namespace Sg
theorem nums_late (d : Nat) (s : Sg) : (lateS d s).nums = [(s.missed : Int), s.hit, count s.list, s.list.length, times s.list + d * s.list.length, s.evacuated, s.expired, s.over, s.touched, s.free] := by
  have hfree : (lateS d s).free = s.free := by unfold free; rw [show (lateS d s).list = s.list.map (later d) from rfl, used_late]; rfl
  unfold nums
  rw [hfree, show (lateS d s).list = s.list.map (later d) from rfl, count_late, times_late, List.length_map]
  simp [lateS]
theorem step_late (d : Nat) (s : Sg) (op : FOp) : (lateS d s).step (op.late d) = (lateS d (s.step op).1, (s.step op).2.late d op.kind) := by
  have hl : (lateS d s).list = s.list.map (later d) := rfl
  have hbare : ∀ (f : Int) (b : Bool), (FAns.mk f [] 0 b []).late d op.kind = FAns.mk f [] 0 b [] := fun f b => by simp [FAns.late]
  have hmod : ∀ (f : En → En), (∀ e, f (later d e) = later d (f e)) → ∀ i, (s.list.map (later d)).modify i f = (s.list.modify i f).map (later d) := fun f hf i => modify_map hf s.list i
  unfold step
  simp only [find_late, hl, show (op.late d).kind = op.kind from rfl, show (op.late d).key = op.key from rfl, show (op.late d).value = op.value from rfl, show (op.late d).hash = op.hash from rfl, show (op.late d).expire = op.expire from rfl, show (op.late d).now = op.now + d from rfl, set_late]
  split
  · split <;> exact Prod.ext rfl (hbare _ _).symm
  · split
    · split
      · exact Prod.ext rfl (hbare _ _).symm
      · rename_i i _
        obtain ⟨_, hv, he⟩ := getD_late d s.list i
        rw [hv, he, ended_late]
        split
        · refine Prod.ext ?_ (hbare _ _).symm
          show Sg.mk _ _ _ _ _ _ _ _ = Sg.mk _ _ _ _ _ _ _ _
          congr 1
          refine modify_map (f := later d) ?_ s.list i
          intro e; rfl
        · refine Prod.ext ?_ ?_
          · show Sg.mk _ _ _ _ _ _ _ _ = Sg.mk _ _ _ _ _ _ _ _
            congr 1
            refine modify_map (f := later d) ?_ s.list i
            intro e; rfl
          · unfold FAns.late
            simp only [List.length_nil]
            congr 1
            by_cases h2 : op.kind = 2
            · simp only [h2, if_true, true_or, true_and]
              by_cases h3 : (s.list.getD i ⟨0, 0, [], [], 0, 0, 0, true⟩).expire = 0
              · rw [h3]; rfl
              · rw [if_neg h3, if_pos (by omega)]
            · rw [if_neg h2, if_neg h2]; simp
    · split
      · split
        · exact Prod.ext rfl (hbare _ _).symm
        · rename_i i _
          obtain ⟨_, hv, he⟩ := getD_late d s.list i
          rw [hv, he]
          refine Prod.ext rfl ?_
          unfold FAns.late
          simp only [List.length_nil]
          congr 1
          by_cases h2 : op.kind = 4
          · simp only [h2, if_true, or_true, true_and]
            by_cases h3 : (s.list.getD i ⟨0, 0, [], [], 0, 0, 0, true⟩).expire = 0
            · rw [h3]; rfl
            · rw [if_neg h3, if_pos (by omega)]
          · rw [if_neg h2, if_neg h2]; simp
      · split
        · split
          · exact Prod.ext rfl (hbare _ _).symm
          · rename_i i _
            obtain ⟨_, hv, he⟩ := getD_late d s.list i
            rw [he, ended_late]
            split
            · refine Prod.ext ?_ (hbare _ _).symm
              show Sg.mk _ _ _ _ _ _ _ _ = Sg.mk _ _ _ _ _ _ _ _
              congr 1
              refine modify_map (f := later d) ?_ s.list i
              intro e; rfl
            · refine Prod.ext ?_ (hbare _ _).symm
              show Sg.mk _ _ _ _ _ _ _ _ = Sg.mk _ _ _ _ _ _ _ _
              congr 1
              refine modify_map (f := later d) ?_ s.list i
              intro e
              simp only [later, ends_late]
        · split
          · split
            · exact Prod.ext rfl (hbare _ _).symm
            · rename_i i _
              have hk6 : op.kind = 6 := by assumption
              have h24 : ¬ (op.kind = 2 ∨ op.kind = 4) := by omega
              obtain ⟨_, hv, he⟩ := getD_late d s.list i
              rw [he, ended_late]
              split
              · exact Prod.ext rfl (hbare _ _).symm
              · refine Prod.ext rfl ?_
                unfold FAns.late
                simp only [List.length_nil, h24, false_and, if_false]
                congr 1
                by_cases h3 : (s.list.getD i ⟨0, 0, [], [], 0, 0, 0, true⟩).expire = 0
                · rw [h3]; rfl
                · rw [if_neg h3, if_pos (by omega), if_pos h3]; omega
          · split
            · split
              · exact Prod.ext rfl (hbare _ _).symm
              · rename_i i _
                refine Prod.ext ?_ (hbare _ _).symm
                show Sg.mk _ _ _ _ _ _ _ _ = Sg.mk _ _ _ _ _ _ _ _
                congr 1
                refine modify_map (f := later d) ?_ s.list i
                intro e; rfl
            · split
              · rename_i hk
                refine Prod.ext rfl ?_
                rw [nums_late]
                unfold FAns.late
                rw [hk]
                simp [nums]
              · split
                · exact Prod.ext rfl (hbare _ _).symm
                · split
                  · exact Prod.ext rfl (hbare _ _).symm
                  · exact Prod.ext rfl (hbare _ _).symm
theorem run_late (d : Nat) : ∀ (l : List FOp) (s : Sg), (lateS d s).run (l.map (FOp.late d)) = (l.zip (s.run l)).map fun p => p.2.late d p.1.kind
  | [], _ => rfl
  | op :: l, s => by
    show ((lateS d s).step (op.late d)).2 :: run ((lateS d s).step (op.late d)).1 (l.map (FOp.late d)) = _
    rw [step_late, run_late d l]; rfl
end Sg
end Go.Vil
end
section
namespace Go.Proofs.YtbklhnpnkinadaaDoor
open Go Go.RowKit Go.Vil
set_option linter.unusedVariables false
set_option linter.unusedSimpArgs false

/-- An operation within the bounds, at a time that is not before another one. -/
def riF (op : SOp) (now : Nat) : SOp := ⟨u64r op.kind % 13, op.key.take 200, op.value.take 400, op.expire.tmod 1000, now + op.now % 50, op.hash, op.own, op.is, op.num⟩
def cntOp (now : Nat) : SOp := ⟨10, [], [], 0, now, 0, false, false, 0⟩
def timeL : Nat → List SOp → List SOp
  | _, [] => []
  | t, x :: l => riF x t :: timeL (t + x.now % 50) l
def endT : Nat → List SOp → Nat
  | t, [] => t
  | t, x :: l => endT (t + x.now % 50) l
def segOps (ops : List SOp) : List SOp := timeL 1 (ops.take 80) ++ [cntOp (endT 1 (ops.take 80))]
theorem timeL_length : ∀ (l : List SOp) (t : Nat), (timeL t l).length = l.length
  | [], _ => rfl
  | x :: l, t => by simp [timeL, timeL_length l]
theorem endT_le : ∀ (l : List SOp) (t : Nat), t ≤ endT t l ∧ endT t l ≤ t + 49 * l.length
  | [], t => by simp [endT]
  | x :: l, t => by
    have := endT_le l (t + x.now % 50)
    have : x.now % 50 < 50 := Nat.mod_lt _ (by decide)
    simp only [endT, List.length_cons]
    omega
theorem timeL_snoc : ∀ (l : List SOp) (t : Nat) (x : SOp), timeL t (l ++ [x]) = timeL t l ++ [riF x (endT t l)]
  | [], t, x => rfl
  | y :: l, t, x => by simp [timeL, endT, timeL_snoc l]
theorem endT_snoc : ∀ (l : List SOp) (t : Nat) (x : SOp), endT t (l ++ [x]) = endT t l + x.now % 50
  | [], t, x => rfl
  | y :: l, t, x => by simp [endT, endT_snoc l]
theorem riF_ok (op : SOp) (t : Nat) (h : op.hash < 18446744073709551616) (ht : t ≤ 1000000000) : SOk (riF op t) := by
  have h1 : 0 ≤ u64r op.kind % 13 := Int.emod_nonneg _ (by decide)
  have h2 : u64r op.kind % 13 < 13 := Int.emod_lt_of_pos _ (by decide)
  have h3 : op.now % 50 < 50 := Nat.mod_lt _ (by decide)
  have h4 := Int.lt_tmod_of_pos op.expire (show (0 : Int) < 1000 by decide)
  have h5 := Int.tmod_lt_of_pos op.expire (show (0 : Int) < 1000 by decide)
  refine ⟨⟨h1, by show u64r op.kind % 13 ≤ 12; omega⟩, ?_, ?_, ⟨?_, ?_⟩, ?_, h⟩
  · show (op.key.take 200).length ≤ _; rw [List.length_take]; omega
  · show (op.value.take 400).length ≤ _; rw [List.length_take]; omega
  · show _ ≤ op.expire.tmod 1000; omega
  · show op.expire.tmod 1000 ≤ _; omega
  · show t + op.now % 50 ≤ _; omega
theorem timeL_ok : ∀ (l : List SOp) (t : Nat), (∀ op ∈ l, op.hash < 18446744073709551616) → t + 49 * l.length ≤ 1000000000 → ∀ op ∈ timeL t l, SOk op
  | [], _, _, _ => by simp [timeL]
  | x :: l, t, h, ht => by
    have h3 : x.now % 50 < 50 := Nat.mod_lt _ (by decide)
    simp only [List.length_cons] at ht
    intro op ho
    rcases List.mem_cons.1 ho with rfl | ho
    · exact riF_ok x t (h x (by simp)) (by omega)
    · exact timeL_ok l _ (fun o hm => h o (by simp [hm])) (by omega) op ho
theorem cntOp_ok (t : Nat) (ht : t ≤ 1000000000) : SOk (cntOp t) := ⟨⟨by show (0 : Int) ≤ 10; decide, by show (10 : Int) ≤ 12; decide⟩, Nat.zero_le _, Nat.zero_le _, ⟨by show (-1152921504606846976 : Int) ≤ 0; decide, by show (0 : Int) ≤ 1000000; decide⟩, by show t ≤ _; omega, by show (0 : Nat) < 18446744073709551616; decide⟩
theorem segOps_ok (ops : List SOp) (h : ∀ op ∈ ops, op.hash < 18446744073709551616) : ∀ op ∈ segOps ops, SOk op := by
  have hl : (ops.take 80).length ≤ 80 := by rw [List.length_take]; omega
  have he := endT_le (ops.take 80) 1
  intro op ho
  rcases List.mem_append.1 ho with ho | ho
  · exact timeL_ok _ _ (fun o hm => h o (List.mem_of_mem_take hm)) (by omega) op ho
  · rw [List.mem_singleton.1 ho]; exact cntOp_ok _ (by omega)
theorem segOps_length (ops : List SOp) : (segOps ops).length = (ops.take 80).length + 1 := by unfold segOps; rw [List.length_append, timeL_length]; rfl
theorem segOps_le (ops : List SOp) : (segOps ops).length ≤ 81 := by rw [segOps_length, List.length_take]; omega
theorem timed_time : ∀ (l : List SOp) (t : Nat) (b : List SOp), Timed (endT t l) b → Timed t (timeL t l ++ b)
  | [], _, _, h => h
  | x :: l, t, b, h => ⟨Nat.le_add_right _ _, timed_time l _ b h⟩
theorem segOps_timed (ops : List SOp) : Timed 0 (segOps ops) := by
  have h := timed_time (ops.take 80) 1 [cntOp (endT 1 (ops.take 80))] ⟨Nat.le_refl _, trivial⟩
  unfold segOps
  revert h
  cases timeL 1 (ops.take 80) ++ [cntOp (endT 1 (ops.take 80))] with
  | nil => intro _; trivial
  | cons x l => intro h; exact ⟨Nat.zero_le _, h.2⟩
theorem stotal_append (a b : List SOp) : stotal (a ++ b) = stotal a + stotal b := by unfold stotal; rw [List.map_append, List.sum_append]
theorem stotal_time : ∀ (l : List SOp) (t : Nat), stotal (timeL t l) ≤ 600 * l.length
  | [], _ => by simp [timeL, stotal]
  | x :: l, t => by
    have := stotal_time l (t + x.now % 50)
    show (x.key.take 200).length + (x.value.take 400).length + stotal (timeL (t + x.now % 50) l) ≤ 600 * (l.length + 1)
    rw [List.length_take, List.length_take]
    omega
theorem segOps_total (ops : List SOp) : stotal (segOps ops) ≤ 48000 := by
  have h := stotal_time (ops.take 80) 1
  have hl : (ops.take 80).length ≤ 80 := by rw [List.length_take]; omega
  unfold segOps
  rw [stotal_append]
  show _ + (0 + 0 + 0) ≤ _
  omega
end Go.Proofs.YtbklhnpnkinadaaDoor
end
section
namespace Go.Vil
open Go Go.RowKit
set_option linter.unusedVariables false
section
variable {P : Program} {ops : Array Oper} {md : Region.Mode}
/-- The first so many operations, in whatever order, each world in the class of what is done. -/
def anyH (P : Program) (md : Region.Mode) (ops : Array Oper) (n : Nat) (C : Array Bool → World → Prop) (L : Array Bool → Act → World → Prop) : Nat → Array Bool → Act → World → Prop
  | 0, listed, a, w => L listed a w
  | f + 1, listed, a, w => Region.ready md ops listed ≠ [] ∧ ∀ i ∈ Region.ready md ops listed, i < n ∧ stepG P ops i (fun a' w' => C (listed.setIfInBounds i true) w' ∧ anyH P md ops n C L f (listed.setIfInBounds i true) a' w') a w
theorem wpAny_of_anyH {n g : Nat} {C : Array Bool → World → Prop} {L : Array Bool → Act → World → Prop} {Q' : Exit → Act → World → Prop} (hL : ∀ listed a w, L listed a w → wpAny P md ops Q' g listed a w) :
    ∀ (f : Nat) (listed : Array Bool) (a : Act) (w : World), anyH P md ops n C L f listed a w → wpAny P md ops Q' (f + g) listed a w
  | 0, listed, a, w, h => by rw [Nat.zero_add]; exact hL _ _ _ h
  | f + 1, listed, a, w, h => by
    rw [show f + 1 + g = (f + g) + 1 by omega]
    exact ⟨fun h0 => absurd h0 h.1, fun i hi => wpOp_of_stepG (stepG_mono (fun a' w' h' => wpAny_of_anyH hL f _ a' w' h'.2) (h.2 i hi).2)⟩
theorem anyH_first {n i : Nat} {oi : Oper} {v : Value} {C : Array Bool → World → Prop} {L : Array Bool → Act → World → Prop} (hi : ops[i]? = some oi) (hsel : ∀ (j : Nat) (o : Oper) cs b, ops[j]? = some o → o.op ≠ .select cs b)
    (htw : ∀ listed, HeadInv md ops n listed → ∀ i, i < n → listed.getD i true = false → ∀ t, n ≤ t → t ∉ Region.ready md ops listed) (hin : i < n)
    (hdone : ∀ listed a w, L listed a w → ∀ j ∈ Region.ready md ops listed, n ≤ j) (hCi : ∀ (listed : Array Bool) (w : World), C (listed.setIfInBounds i true) w ↔ C listed w) :
    ∀ (f : Nat) (listed : Array Bool) (a : Act) (w : World), HeadInv md ops n listed →
      (∀ j oj, ops[j]? = some oj → j ≠ i → listed.getD j true = false → (∀ e ∈ oj.after, Region.binds md e = true → e.on ≠ i) → oi.apart ops oj = true) →
      i ∈ Region.ready md ops listed → C listed w → (∀ l', HeadInv md ops n l' → l'.getD i true = false → Still P ops (C l') oi v a) →
      anyH P md ops n C L f (listed.setIfInBounds i true) (a.put oi.dst v) w → anyH P md ops n C L (f + 1) listed a w := by
  intro f
  induction f with
  | zero =>
    intro listed a w inv _ hr hw hy H
    have hun := (mem_ready.1 hr).1
    refine ⟨fun h => (by rw [h] at hr; cases hr), fun j hj => ?_⟩
    have hjn : j < n := by
      rcases Nat.lt_or_ge j n with h | h
      · exact h
      · exact absurd hj (htw listed inv i hin hun j h)
    refine ⟨hjn, ?_⟩
    by_cases hji : j = i
    · subst hji; exact stepG_of_still hi hw (hy _ inv hun) ⟨(hCi _ _).2 hw, H⟩
    · have := hdone _ _ _ H j (ready_mono hj hji)
      omega
  | succ f ih =>
    intro listed a w inv hfree hr hw hy H
    have hun := (mem_ready.1 hr).1
    refine ⟨fun h => (by rw [h] at hr; cases hr), fun j hj => ?_⟩
    have hjn : j < n := by
      rcases Nat.lt_or_ge j n with h | h
      · exact h
      · exact absurd hj (htw listed inv i hin hun j h)
    refine ⟨hjn, ?_⟩
    by_cases hji : j = i
    · subst hji; exact stepG_of_still hi hw (hy _ inv hun) ⟨(hCi _ _).2 hw, H⟩
    · obtain ⟨hjun, oj, hoj, hall⟩ := mem_ready.1 hj
      have hnot : ∀ e ∈ oj.after, Region.binds md e = true → e.on ≠ i := fun e he hb heq => by
        have h1 := hall e he hb
        rw [heq, getD_both hun] at h1
        cases h1
      have hap := hfree j oj hoj hji hjun hnot
      obtain ⟨_, _, hap3⟩ := Oper.apart_spec hap
      have hfree' : ∀ k ok, ops[k]? = some ok → k ≠ i → (listed.setIfInBounds j true).getD k true = false →
          (∀ e ∈ ok.after, Region.binds md e = true → e.on ≠ i) → oi.apart ops ok = true := fun k ok hk hki hun hno => by
        refine hfree k ok hk hki ?_ hno
        by_cases hjk : j = k
        · subst hjk; exact hjun
        · rw [getD_set_ne true hjk] at hun; exact hun
      refine stepG_mono (fun a' w' h' => ?_) (stepG_put hoj hap (fun cs b => hsel j oj cs b hoj) (H.2 j (ready_mono hj hji)).2)
      obtain ⟨⟨u, D, rfl⟩, hCw', hrest⟩ := h'
      rw [Array.setIfInBounds_comm _ _ (Ne.symm hji)] at hCw'
      have hCw2 := (hCi _ _).1 hCw'
      refine ⟨hCw2, ih (listed.setIfInBounds j true) _ w' (inv.set hj hjn) hfree' (ready_mono hr (Ne.symm hji)) hCw2 (fun l' inv' hun' => (hy l' inv' hun').of_same ?_ ?_) ?_⟩
      · have e1 := execOp_put oi (fun cs b => hsel i oi cs b hi) ({ a with defers := D } : Act) oj.dst u hap3
        have e2 : ({ a with defers := D } : Act).eval = a.eval := by funext x; cases x <;> rfl
        rw [e1, e2]
      · exact wanted_put oi ({ a with defers := D } : Act) oj.dst u hap3
      rw [Array.setIfInBounds_comm _ _ hji]
      exact hrest

/-- Up to the operation that turns things the worlds are in a class. -/
def upTo (gs : Nat) (C1 : World → Prop) (listed : Array Bool) (w : World) : Prop := listed.getD gs false = false → C1 w
theorem upTo_ne {gs i : Nat} {C1 : World → Prop} (h : i ≠ gs) (listed : Array Bool) (w : World) : upTo gs C1 (listed.setIfInBounds i true) w ↔ upTo gs C1 listed w := by
  unfold upTo
  rw [getD_set_ne false h]
def waits (md : Region.Mode) (ops : Array Oper) (gs k : Nat) : Bool := match ops[gs]? with | some o => o.after.any (fun e => Region.binds md e && decide (e.on = k)) | none => false
/-- What only reads: with the mark, it reads what is turned later, and that waits for it. -/
def quietHB (md : Region.Mode) (ops : Array Oper) (n gs : Nat) : List (Nat × Bool) → Array Bool → Option (Array Bool)
  | [], listed => some listed
  | (k, b) :: l, listed => if (Region.ready md ops listed).contains k && Region.free md ops listed k && decide (k < n) && decide (k ≠ gs) && (!b || waits md ops gs k) then quietHB md ops n gs l (listed.setIfInBounds k true) else none
def qH (P : Program) (ops : Array Oper) (C1 : World → Prop) : List (Nat × Bool) → (Act → Prop) → Act → Prop
  | [], K, a => K a
  | (i, b) :: l, K, a => ∃ o v, ops[i]? = some o ∧ Still P ops (if b then C1 else fun _ => True) o v a ∧ qH P ops C1 l K (a.put o.dst v)
theorem Still.weak {C C' : World → Prop} {o : Oper} {v : Value} {a : Act} (h : Still P ops C o v a) (hc : ∀ w, C' w → C w) : Still P ops C' o v a := by
  rcases h with ⟨h1, h2⟩ | h
  · exact .inl ⟨h1, fun w hw => h2 w (hc w hw)⟩
  · exact .inr h
theorem anyH_quiet {n gs : Nat} {C1 : World → Prop} {L : Array Bool → Act → World → Prop} (hsel : Region.noSelect ops = true)
    (htw : ∀ listed, HeadInv md ops n listed → ∀ i, i < n → listed.getD i true = false → ∀ t, n ≤ t → t ∉ Region.ready md ops listed)
    (hdone : ∀ listed a w, L listed a w → ∀ j ∈ Region.ready md ops listed, n ≤ j) {K : Act → Prop} {w : World} (f : Nat) :
    ∀ (h : List (Nat × Bool)) (listed l : Array Bool) (a : Act), HeadInv md ops n listed → upTo gs C1 listed w → quietHB md ops n gs h listed = some l → qH P ops C1 h K a →
      (∀ a', HeadInv md ops n l → upTo gs C1 l w → K a' → anyH P md ops n (upTo gs C1) L f l a' w) → anyH P md ops n (upTo gs C1) L (h.length + f) listed a w
  | [], listed, l, a, inv, hw, hB, hq, hk => by
    simp only [quietHB, Option.some.injEq] at hB
    subst hB
    simpa using hk a inv hw hq
  | (i, b) :: h, listed, l, a, inv, hw, hB, hq, hk => by
    simp only [quietHB] at hB
    split at hB
    · rename_i hc
      simp only [Bool.and_eq_true, decide_eq_true_eq] at hc
      obtain ⟨⟨⟨⟨hr, hf⟩, hin⟩, hne⟩, hdep⟩ := hc
      obtain ⟨o, v, hi, hst, hrest⟩ := hq
      have hr' : i ∈ Region.ready md ops listed := by simpa using hr
      rw [show ((i, b) :: h).length + f = (h.length + f) + 1 by simp; omega]
      refine anyH_first hi (Region.noSelect_spec hsel) htw hin hdone (upTo_ne hne) (h.length + f) listed a w inv (Region.free_spec hi hf) hr' hw (fun l' inv' hun' => ?_)
        (anyH_quiet hsel htw hdone f h _ l _ (inv.set hr' hin) ((upTo_ne hne _ _).2 hw) hB hrest hk)
      cases b with
      | false => exact hst.weak fun _ _ => trivial
      | true =>
        refine hst.weak fun w' hw' => ?_
        show C1 w'
        refine hw' ?_
        simp only [Bool.not_true, Bool.false_or, waits] at hdep
        cases hgs : ops[gs]? with
        | none => rw [hgs] at hdep; cases hdep
        | some og =>
          rw [hgs] at hdep
          simp only [Array.any_eq_true', Bool.and_eq_true, decide_eq_true_eq] at hdep
          obtain ⟨e, he, hb, heq⟩ := hdep
          cases hg : l'.getD gs false with
          | false => rfl
          | true =>
            have h1 := inv'.closed gs og hgs hg e he hb
            rw [heq, getD_both hun'] at h1
            cases h1
    · cases hB
/-- In which order the operations are walked: up to the one that turns things, and behind it. -/
inductive PlanH where
  | one (h : List (Nat × Bool)) (g : Nat) (p : PlanH)
  | two (h : List (Nat × Bool)) (g1 : Nat) (p1 : PlanH) (g2 : Nat) (p2 : PlanH)
  | turn (h : List (Nat × Bool)) (segs : List (List Nat × Nat)) (last : List Nat)
def PlanH.len : PlanH → Nat
  | .one h _ p => h.length + 1 + p.len
  | .two h _ p _ _ => h.length + 1 + p.len
  | .turn h segs last => h.length + 1 + lengthG segs last
def planHB (md : Region.Mode) (ops : Array Oper) (n gs : Nat) : PlanH → Array Bool → Bool
  | .one h g p, listed => match quietHB md ops n gs h listed with
    | some l => decide (Region.ready md ops l = [g]) && decide (g < n) && decide (g ≠ gs) && planHB md ops n gs p (l.setIfInBounds g true)
    | none => false
  | .two h g1 p1 g2 p2, listed => match quietHB md ops n gs h listed with
    | some l => decide (Region.ready md ops l = [g1, g2]) && decide (g1 < n) && decide (g2 < n) && decide (g1 ≠ gs) && decide (g2 ≠ gs) && decide (p1.len = p2.len) && planHB md ops n gs p1 (l.setIfInBounds g1 true) && planHB md ops n gs p2 (l.setIfInBounds g2 true)
    | none => false
  | .turn h segs last, listed => match quietHB md ops n gs h listed with
    | some l => decide (Region.ready md ops l = [gs]) && decide (gs < n) && orderB md ops n segs last (l.setIfInBounds gs true)
    | none => false
def walkH (P : Program) (ops : Array Oper) (C1 : World → Prop) (gs : Nat) (Q : Act → World → Prop) : PlanH → Act → World → Prop
  | .one h g p, a, w => qH P ops C1 h (fun a' => stepG P ops g (fun a'' w'' => C1 w'' ∧ walkH P ops C1 gs Q p a'' w'') a' w) a
  | .two h g1 p1 g2 p2, a, w => qH P ops C1 h (fun a' => stepG P ops g1 (fun a'' w'' => C1 w'' ∧ walkH P ops C1 gs Q p1 a'' w'') a' w ∧ stepG P ops g2 (fun a'' w'' => C1 w'' ∧ walkH P ops C1 gs Q p2 a'' w'') a' w) a
  | .turn h segs last, a, w => qH P ops C1 h (fun a' => stepG P ops gs (fun a'' w'' => walkG P ops Q segs last (fun _ => True) a'' w'') a' w) a
theorem anyH_of_anyG {n gs : Nat} {C1 C : World → Prop} {L : Array Bool → Act → World → Prop} : ∀ (f : Nat) (listed : Array Bool) (a : Act) (w : World), listed.getD gs false = true → anyG P md ops n L f C listed a w → anyH P md ops n (upTo gs C1) L f listed a w
  | 0, _, _, _, _, h => h
  | f + 1, listed, a, w, hg, h => ⟨h.1, fun i hi => ⟨(h.2 i hi).1, stepG_mono (fun a' w' h' => by
      have h2 : (listed.setIfInBounds i true).getD gs false = true := by
        by_cases hig : i = gs
        · subst hig
          rcases Nat.lt_or_ge i listed.size with hl | hl
          · simp [hl]
          · simp [hl] at hg
        · rw [getD_set_ne false hig]; exact hg
      exact ⟨fun hc => (by rw [h2] at hc; cases hc), anyH_of_anyG f _ _ _ h2 h'.2⟩) (h.2 i hi).2⟩⟩
theorem anyH_plan {n gs : Nat} {C1 : World → Prop} {Qt : Act → World → Prop} (hsel : Region.noSelect ops = true)
    (htw : ∀ listed, HeadInv md ops n listed → ∀ i, i < n → listed.getD i true = false → ∀ t, n ≤ t → t ∉ Region.ready md ops listed) :
    ∀ (p : PlanH) (listed : Array Bool) (a : Act) (w : World), HeadInv md ops n listed → planHB md ops n gs p listed = true → upTo gs C1 listed w → walkH P ops C1 gs Qt p a w →
      anyH P md ops n (upTo gs C1) (fun listed a w => Region.seqB md ops (ops.size - n) n listed = true ∧ Qt a w) p.len listed a w := by
  intro p
  induction p with
  | one q g p ih =>
    intro listed a w inv hB hw h
    simp only [planHB] at hB
    split at hB
    · rename_i l hl
      simp only [Bool.and_eq_true, decide_eq_true_eq] at hB
      obtain ⟨⟨⟨hr, hg⟩, hne⟩, hB'⟩ := hB
      have := anyH_quiet (L := fun listed a w => Region.seqB md ops (ops.size - n) n listed = true ∧ Qt a w) hsel htw (fun _ _ _ hL => seqB_ready hL.1) (1 + p.len) q listed l a inv hw hl h (fun a' inv' hw' hk => by
        rw [Nat.add_comm]
        refine ⟨by rw [hr]; simp, fun i hi => ?_⟩
        rw [hr] at hi
        obtain rfl : i = g := by simpa using hi
        exact ⟨hg, stepG_mono (fun a'' w'' ⟨hC', hrest⟩ => ⟨fun _ => hC', ih _ a'' w'' (inv'.set (by rw [hr]; simp) hg) hB' (fun _ => hC') hrest⟩) hk⟩)
      rw [PlanH.len, Nat.add_assoc]
      exact this
    · cases hB
  | two q g1 p1 g2 p2 ih1 ih2 =>
    intro listed a w inv hB hw h
    simp only [planHB] at hB
    split at hB
    · rename_i l hl
      simp only [Bool.and_eq_true, decide_eq_true_eq] at hB
      obtain ⟨⟨⟨⟨⟨⟨⟨hr, hg1⟩, hg2⟩, hn1⟩, hn2⟩, hlen⟩, hB1⟩, hB2⟩ := hB
      have := anyH_quiet (L := fun listed a w => Region.seqB md ops (ops.size - n) n listed = true ∧ Qt a w) hsel htw (fun _ _ _ hL => seqB_ready hL.1) (1 + p1.len) q listed l a inv hw hl h (fun a' inv' hw' hk => by
        rw [Nat.add_comm]
        refine ⟨by rw [hr]; simp, fun i hi => ?_⟩
        rw [hr] at hi
        have hi2 : i = g1 ∨ i = g2 := by simpa using hi
        rcases hi2 with rfl | rfl
        · exact ⟨hg1, stepG_mono (fun a'' w'' ⟨hC', hrest⟩ => ⟨fun _ => hC', ih1 _ a'' w'' (inv'.set (by rw [hr]; simp) hg1) hB1 (fun _ => hC') hrest⟩) hk.1⟩
        · rw [hlen]
          exact ⟨hg2, stepG_mono (fun a'' w'' ⟨hC', hrest⟩ => ⟨fun _ => hC', ih2 _ a'' w'' (inv'.set (by rw [hr]; simp) hg2) hB2 (fun _ => hC') hrest⟩) hk.2⟩)
      rw [PlanH.len, Nat.add_assoc]
      exact this
    · cases hB
  | turn q segs last =>
    intro listed a w inv hB hw h
    simp only [planHB] at hB
    split at hB
    · rename_i l hl
      simp only [Bool.and_eq_true, decide_eq_true_eq] at hB
      obtain ⟨⟨hr, hg⟩, hB'⟩ := hB
      have := anyH_quiet (L := fun listed a w => Region.seqB md ops (ops.size - n) n listed = true ∧ Qt a w) hsel htw (fun _ _ _ hL => seqB_ready hL.1) (1 + lengthG segs last) q listed l a inv hw hl h (fun a' inv' hw' hk => by
        rw [Nat.add_comm]
        refine ⟨by rw [hr]; simp, fun i hi => ?_⟩
        rw [hr] at hi
        obtain rfl : i = gs := by simpa using hi
        have hset : (l.setIfInBounds i true).getD i false = true := by
          obtain ⟨_, o, ho, _⟩ := mem_ready.1 (show i ∈ Region.ready md ops l by rw [hr]; simp)
          have hl : i < l.size := by rw [inv'.size]; exact (Array.getElem?_eq_some_iff.1 ho).1
          simp [hl]
        refine ⟨hg, stepG_mono (fun a'' w'' hrest => ⟨fun hc => (by rw [hset] at hc; cases hc), ?_⟩) hk⟩
        exact anyH_of_anyG _ _ _ _ hset (anyG_order (md := md) hsel htw segs last _ _ a'' w'' (inv'.set (by rw [hr]; simp) hg) hB' trivial hrest))
      rw [PlanH.len, Nat.add_assoc]
      exact this
    · cases hB
theorem wp_regionH {id : Nat} {Q : Exit → Act → World → Prop} {a : Act} {w : World} {l : List Oper} {C1 : World → Prop} (n gs : Nat) (p : PlanH) (hm : P.follows .mixedOrders = true)
    (hB : (Region.noSelect l.toArray && tailB .any l.toArray n && planHB .any l.toArray n gs p (Array.replicate l.length false) && decide (p.len = n)) = true) (hC : C1 w.drew)
    (h : walkH P l.toArray C1 gs (fun a w => wpList P l.toArray Q (l.drop n) a w) p a w.drew) : (Code.region id l.toArray true).wp P Q a w := by
  simp only [Bool.and_eq_true, decide_eq_true_eq] at hB
  obtain ⟨⟨⟨hsel, ht⟩, ho⟩, hlen⟩ := hB
  have htw : ∀ listed, HeadInv .any l.toArray n listed → ∀ i, i < n → listed.getD i true = false → ∀ t, n ≤ t → t ∉ Region.ready .any l.toArray listed := by
    intro listed inv i hi hun t ht' hr
    simp only [tailB, Bool.or_eq_true, Bool.and_eq_true, decide_eq_true_eq] at ht
    rcases ht with rfl | ⟨⟨hn, hs⟩, hc⟩
    · obtain ⟨_, o, ho, _⟩ := mem_ready.1 hr
      have := (Array.getElem?_eq_some_iff.1 ho).1
      omega
    · exact tail_waits hs hc hn inv _ i rfl hi hun t ht' hr
  have hnl : n ≤ l.length := by
    simp only [tailB, Bool.or_eq_true, Bool.and_eq_true, decide_eq_true_eq] at ht
    rcases ht with h | ⟨⟨h, _⟩, _⟩
    · rw [h]; simp
    · have : n < l.length := by simpa using h
      omega
  have inv0 : HeadInv .any l.toArray n (Array.replicate l.length false) :=
    ⟨by simp, fun j oj _ hl => (by rw [getD_replicate_false] at hl; cases hl), fun t _ ht => getD_in (by simpa using ht) (getD_replicate_false _ _)⟩
  have H := anyH_plan (md := .any) hsel htw p _ a w.drew inv0 ho (fun _ => hC) h
  refine wp_region_any hm ?_
  have hdl : (l.drop n).length = l.toArray.size - n := by simp
  have := wpAny_of_anyH (Q' := Q) (g := l.toArray.size - n) (fun listed a' w' hL => by
    have := wpAny_of_seq (md := .any) (Q' := Q) (l.drop n) n listed a' w' (fun j => by simp [List.getElem?_drop]) (by rw [hdl]; exact hL.1) hL.2
    rwa [hdl] at this) _ _ _ _ H
  rw [hlen, show n + (l.toArray.size - n) = l.toArray.size by simp; omega] at this
  simpa using this
def wpQH (P : Program) (l : List Oper) (C1 : World → Prop) : List (Nat × Bool) → (Act → Prop) → Act → Prop
  | [], K, a => K a
  | (i, true) :: r, K, a => wpQuiet P l.toArray C1 (fun a' => wpQH P l C1 r K a') (pick l [i]) a
  | (i, false) :: r, K, a => wpQuiet P l.toArray (fun _ => True) (fun a' => wpQH P l C1 r K a') (pick l [i]) a
def fitsQ (l : List Oper) : List (Nat × Bool) → Bool
  | [] => true
  | (i, _) :: r => inB l [i] && quietOps (pick l [i]) && fitsQ l r
theorem qH_of_wpQH {l : List Oper} {C1 : World → Prop} {K : Act → Prop} : ∀ (h : List (Nat × Bool)) (a : Act), fitsQ l h = true → wpQH P l C1 h K a → qH P l.toArray C1 h K a
  | [], a, _, hq => hq
  | (i, true) :: r, a, hf, hq => by
    simp only [fitsQ, Bool.and_eq_true] at hf
    obtain ⟨⟨h1, h2⟩, h3⟩ := hf
    obtain ⟨o, v, e1, e2, e3⟩ := qI_of_wpQuiet [i] a h1 h2 hq
    exact ⟨o, v, e1, by simpa using e2, qH_of_wpQH r _ h3 e3⟩
  | (i, false) :: r, a, hf, hq => by
    simp only [fitsQ, Bool.and_eq_true] at hf
    obtain ⟨⟨h1, h2⟩, h3⟩ := hf
    obtain ⟨o, v, e1, e2, e3⟩ := qI_of_wpQuiet [i] a h1 h2 hq
    exact ⟨o, v, e1, by simpa using e2, qH_of_wpQH r _ h3 e3⟩
theorem wpQH_mono {l : List Oper} {C1 : World → Prop} {K K' : Act → Prop} (hk : ∀ a, K a → K' a) : ∀ (h : List (Nat × Bool)) (a : Act), wpQH P l C1 h K a → wpQH P l C1 h K' a
  | [], a, hq => hk a hq
  | (i, true) :: r, a, hq => wpQuiet_mono (fun a' h' => wpQH_mono hk r a' h') _ _ hq
  | (i, false) :: r, a, hq => wpQuiet_mono (fun a' h' => wpQH_mono hk r a' h') _ _ hq
def walkHS (P : Program) (l : List Oper) (C1 : World → Prop) (gs : Nat) (Q : Act → World → Prop) : PlanH → Act → World → Prop
  | .one h g p, a, w => wpQH P l C1 h (fun a' => wpList P l.toArray (Qn fun a'' w'' => C1 w'' ∧ walkHS P l C1 gs Q p a'' w'') (pick l [g]) a' w) a
  | .two h g1 p1 g2 p2, a, w => wpQH P l C1 h (fun a' => wpList P l.toArray (Qn fun a'' w'' => C1 w'' ∧ walkHS P l C1 gs Q p1 a'' w'') (pick l [g1]) a' w ∧
      wpList P l.toArray (Qn fun a'' w'' => C1 w'' ∧ walkHS P l C1 gs Q p2 a'' w'') (pick l [g2]) a' w) a
  | .turn h segs last, a, w => wpQH P l C1 h (fun a' => wpList P l.toArray (Qn fun a'' w'' => walkC P l (fun _ => True) Q segs last a'' w'') (pick l [gs]) a' w) a
def fitsH (l : List Oper) (gs : Nat) : PlanH → Bool
  | .one h g p => fitsQ l h && decide (g < l.length) && fitsH l gs p
  | .two h g1 p1 g2 p2 => fitsQ l h && decide (g1 < l.length) && decide (g2 < l.length) && fitsH l gs p1 && fitsH l gs p2
  | .turn h segs last => fitsQ l h && decide (gs < l.length) && fitsSt l segs last
theorem walkH_of_walkHS {l : List Oper} {C1 : World → Prop} {gs : Nat} {Q : Act → World → Prop} : ∀ (p : PlanH) (a : Act) (w : World), fitsH l gs p = true → walkHS P l C1 gs Q p a w → walkH P l.toArray C1 gs Q p a w := by
  intro p
  induction p with
  | one q g p ih =>
    intro a w hf h
    simp only [fitsH, Bool.and_eq_true, decide_eq_true_eq] at hf
    obtain ⟨⟨h1, h2⟩, h3⟩ := hf
    have hg : l[g]? = some l[g] := List.getElem?_eq_getElem h2
    refine qH_of_wpQH _ _ h1 (wpQH_mono (fun a' hk => ?_) _ _ h)
    simp only [pick, hg] at hk
    exact stepG_mono (fun a'' w'' ⟨hC, hrest⟩ => ⟨hC, ih a'' w'' h3 hrest⟩) (stepG_of_wpList (o := l[g]) (by simp [hg]) hk)
  | two q g1 p1 g2 p2 ih1 ih2 =>
    intro a w hf h
    simp only [fitsH, Bool.and_eq_true, decide_eq_true_eq] at hf
    obtain ⟨⟨⟨⟨h1, h2⟩, h2'⟩, h3⟩, h4⟩ := hf
    have hg1 : l[g1]? = some l[g1] := List.getElem?_eq_getElem h2
    have hg2 : l[g2]? = some l[g2] := List.getElem?_eq_getElem h2'
    refine qH_of_wpQH _ _ h1 (wpQH_mono (fun a' hk => ?_) _ _ h)
    simp only [pick, hg1, hg2] at hk
    exact ⟨stepG_mono (fun a'' w'' ⟨hC, hrest⟩ => ⟨hC, ih1 a'' w'' h3 hrest⟩) (stepG_of_wpList (o := l[g1]) (by simp [hg1]) hk.1), stepG_mono (fun a'' w'' ⟨hC, hrest⟩ => ⟨hC, ih2 a'' w'' h4 hrest⟩) (stepG_of_wpList (o := l[g2]) (by simp [hg2]) hk.2)⟩
  | turn q segs last =>
    intro a w hf h
    simp only [fitsH, Bool.and_eq_true, decide_eq_true_eq] at hf
    obtain ⟨⟨h1, h2⟩, h3⟩ := hf
    have hg : l[gs]? = some l[gs] := List.getElem?_eq_getElem h2
    refine qH_of_wpQH _ _ h1 (wpQH_mono (fun a' hk => ?_) _ _ h)
    simp only [pick, hg] at hk
    exact stepG_mono (fun a'' w'' hrest => walkG_of_walkC segs last a'' w'' h3 hrest) (stepG_of_wpList (o := l[gs]) (by simp [hg]) hk)
/-- A region that draws, by such a plan; up to the operation gs what only reads does so in the things of Lc. -/
theorem St.regionH {id : Nat} {Q : Exit → Act → World → Prop} {a : Act} {w w0 : World} {bs : List Nat} {L : List Res} {l : List Oper} (S : St w0 bs w L) (Lc : List Res) (n gs : Nat) (p : PlanH)
    (h : ∀ w', Chg [] w w' → St w0 bs w' L → St w0 bs w' Lc → walkHS P l (fun w'' => ∃ p : StW w' w0 bs Lc, w'' = p.w) gs (fun a w => wpList P l.toArray Q (l.drop n) a w) p a w')
    (hs : Sel Lc L := by repeat (first | exact Sel.nil | (apply Sel.cons; (repeat (first | exact Pull.head | apply Pull.tail)))))
    (hf : fitsH l gs p = true := by kernel_rfl)
    (hm : P.follows .mixedOrders = true := by kernel_rfl)
    (hB : (Region.noSelect l.toArray && tailB .any l.toArray n && planHB .any l.toArray n gs p (Array.replicate l.length false) && decide (p.len = n)) = true := by kernel_rfl) : (Code.region id l.toArray true).wp P Q a w :=
  wp_regionH (C1 := fun w' => ∃ p : StW w.drew w0 bs Lc, w' = p.w) n gs p hm hB ⟨⟨w.drew, .inl rfl⟩, rfl⟩ (walkH_of_walkHS p a w.drew hf (h _ ⟨rfl, rfl, rfl, Nat.le_refl _, fun _ _ _ => rfl⟩ S.drew (S.drew.sel hs)))
end
end Go.Vil
end
section
namespace Go.Vil
open Go Go.RowKit Go.ChangeShapes Go.WideShapes Go.ChangeAt

/-- Bytes that came in. -/
theorem open_bytes {H : Type} {enc : TypeId × Value → H} {P : Program} {w : World} {base base' : Nat} {spare : Nat → Bool} {held : Bool} {r : Reach} {t e : TypeId} {v : Value} {d : DataW H} {ps : List MemPlace} (ht : P.underlying t = some (.slice e)) (he : P.underlying e = some (.int .u8)) (hc : P.cellsOf e = 1)
    (hval : Value.okWide P w r base' t v) (hd : DataW.Trod enc P w base spare held t v d ps) :
    ∃ (n : Nat) (l : List UInt8), Src w 1 v n (u8s l) ∧ l.length = n ∧ (∃ a c, v = .slice a n c ∧ n ≤ maxLen ∧ n ≤ c) := by
  obtain ⟨a0, len, cap, rfl⟩ := okWide_slice ht hval
  obtain ⟨fuel, hf⟩ := hd
  rcases open_ints ht he hc hf with ⟨hcs, hx⟩ | ⟨a, len', cap', zs, hcs, _, hl, hm, hz, hx, hcell, hwz⟩
  · simp [Value.cells] at hcs
    obtain ⟨rfl, rfl, rfl⟩ := hcs
    exact ⟨0, [], Src.nil w 1 0, rfl, none, 0, rfl, by simp [maxLen], Nat.le_refl _⟩
  · simp [Value.cells] at hcs
    obtain ⟨rfl, rfl, rfl⟩ := hcs
    have hlen : len ≤ zs.length := by rw [hz]; split <;> omega
    refine ⟨len, (zs.take len).map fun z => UInt8.ofNat z.toNat, ?_, by simp; omega, some a, cap, rfl, Nat.le_trans hl hm, hl⟩
    refine Src.cells (by simp; omega) (u8s_one _) fun j u hu => ?_
    rw [u8s_get?, List.getElem?_map, List.getElem?_take] at hu
    split at hu
    · rename_i hj
      have hjz : j < zs.length := by omega
      have hw := hwz zs[j] (List.getElem_mem hjz)
      rw [List.getElem?_eq_getElem hjz] at hu
      simp only [Option.map_some, Option.some.injEq] at hu
      subst hu
      rw [hcell j hjz]
      simp only [List.getD, List.getElem?_eq_getElem hjz, Option.getD_some, Option.some.injEq, Value.int.injEq, true_and]
      rw [UInt8.toNat_ofNat']
      simp [Lit.wf, IntKind.min, IntKind.max, IntKind.signed, IntKind.bits] at hw
      omega
    · simp at hu
end Go.Vil
end
section
namespace Go.Vil
open Go Go.RowKit Go.ChangeShapes Go.WideShapes Go.ChangeAt Go.Deep
set_option linter.unusedVariables false

section
variable {H : Type} {enc : TypeId × Value → H} {P : Program} {w : World} {base : Nat} {spare : Nat → Bool} {held : Bool}
/-- Bytes in a cell that came in. -/
theorem open_bytesC {t e : TypeId} {fuel : Nat} {v : Value} {x : DataW H × List MemPlace} (ht : P.underlying t = some (.slice e)) (he : P.underlying e = some (.int .u8)) (hc : P.cellsOf e = 1) (hf : DataW.trod enc P w base spare held fuel t [v] = some x) :
    ∃ (n : Nat) (l : List UInt8), Src w 1 v n (u8s l) ∧ l.length = n ∧ (∃ a c, v = .slice a n c ∧ n ≤ maxLen ∧ n ≤ c) := by
  rcases open_ints ht he hc hf with ⟨hcs, hx⟩ | ⟨a, len', cap', zs, hcs, _, hl, hm, hz, hx, hcell, hwz⟩
  · simp only [List.cons.injEq, and_true] at hcs
    subst hcs
    exact ⟨0, [], Src.nil w 1 0, rfl, none, 0, rfl, by simp [maxLen], Nat.le_refl _⟩
  · simp only [List.cons.injEq, and_true] at hcs
    subst hcs
    have hlen : len' ≤ zs.length := by rw [hz]; split <;> omega
    refine ⟨len', (zs.take len').map fun z => UInt8.ofNat z.toNat, ?_, by simp; omega, some a, cap', rfl, Nat.le_trans hl hm, hl⟩
    refine Src.cells (by simp; omega) (u8s_one _) fun j u hu => ?_
    rw [u8s_get?, List.getElem?_map, List.getElem?_take] at hu
    split at hu
    · rename_i hj
      have hjz : j < zs.length := by omega
      have hw := hwz zs[j] (List.getElem_mem hjz)
      rw [List.getElem?_eq_getElem hjz] at hu
      simp only [Option.map_some, Option.some.injEq] at hu
      subst hu
      rw [hcell j hjz]
      simp only [List.getD, List.getElem?_eq_getElem hjz, Option.getD_some, Option.some.injEq, Value.int.injEq, true_and]
      rw [UInt8.toNat_ofNat']
      simp [Lit.wf, IntKind.min, IntKind.max, IntKind.signed, IntKind.bits] at hw
      omega
    · simp at hu

theorem each_of_index {α β : Type} {R : α → β → Prop} : ∀ (n : Nat) (f : Nat → α) (g : Nat → β), (∀ i, i < n → R (f i) (g i)) → Each R ((List.range n).map f) ((List.range n).map g) := by
  intro n f g h
  refine Each.of_get (by simp) fun i a b h1 h2 => ?_
  rw [List.getElem?_map] at h1 h2
  by_cases hi : i < n
  · rw [List.getElem?_range hi] at h1 h2
    simp only [Option.map_some, Option.some.injEq] at h1 h2
    subst h1 h2
    exact h i hi
  · rw [List.getElem?_eq_none (by simpa using hi)] at h1
    cases h1

/-- A slice of elements that are opened each by itself. -/
theorem open_arr {α : Type} [Inhabited α] {R : World → α → List Value → Prop} {size : Nat} {base' : Nat} {r : Reach} {t e : TypeId} {v : Value} {d : DataW H} {ps : List MemPlace} (ht : P.underlying t = some (.slice e)) (hc : P.cellsOf e = size) (hsz : 0 < size)
    (hel : ∀ (fuel : Nat) (cs : List Value) (x : DataW H × List MemPlace), cs.length = size → DataW.trod enc P w base spare held fuel e cs = some x → ∃ a, R w a cs)
    (hone : ∀ a cs, R w a cs → ∀ u ∈ cs, u.oneCell' = true)
    (hval : Value.okWide P w r base' t v) (hd : DataW.Trod enc P w base spare held t v d ps) : ∃ xs : List α, Arr R size w v xs := by
  obtain ⟨a0, len, cap, rfl⟩ := okWide_slice ht hval
  obtain ⟨fuel, hf⟩ := hd
  rcases open_slice ht hf with ⟨hcs, hx⟩ | ⟨a, len', cap', m, n, D, Pl, hcs, hb, hl, hm, hmm, hx, hall⟩
  · simp [Value.cells] at hcs
    obtain ⟨rfl, rfl, rfl⟩ := hcs
    exact ⟨[], Arr.nil R size w⟩
  · simp [Value.cells] at hcs
    obtain ⟨rfl, rfl, rfl⟩ := hcs
    have hlm : len ≤ m := by rw [hmm]; split <;> omega
    obtain ⟨g, hg⟩ := choose_lt (α := List Value) (n := len) (p := fun i cs => cs.length = size ∧ (∀ j, j < size → w.cell? ((a.add (i * size)).add j) = cs[j]?) ∧ ∃ x, R w x cs) (fun i hi => by
      obtain ⟨cs', h1, h2⟩ := hall i (by omega)
      rw [hc] at h1
      obtain ⟨_, h3, h4⟩ := World.cells?_some h1
      exact ⟨cs', h3, h4, hel n cs' _ h3 h2⟩)
    obtain ⟨f, hff⟩ := choose_lt (α := α) (n := len) (p := fun i x => R w x (g i)) (fun i hi => (hg i hi).2.2)
    have hlen : ((List.range len).map f).length = len := by simp
    have hsizes : ∀ cs ∈ (List.range len).map g, cs.length = size := by
      intro cs hcs
      obtain ⟨i, hi, rfl⟩ := List.mem_map.1 hcs
      exact (hg i (List.mem_range.1 hi)).1
    have hflat : ((List.range len).map g).flatten.length = len * size := by rw [flat_len hsizes]; simp
    refine ⟨(List.range len).map f, some a, cap, (List.range len).map g, by rw [hlen], by rw [hlen]; exact hl, each_of_index len f g fun i hi => ⟨hff i hi, (hg i hi).1⟩, ?_⟩
    rw [hlen]
    refine Src.cells hflat (fun u hu => ?_) fun j u hu => ?_
    · obtain ⟨cs, hcs, hu⟩ := List.mem_flatten.1 hu
      obtain ⟨i, hi, rfl⟩ := List.mem_map.1 hcs
      exact hone _ _ (hff i (List.mem_range.1 hi)) u hu
    · have hj := (List.getElem?_eq_some_iff.1 hu).1
      rw [hflat] at hj
      have hq : j / size < len := (Nat.div_lt_iff_lt_mul hsz).2 hj
      have hr : j % size < size := Nat.mod_lt _ hsz
      have hjj : j / size * size + j % size = j := by rw [Nat.mul_comm]; exact Nat.div_add_mod j size
      have hget : ((List.range len).map g)[j / size]? = some (g (j / size)) := by rw [List.getElem?_map, List.getElem?_range hq]; rfl
      have h5 := flat_get hsizes (j / size) _ (j % size) hget hr
      rw [hjj, hu] at h5
      have h6 := (hg (j / size) hq).2.1 (j % size) hr
      rw [Go.Deep.add_add, hjj] at h6
      rw [h6, ← h5]
end
end Go.Vil
end
section
namespace Go.Proofs.YtbklhnpnkinadaaDoor
open Go Go.RowKit Go.ChangeShapes Go.WideShapes Go.ChangeAt Go.Deep Go.Vil
set_option linter.unusedSimpArgs false
set_option linter.unusedVariables false
set_option maxRecDepth 100000

/-- Bytes in a cell. -/
def BytesV (w : World) (d : List UInt8) (cs : List Value) : Prop := ∃ oa c, cs = [.slice oa d.length c] ∧ Src w 1 (.slice oa d.length c) d.length (u8s d) ∧ d.length ≤ c
theorem BytesV.on {w w' : World} {d : List UInt8} {cs : List Value} (h : BytesV w d cs) (C : Chg [] w w') : BytesV w' d cs := by
  obtain ⟨oa, c, h1, h2, h3⟩ := h
  exact ⟨oa, c, h1, h2.on C, h3⟩
theorem BytesV.one {w : World} {d : List UInt8} {cs : List Value} (h : BytesV w d cs) : ∀ u ∈ cs, u.oneCell' = true := by
  obtain ⟨oa, c, rfl, _⟩ := h
  intro u hu
  simp at hu
  subst hu; rfl
theorem open_bss {H : Type} {enc : TypeId × Value → H} {w : World} {base base' : Nat} {spare : Nat → Bool} {held : Bool} {r : Reach} {v : Value} {d : DataW H} {ps : List MemPlace}
    (hval : Value.okWide Tryd.prog w r base' 45 v) (hd : DataW.Trod enc Tryd.prog w base spare held 45 v d ps) : ∃ l : List (List UInt8), Arr BytesV 1 w v l := by
  refine open_arr Tryd.underlying45 (e := 22) (by kernel_rfl) (by decide) ?_ (fun a cs h => BytesV.one h) hval hd
  intro fuel cs x hl hx
  match cs, hl with
  | [c0], _ =>
    obtain ⟨m, l, h1, h2, a, c, h3, h4, h5⟩ := open_bytesC Tryd.underlying22 Tryd.underlying5 (by kernel_rfl) hx
    subst h3 h2
    exact ⟨l, a, c, rfl, h1, h5⟩

set_option maxHeartbeats 1600000 in
theorem fits3 (v : Value) (l : List (List UInt8)) (w : World) (h : Arr BytesV 1 w v l) :
    Calls Tryd.prog 17 #[v] w fun e w' => ∃ b, e = .returned (.bool b) ∧ (b = true → l.length ≤ 2147483647 ∧ ∀ d ∈ l, d.length ≤ 2147483647) ∧ St w [] w' [] := by
  have S := St.begin w
  obtain ⟨oa, c, rfl, hc⟩ := h.shape
  have hh := hidden h
  clear h
  refine Calls.cps ?_; intro R hR
  by_cases hn : (l.length : Int) > 2147483647
  · have hbb : decide ((l.length : Int) > 2147483647) = true := decide_eq_true hn
    replace hn := hidden hn
    go_enter Tryd.func17, Tryd.ntmps17
    go_wp2_with (fail)
    ((first | go_ret | go_ret2 | go_ret3 | go_end0 | skip); refine hR.out _ _ ?_)
    exact ⟨_, rfl, by simp, S.sel (by repeat (first | exact Sel.nil | (apply Sel.cons; (repeat (first | exact Pull.head | apply Pull.tail)))))⟩
  have hbb : decide ((l.length : Int) > 2147483647) = false := decide_eq_false hn
  have hle : l.length ≤ 2147483647 := by omega
  replace hn := hidden hn
  go_enter Tryd.func17, Tryd.ntmps17
  go_wp2_with (fail)
  go_loopg [4, 10] l.length (fun g x i wr => ∃ k : Nat, Hid (k + g = l.length) ∧ i = .int .i64 k ∧ k ≤ l.length ∧ Hid (∀ d ∈ l.take k, d.length ≤ 2147483647) ∧ St w [] wr [])
  case atStart => exact ⟨0, hidden (by omega), rfl, Nat.zero_le _, hidden (by simp), S⟩
  case round =>
    clear S
    obtain ⟨k, hg, rfl, hkn, hpre, S⟩ := hrel
    by_cases hlt : k < l.length
    · obtain ⟨ad, rfl⟩ := hh.out.some (by decide) (by omega)
      have hop : l[k]? = some l[k] := List.getElem?_eq_getElem hlt
      obtain ⟨cs, ⟨oa', c', rfl, hs', hc'⟩, hl3, hcell⟩ := hh.out.get k _ hop
      have htake := hidden (show l.take (k + 1) = l.take k ++ [l[k]] by rw [List.take_add_one, hop]; rfl)
      generalize l[k] = d at *
      have g0 := hcell 0 _ rfl
      rw [Addr.add_zero', Nat.mul_one] at g0
      clear hop hs' hl3 hcell
      by_cases hd : (d.length : Int) > 2147483647
      · have hb2 : decide ((d.length : Int) > 2147483647) = true := decide_eq_true hd
        replace hd := hidden hd
        go_wp2_with ((refine wpList_ldc S ?_))
        ((first | go_ret | go_ret2 | go_ret3 | go_end0 | skip); refine hR.out _ _ ?_)
        exact ⟨_, rfl, by simp, S.sel (by repeat (first | exact Sel.nil | (apply Sel.cons; (repeat (first | exact Pull.head | apply Pull.tail)))))⟩
      · have hb2 : decide ((d.length : Int) > 2147483647) = false := decide_eq_false hd
        have hd3 := hidden (show d.length ≤ 2147483647 by omega)
        replace hd := hidden hd
        go_wp2_with ((refine wpList_ldc S ?_))
        go_roundg (gk - 1)
        case measure => have := hg.out; omega
        case rel =>
          refine ⟨k + 1, hidden (by have := hg.out; omega), by go_num, by omega, hidden ?_, S.sel (by repeat (first | exact Sel.nil | (apply Sel.cons; (repeat (first | exact Pull.head | apply Pull.tail)))))⟩
          rw [htake.out]
          intro o ho
          rcases List.mem_append.1 ho with ho | ho
          · exact hpre.out o ho
          · rw [List.mem_singleton.1 ho]; exact hd3.out
    · have hkl : k = l.length := by omega
      replace hkl := hidden hkl
      go_wp2_with (fail)
      ((first | go_ret | go_ret2 | go_ret3 | go_end0 | skip); refine hR.out _ _ ?_)
      exact ⟨_, rfl, fun _ => ⟨hle, by have := hpre.out; rwa [hkl.out, List.take_length] at this⟩, S.sel (by repeat (first | exact Sel.nil | (apply Sel.cons; (repeat (first | exact Pull.head | apply Pull.tail)))))⟩
end Go.Proofs.YtbklhnpnkinadaaDoor
end
section
namespace Go.Vil
open Go Go.RowKit
section
variable {P : Program} {ops : Array Oper} {Q : Exit → Act → World → Prop} {rest : List Oper} {o : Oper} {a : Act} {w w' : World}
/-- A load of a struct out of a row, in a region that draws. -/
theorem quiet_ldRc {w0 : World} {bs : List Nat} {L F : List Res} (S : St w0 bs w L) {K : Act → Prop} {a' : Act} {ty e : TypeId} {x : Operand} {b n c i size : Nat} {xs cs : List Value} (h1 : ∀ u ∈ xs, u.oneCell' = true) (hl : cs.length = size)
    (hi : ∀ j u, cs[j]? = some u → xs[i + j]? = some u) (k : K a')
    (ho : o.op = .load ty x := by rfl) (hT0 : TAgg P ty size := by infer_instance) (ha : slot a x = some (.pointer (some ⟨b, i, none⟩)) := by rfl)
    (hp : Pull (.row e size (.slice (some ⟨b, 0, none⟩) n c) n xs) L F := by repeat (first | exact Pull.head | apply Pull.tail)) (hput : Put a o.dst (.agg cs.toArray) a' := by exact put_of (by conv => lhs; simp only [List.set_cons_succ, List.set_cons_zero])) : o.quiet P a (fun w' => ∃ p : StW w w0 bs L, w' = p.w) K :=
  quiet_run (fun _ hS => have S := S.of hS; run_ldA ty x ho (eval_slot ha) hl fun j v hv => by
    have h := (Src.row (S.mem.2 _ hp.mem) h1).2.2.2 _ _ (hi j v hv)
    rw [← Go.Vil.add_add] at h
    rw [Addr.add_lit] at h ⊢
    rw [Addr.add_lit] at h
    simpa using h) (hput.is ▸ k)
/-- A load of a struct that was there ahead of all, in a region that draws. -/
theorem quiet_ldAd {w0 : World} {L : List Res} (S : St w0 [] w L) {K : Act → Prop} {a' : Act} {ty : TypeId} {x : Operand} {ad : Addr} {n : Nat} {cs : List Value}
    (k : K a') (hl : cs.length = n) (hc : ∀ j v, cs[j]? = some v → w0.cell? (ad.add j) = some v)
    (ho : o.op = .load ty x := by rfl) (hT0 : TAgg P ty n := by infer_instance) (ha : slot a x = some (.pointer (some ad)) := by rfl)
    (hput : Put a o.dst (.agg cs.toArray) a' := by exact put_of (by conv => lhs; simp only [List.set_cons_succ, List.set_cons_zero])) : o.quiet P a (fun w' => ∃ p : StW w w0 [] L, w' = p.w) K :=
  quiet_run (fun _ hS => have S := S.of hS; run_ldA ty x ho (eval_slot ha) hl fun j v hv => S.chg.cell (hc j v hv) (by simp)) (hput.is ▸ k)
/-- A load of one cell out of a row of whatever elements. -/
theorem wpList_ldRn {w0 : World} {bs : List Nat} {L F : List Res} (S : St w0 bs w L) {a' : Act} {ty e : TypeId} {x : Operand} {b n c i size : Nat} {xs : List Value} {u : Value} (h1 : ∀ u ∈ xs, u.oneCell' = true) (hi : xs[i]? = some u)
    (k : wpList P ops Q rest a' w)
    (hw : Region.wanted o (yielded ops a.tmps) = true := by rfl) (ho : o.op = .load ty x := by rfl) (hT0 : TOne P ty := by infer_instance) (ha : slot a x = some (.pointer (some ⟨b, i, none⟩)) := by rfl)
    (hp : Pull (.row e size (.slice (some ⟨b, 0, none⟩) n c) n xs) L F := by repeat (first | exact Pull.head | apply Pull.tail)) (hput : Put a o.dst u a' := by exact put_of (by conv => lhs; simp only [List.set_cons_succ, List.set_cons_zero])) : wpList P ops Q (o :: rest) a w :=
  wpList_run hw (run_ld ty x ho (eval_slot ha) (by
    have h := (Src.row (S.mem.2 _ hp.mem) h1).2.2.2 _ _ hi
    rw [Addr.add_lit] at h
    simpa using h)) (hput.is ▸ k)
theorem get_app {α : Type} {a cs more xs : List α} {i : Nat} (ha : a.length = i) (hx : xs = a ++ (cs ++ more)) : ∀ (j : Nat) (u : α), cs[j]? = some u → xs[i + j]? = some u := by
  intro j u h
  rw [hx, List.getElem?_append_right (by omega), ha, Nat.add_sub_cancel_left, List.getElem?_append_left (List.getElem?_eq_some_iff.1 h).1, h]
end
theorem St.rowSliceN {w : World} {w0 : World} {bs : List Nat} {L F : List Res} (S : St w0 bs w L) {e : TypeId} {size : Nat} {v : Value} {n : Nat} {xs : List Value} (hp : Pull (.row e size v n xs) L F) (hsz : 0 < size := by decide) : ∃ a c, v = .slice a n c ∧ n ≤ c ∧ n ≤ maxLen :=
  row_shape hsz (S.mem.2 _ hp.mem)
theorem St.rowSome {w : World} {w0 : World} {bs : List Nat} {L F : List Res} (S : St w0 bs w L) {e : TypeId} {size : Nat} {v : Value} {n : Nat} {xs : List Value} (hn : 0 < n) (hp : Pull (.row e size v n xs) L F) : ∃ b c, v = .slice (some ⟨b, 0, none⟩) n c ∧ n ≤ c := by
  rcases S.ofRow hp with ⟨_, h, _⟩ | ⟨b, cap, more, h1, h2, _⟩
  · omega
  · exact ⟨b, cap, h1, h2⟩
end Go.Vil
end
section
namespace Go.Proofs.YtbklhnpnkinadaaDoor
open Go Go.RowKit Go.Vil
set_option linter.unusedSimpArgs false
set_option linter.unusedVariables false
set_option maxRecDepth 100000

/-- An operation that came in. -/
def FInV (w : World) (op : SOp) (cs : List Value) : Prop := ∃ ka kn kc va vn vc kv, ∃ kss : List (List UInt8), cs = sopCells op (.slice ka kn kc) (.slice va vn vc) kv ∧ Src w 1 (.slice ka kn kc) kn (u8s op.key) ∧ kn ≤ kc ∧ Src w 1 (.slice va vn vc) vn (u8s op.value) ∧ vn ≤ vc ∧ Arr BytesV 1 w kv kss ∧ op.now < 4294967296 ∧ op.hash < 18446744073709551616
theorem FInV.on {w w' : World} {op : SOp} {cs : List Value} (h : FInV w op cs) (C : Chg [] w w') : FInV w' op cs := by
  obtain ⟨ka, kn, kc, va, vn, vc, kv, kss, h1, h2, h3, h4, h5, h6, h7, h8⟩ := h
  exact ⟨ka, kn, kc, va, vn, vc, kv, kss, h1, h2.on C, h3, h4.on C, h5, h6.on C fun _ _ h => h.on C, h7, h8⟩

set_option maxHeartbeats 1600000 in
theorem fits5 (op : SOp) (ka va : Option Addr) (kn kc vn vc : Nat) (kv : Value) (kss : List (List UInt8)) (w : World) (hk : Arr BytesV 1 w kv kss) :
    Calls Tryd.prog 40 #[.agg (sopCells op (.slice ka kn kc) (.slice va vn vc) kv).toArray] w fun e w' => ∃ b, e = .returned (.bool b) ∧ (b = true → kn ≤ 2147483647 ∧ vn ≤ 2147483647) ∧ St w [] w' [] := by
  have S := St.begin w
  obtain ⟨oa, c, rfl, hc⟩ := hk.shape
  replace hk := hidden hk
  refine Calls.cps ?_; intro R hR
  go_enter Tryd.func40, Tryd.ntmps40
  by_cases h1 : (kn : Int) > 2147483647
  · have hbb : decide ((kn : Int) > 2147483647) = true := decide_eq_true h1
    replace h1 := hidden h1
    go_wp2_with (first | (refine wpList_ld S ?_) | (refine wpList_box S ?_; (clear S; intro nb wb hnb S)))
    ((first | go_ret | go_ret2 | go_ret3 | go_end0 | skip); refine hR.out _ _ ?_)
    exact ⟨_, rfl, by simp, S.sel (by repeat (first | exact Sel.nil | (apply Sel.cons; (repeat (first | exact Pull.head | apply Pull.tail)))))⟩
  have hbb : decide ((kn : Int) > 2147483647) = false := decide_eq_false h1
  have hle : kn ≤ 2147483647 := by omega
  replace h1 := hidden h1
  by_cases h2 : (vn : Int) > 2147483647
  · have hbb2 : decide ((vn : Int) > 2147483647) = true := decide_eq_true h2
    replace h2 := hidden h2
    go_wp2_with (first | (refine wpList_ld S ?_) | (refine wpList_box S ?_; (clear S; intro nb wb hnb S)))
    ((first | go_ret | go_ret2 | go_ret3 | go_end0 | skip); refine hR.out _ _ ?_)
    exact ⟨_, rfl, by simp, S.sel (by repeat (first | exact Sel.nil | (apply Sel.cons; (repeat (first | exact Pull.head | apply Pull.tail)))))⟩
  have hbb2 : decide ((vn : Int) > 2147483647) = false := decide_eq_false h2
  have hle2 : vn ≤ 2147483647 := by omega
  replace h2 := hidden h2
  go_wp2_with (first | (refine wpList_ld S ?_) | (refine wpList_box S ?_; (clear S; intro nb wb hnb S)))
  refine Calls.mono (fits3 _ kss _ (hk.out.on S.chg fun _ _ h => h.on S.chg)) ?_
  rintro e w2 ⟨b, rfl, hb, C⟩
  have S2 := S.call C; clear S C; simp only [List.cons_append, List.nil_append] at S2; have S := S2; clear S2
  cases b with
  | false =>
    go_wp2_with (fail)
    ((first | go_ret | go_ret2 | go_ret3 | go_end0 | skip); refine hR.out _ _ ?_)
    exact ⟨_, rfl, by simp, S.sel (by repeat (first | exact Sel.nil | (apply Sel.cons; (repeat (first | exact Pull.head | apply Pull.tail)))))⟩
  | true =>
    go_wp2_with (fail)
    ((first | go_ret | go_ret2 | go_ret3 | go_end0 | skip); refine hR.out _ _ ?_)
    exact ⟨_, rfl, fun _ => ⟨hle, hle2⟩, S.sel (by repeat (first | exact Sel.nil | (apply Sel.cons; (repeat (first | exact Pull.head | apply Pull.tail)))))⟩

set_option maxHeartbeats 1600000 in
theorem fits4 (v : Value) (ops : List SOp) (w : World) (h : Arr FInV 10 w v ops) :
    Calls Tryd.prog 23 #[v] w fun e w' => ∃ b, e = .returned (.bool b) ∧ (b = true → ops.length ≤ 2147483647 ∧ ∀ op ∈ ops, op.key.length ≤ 2147483647 ∧ op.value.length ≤ 2147483647) ∧ St w [] w' [] := by
  have S := St.begin w
  obtain ⟨oa, c, rfl, hc⟩ := h.shape
  have hh := hidden h
  clear h
  refine Calls.cps ?_; intro R hR
  by_cases hn : (ops.length : Int) > 2147483647
  · have hbb : decide ((ops.length : Int) > 2147483647) = true := decide_eq_true hn
    replace hn := hidden hn
    go_enter Tryd.func23, Tryd.ntmps23
    go_wp2_with (fail)
    ((first | go_ret | go_ret2 | go_ret3 | go_end0 | skip); refine hR.out _ _ ?_)
    exact ⟨_, rfl, by simp, S.sel (by repeat (first | exact Sel.nil | (apply Sel.cons; (repeat (first | exact Pull.head | apply Pull.tail)))))⟩
  have hbb : decide ((ops.length : Int) > 2147483647) = false := decide_eq_false hn
  have hle : ops.length ≤ 2147483647 := by omega
  replace hn := hidden hn
  go_enter Tryd.func23, Tryd.ntmps23
  go_wp2_with (fail)
  go_loopg [4, 10] ops.length (fun g x i wr => ∃ k : Nat, Hid (k + g = ops.length) ∧ i = .int .i64 k ∧ k ≤ ops.length ∧ Hid (∀ op ∈ ops.take k, op.key.length ≤ 2147483647 ∧ op.value.length ≤ 2147483647) ∧ St w [] wr [])
  case atStart => exact ⟨0, hidden (by omega), rfl, Nat.zero_le _, hidden (by simp), S⟩
  case round =>
    clear S
    obtain ⟨k, hg, rfl, hkn, hpre, S⟩ := hrel
    by_cases hlt : k < ops.length
    · obtain ⟨ad, rfl⟩ := hh.out.some (by decide) (by omega)
      have hop : ops[k]? = some ops[k] := List.getElem?_eq_getElem hlt
      obtain ⟨cs, ⟨ka, kn, kc, va, vn, vc, kv, kss, rfl, hks, hkc, hvs, hvc, hkk, hnow, hhash⟩, hl3, hcell⟩ := hh.out.get k _ hop
      have htake := hidden (show ops.take (k + 1) = ops.take k ++ [ops[k]] by rw [List.take_add_one, hop]; rfl)
      generalize ops[k] = op at *
      have hln := hidden hks.len8
      have hlv := hidden hvs.len8
      replace hcell := hidden hcell
      obtain ⟨ok, ck, rfl, hck⟩ := hkk.shape
      replace hkk := hidden hkk
      clear hop hks hvs hl3 hnow hhash
      go_wp2_with (first | (refine wpList_ldAc S ?_ (by rfl) hcell.out) | (refine wpList_ldA S ?_) | (refine wpList_alloc S ?_; (clear S; intro nb wb hnb S)) | (refine wpList_stA S ?_; (clear S; intro ws S; simp only [splice, List.take_zero, List.take_succ_cons, List.drop_succ_cons, List.drop_zero, List.drop_nil, List.length_cons, List.length_nil, Nat.reduceAdd, Nat.zero_add, List.nil_append, List.cons_append, List.append_nil] at S)))
      refine Calls.mono (fits5 op ka va kn kc vn vc _ kss _ (hkk.out.on S.chg fun _ _ h => h.on S.chg)) ?_
      rintro e w2 ⟨b, rfl, hb, C⟩
      have S2 := S.call C; clear S C; simp only [List.cons_append, List.nil_append] at S2; have S := S2; clear S2
      cases b with
      | false =>
        clear hb
        go_wp2_with (fail)
        ((first | go_ret | go_ret2 | go_ret3 | go_end0 | skip); refine hR.out _ _ ?_)
        exact ⟨_, rfl, by simp, S.sel (by repeat (first | exact Sel.nil | (apply Sel.cons; (repeat (first | exact Pull.head | apply Pull.tail)))))⟩
      | true =>
        replace hb := hidden (hb rfl)
        go_wp2_with (fail)
        go_roundg (gk - 1)
        case measure => have := hg.out; omega
        case rel =>
          refine ⟨k + 1, hidden (by have := hg.out; omega), by go_num, by omega, hidden ?_, S.sel (by repeat (first | exact Sel.nil | (apply Sel.cons; (repeat (first | exact Pull.head | apply Pull.tail)))))⟩
          rw [htake.out]
          intro o ho
          rcases List.mem_append.1 ho with ho | ho
          · exact hpre.out o ho
          · rw [List.mem_singleton.1 ho, hln.out, hlv.out]; exact hb.out
    · have hkl : k = ops.length := by omega
      replace hkl := hidden hkl
      go_wp2_with (fail)
      ((first | go_ret | go_ret2 | go_ret3 | go_end0 | skip); refine hR.out _ _ ?_)
      exact ⟨_, rfl, fun _ => ⟨hle, by have := hpre.out; rwa [hkl.out, List.take_length] at this⟩, S.sel (by repeat (first | exact Sel.nil | (apply Sel.cons; (repeat (first | exact Pull.head | apply Pull.tail)))))⟩

set_option maxHeartbeats 1600000 in
theorem riFree (op : SOp) (now : Nat) (ka va : Option Addr) (kn kc vn vc : Nat) (kv : Value) (w : World) (hk : kn ≤ kc) (hv : vn ≤ vc) (hkn : kn ≤ 2147483647) (hvn : vn ≤ 2147483647) (hnow : now ≤ 1000000000) (hop : op.now < 4294967296) :
    Calls Tryd.prog 41 #[.agg (sopCells op (.slice ka kn kc) (.slice va vn vc) kv).toArray, .int .u32 now] w fun e w' => e = .returned (.agg (sopCells (riF op now) (.slice ka (min kn 200) kc) (.slice va (min vn 400) vc) (.slice none 0 0)).toArray) ∧ St w [] w' [] := by
  have S := St.begin w
  obtain ⟨k, key, value, ex, nw, hash, own, is, num⟩ := op
  simp only at hop
  refine Calls.cps ?_; intro R hR
  go_enter Tryd.func41, Tryd.ntmps41
  go_upto_region 2 with (first | (refine wpList_box S ?_; (clear S; intro xb wX hxb S)) | (refine wpList_alloc S ?_; (clear S; intro rb wR hrb S)) | (refine wpList_ld S ?_) | (refine wpList_st S ?_; (clear S; intro ws S)))
  refine St.regionH S [.blk xb _] 18 15 (.turn [(0, false), (1, true), (2, false), (3, true), (4, false), (5, false), (6, false), (7, false), (8, true), (9, false), (10, true), (11, false), (12, false), (13, false), (14, false)] [([16], 17)] []) ?_
  clear S; intro wr Cr S Sc; simp only [walkHS, wpQH, walkC, pick, List.getElem?_cons_succ, List.getElem?_cons_zero, List.drop_succ_cons, List.drop_zero]; (repeat (first | (first | (go_big_quiet_step (fail)) | (go_big_quiet_want; (refine quiet_ld Sc ?_); go_big_quiet_on)) | refine wpQuiet_nil ?_))
  have e3 : (if (200 : Int) < (kn : Int) then (200 : Int) else kn) = ((min kn 200 : Nat) : Int) := by split <;> omega
  have e4 : (if (400 : Int) < (vn : Int) then (400 : Int) else vn) = ((min vn 400 : Nat) : Int) := by split <;> omega
  simp only [e3, e4, Int.toNat_natCast]
  rw [wrap_rem64 k 13 (by decide) (by decide)] at S Sc ⊢
  clear e3 e4
  refine wpList_st S ?_; (clear S; intro ws S)
  show wpQuiet _ _ _ _ _ _; (repeat (first | ((go_big_quiet_step (fail))) | refine wpQuiet_nil ?_))
  refine wpList_st S ?_; (clear S; intro ws S)
  refine ⟨trivial, ?_⟩; (repeat (refine wpQuiet_nil ?_))
  go_wp2_with (first | (refine wpList_ld S ?_) | (refine wpList_ldA S ?_) | (refine wpList_st S ?_; (clear S; intro ws S)) | (refine wpList_stA S ?_; (clear S; intro ws S; simp only [splice, List.take_zero, List.take_succ_cons, List.drop_succ_cons, List.drop_zero, List.drop_nil, List.length_cons, List.length_nil, Nat.reduceAdd, Nat.zero_add, List.nil_append, List.cons_append, List.append_nil] at S)))
  refine ret_of (results_c S) ?_
  refine hR.out _ _ ?_
  exact ⟨by rfl, S.sel (by repeat (first | exact Sel.nil | (apply Sel.cons; (repeat (first | exact Pull.head | apply Pull.tail)))))⟩
end Go.Proofs.YtbklhnpnkinadaaDoor
end
section
namespace Go.Proofs.YtbklhnpnkinadaaDoor
open Go Go.RowKit Go.Vil
set_option linter.unusedVariables false
set_option linter.unusedSimpArgs false

/-- What is small in a segment. -/
structure Few (M L : Nat) (s : Sg) : Prop where
  acc : ∀ e ∈ s.list, e.access ≤ M
  exp : ∀ e ∈ s.list, e.expire ≤ M
  len : s.list.length ≤ L
  tou : s.touched ≤ L
theorem evac_tou (need now : Nat) (s : Sg) (row : Nat) : (Sg.evac need now s row).touched = s.touched := by
  refine Sg.evac_ind (motive := fun s row => (Sg.evac need now s row).touched = s.touched) need now ?_ ?_ ?_ ?_ ?_ s row
  · intro s row h; rw [Sg.evac_full h]
  · intro s row h hl; rw [Sg.evac_nil hl]
  · intro s row e l h hl hg ih; rw [Sg.evac_gone h hl hg, ih]; rfl
  · intro s row e l h hl hg hk ih; rw [Sg.evac_keep h hl hg hk, ih]; rfl
  · intro s row e l h hl hg hk ih; rw [Sg.evac_drop h hl hg hk, ih]; unfold Sg.dropS; split <;> rfl
theorem evac_len (need now : Nat) (s : Sg) (row : Nat) : (Sg.evac need now s row).list.length ≤ s.list.length := by
  refine Sg.evac_ind (motive := fun s row => (Sg.evac need now s row).list.length ≤ s.list.length) need now ?_ ?_ ?_ ?_ ?_ s row
  · intro s row h; rw [Sg.evac_full h]; exact Nat.le_refl _
  · intro s row h hl; rw [Sg.evac_nil hl]; exact Nat.le_refl _
  · intro s row e l h hl hg ih; rw [Sg.evac_gone h hl hg, hl, List.length_cons]; exact Nat.le_succ_of_le ih
  · intro s row e l h hl hg hk ih
    rw [Sg.evac_keep h hl hg hk, hl, List.length_cons]
    have : (Sg.keepS s e l).list.length = l.length + 1 := by show (l ++ [e]).length = _; simp
    omega
  · intro s row e l h hl hg hk ih
    rw [Sg.evac_drop h hl hg hk, hl, List.length_cons]
    rw [Sg.dropS_list] at ih
    omega
theorem few_modify {M L : Nat} {s : Sg} {i : Nat} {f : En → En} (h : Few M L s) (ha : ∀ e, e.access ≤ M → (f e).access ≤ M) (he : ∀ e, e.expire ≤ M → (f e).expire ≤ M) : Few M L (s.at' i f) := by
  refine ⟨past_modify h.acc ha, ?_, ?_, ?_⟩
  · intro e hm
    rcases mem_modify hm with h1 | ⟨a, h1, rfl⟩
    · exact h.exp e h1
    · exact he a (h.exp a h1)
  · show (s.list.modify i f).length ≤ L
    rw [List.length_modify]; exact h.len
  · exact h.tou
theorem few_add {M L : Nat} {s : Sg} {e : En} {now : Nat} (h : Few M L s) (ha : e.access ≤ M) (he : e.expire ≤ M) : Few M (L + 1) (s.add e now) := by
  refine ⟨past_add h.acc ha, ?_, ?_, ?_⟩
  · intro a hm
    rcases List.mem_append.1 (show a ∈ (Sg.evac e.len now s 0).list ++ [e] from hm) with h1 | h1
    · exact h.exp a (evac_sub _ _ _ _ a h1)
    · simp at h1; subst h1; exact he
  · show ((Sg.evac e.len now s 0).list ++ [e]).length ≤ L + 1
    have := evac_len e.len now s 0
    have := h.len
    simp; omega
  · show (Sg.evac e.len now s 0).touched ≤ L + 1
    rw [evac_tou]; exact Nat.le_succ_of_le h.tou
theorem Few.more {M L : Nat} {s : Sg} (h : Few M L s) : Few M (L + 1) s := ⟨h.acc, h.exp, Nat.le_succ_of_le h.len, Nat.le_succ_of_le h.tou⟩
theorem Few.list {M L : Nat} {s s' : Sg} (h : Few M L s) (e : s'.list = s.list) (et : s'.touched ≤ L) : Few M L s' := ⟨by rw [e]; exact h.acc, by rw [e]; exact h.exp, by rw [e]; exact h.len, et⟩
theorem few_set {M L : Nat} {s : Sg} {key value : List UInt8} {hash now : Nat} {sec : Int} (h : Few M L s) (hn : now ≤ M) (he : Sg.ends now sec ≤ M) : Few M (L + 1) (s.set key value hash sec now).1 := by
  unfold Sg.set
  split
  · exact h.more
  · split
    · exact few_add h hn he
    · split
      · exact ((few_modify h (f := fun e => { e with access := now, expire := Sg.ends now sec, value := value }) (fun e _ => hn) (fun e _ => he)).more).list rfl (Nat.le_succ_of_le h.tou)
      · exact few_add (few_modify h (fun e he => he) (fun e he => he)) hn he
/-- Numbers that are told. -/
def Told (M L : Nat) (ns : List Int) : Prop := ns = [] ∨ ∃ n0 n1 n2 n3 n4 n5 n6 n7 n8 n9 : Int, ns = [n0, n1, n2, n3, n4, n5, n6, n7, n8, n9] ∧ 0 ≤ n3 ∧ n3 ≤ L ∧ 0 ≤ n4 ∧ n4 ≤ (M * L : Nat) ∧ 0 ≤ n8 ∧ n8 ≤ L
theorem told_nums {M L : Nat} {s : Sg} (h : Few M L s) : Told M L s.nums := by
  refine .inr ⟨_, _, _, _, _, _, _, _, _, _, rfl, by omega, by have := h.len; omega, by omega, ?_, by omega, by have := h.tou; omega⟩
  have h1 := times_le h.acc
  have h2 : M * s.list.length ≤ M * L := Nat.mul_le_mul_left _ h.len
  omega
theorem few_exp {M L : Nat} {s : Sg} (h : Few M L s) (i : Nat) : (s.list.getD i ⟨0, 0, [], [], 0, 0, 0, true⟩).expire ≤ M := by
  rw [List.getD_eq_getElem?_getD]
  cases hi : s.list[i]? with
  | none => exact Nat.zero_le _
  | some e => exact h.exp e (List.mem_of_getElem? hi)
theorem few_step {M L : Nat} {s : Sg} {op : FOp} (h : Few M L s) (hn : op.now ≤ M) (he : Sg.ends op.now op.expire ≤ M) : Few M (L + 1) (s.step op).1 ∧ (s.step op).2.number ≤ M ∧ Told M L (s.step op).2.numbers := by
  have hg := few_exp h
  unfold Sg.step
  simp only
  repeat' split
  all_goals first
    | exact ⟨few_set h hn he, Nat.zero_le _, .inl rfl⟩
    | exact ⟨h.more, Nat.zero_le _, .inl rfl⟩
    | exact ⟨h.more.list rfl (Nat.le_succ_of_le h.tou), Nat.zero_le _, .inl rfl⟩
    | exact ⟨h.more, hg _, .inl rfl⟩
    | exact ⟨h.more, Nat.le_trans (Nat.sub_le _ _) (hg _), .inl rfl⟩
    | exact ⟨h.more, Nat.zero_le _, told_nums h⟩
    | exact ⟨(few_modify h (f := fun e => { e with gone := true }) (fun e he => he) (fun e he => he)).more.list rfl (by first | exact Nat.le_succ_of_le h.tou | exact Nat.succ_le_succ h.tou), Nat.zero_le _, .inl rfl⟩
    | exact ⟨(few_modify h (f := fun e => { e with access := op.now }) (fun e _ => hn) (fun e he => he)).more.list rfl (by first | exact Nat.le_succ_of_le h.tou | exact Nat.succ_le_succ h.tou), hg _, .inl rfl⟩
    | exact ⟨(few_modify h (f := fun e => { e with access := op.now }) (fun e _ => hn) (fun e he => he)).more.list rfl (by first | exact Nat.le_succ_of_le h.tou | exact Nat.succ_le_succ h.tou), Nat.zero_le _, .inl rfl⟩
    | exact ⟨(few_modify h (f := fun e => { e with access := op.now, expire := Sg.ends op.now op.expire }) (fun e _ => hn) (fun e _ => he)).more.list rfl (by first | exact Nat.le_succ_of_le h.tou | exact Nat.succ_le_succ h.tou), Nat.zero_le _, .inl rfl⟩
    | exact ⟨⟨fun e he => (by simp [Sg.fresh] at he), fun e he => (by simp [Sg.fresh] at he), Nat.zero_le _, Nat.le_succ_of_le h.tou⟩, Nat.zero_le _, .inl rfl⟩
theorem few_run {M : Nat} : ∀ (l : List FOp) (L : Nat) (s : Sg), Few M L s → (∀ op ∈ l, op.now ≤ M ∧ Sg.ends op.now op.expire ≤ M) → ∀ an ∈ s.run l, an.number ≤ M ∧ Told M (L + l.length) an.numbers
  | [], L, s, _, _, an, h => by cases h
  | op :: l, L, s, hf, hop, an, h => by
    have h1 := few_step hf (hop op (by simp)).1 (hop op (by simp)).2
    have grow : ∀ {a b : Nat} {ns : List Int}, a ≤ b → Told M a ns → Told M b ns := by
      intro a b ns hab ht
      rcases ht with rfl | ⟨n0, n1, n2, n3, n4, n5, n6, n7, n8, n9, e, h3, h4, h5, h6, h7, h8⟩
      · exact .inl rfl
      · have : M * a ≤ M * b := Nat.mul_le_mul_left _ hab
        exact .inr ⟨n0, n1, n2, n3, n4, n5, n6, n7, n8, n9, e, h3, by omega, h5, by omega, h7, by omega⟩
    rcases List.mem_cons.1 h with rfl | h
    · exact ⟨h1.2.1, grow (by omega) h1.2.2⟩
    · have h2 := few_run l (L + 1) _ h1.1 (fun o ho => hop o (by simp [ho])) an h
      exact ⟨h2.1, by have := h2.2; rw [show L + (op :: l).length = L + 1 + l.length by simp; omega]; exact this⟩
/-- With a later clock. -/
def lateO (d : Nat) (op : SOp) : SOp := { op with now := op.now + d }
theorem late_get (n d : Nat) (l : List SOp) (k : Nat) (op : SOp) (an : FAns) (h : l[k]? = some op) (ha : ((Sg.fresh n).run (l.map SOp.f))[k]? = some an) : ((Sg.fresh n).run ((l.map (lateO d)).map SOp.f))[k]? = some (an.late d op.kind) := by
  have h1 := Sg.run_late d (l.map SOp.f) (Sg.fresh n)
  have h2 : Sg.lateS d (Sg.fresh n) = Sg.fresh n := rfl
  rw [h2] at h1
  have h3 : (l.map (lateO d)).map SOp.f = (l.map SOp.f).map (FOp.late d) := by rw [List.map_map, List.map_map]; rfl
  rw [h3, h1, List.getElem?_map]
  have h4 : ((l.map SOp.f).zip ((Sg.fresh n).run (l.map SOp.f)))[k]? = some (op.f, an) := by
    rw [List.getElem?_zip_eq_some]
    exact ⟨by rw [List.getElem?_map, h]; rfl, ha⟩
  rw [h4]; rfl
theorem segOps_now (ops : List SOp) : ∀ op ∈ segOps ops, op.now ≤ 4000 := by
  have hl : (ops.take 80).length ≤ 80 := by rw [List.length_take]; omega
  have he := endT_le (ops.take 80) 1
  have key : ∀ (l : List SOp) (t : Nat), ∀ op ∈ timeL t l, op.now ≤ endT t l := by
    intro l
    induction l with
    | nil => intro t op h; cases h
    | cons x l ih =>
      intro t op h
      rcases List.mem_cons.1 h with rfl | h
      · exact (endT_le l _).1
      · exact ih _ op h
  intro op ho
  rcases List.mem_append.1 ho with ho | ho
  · have := key _ _ op ho; omega
  · rw [List.mem_singleton.1 ho]; show endT 1 (ops.take 80) ≤ _; omega
theorem segOps_expire (ops : List SOp) : ∀ op ∈ segOps ops, op.expire ≤ 1000 := by
  have key : ∀ (l : List SOp) (t : Nat), ∀ op ∈ timeL t l, op.expire ≤ 1000 := by
    intro l
    induction l with
    | nil => intro t op h; cases h
    | cons x l ih =>
      intro t op h
      rcases List.mem_cons.1 h with rfl | h
      · have h5 := Int.tmod_lt_of_pos x.expire (show (0 : Int) < 1000 by decide)
        show x.expire.tmod 1000 ≤ 1000
        omega
      · exact ih _ op h
  intro op ho
  rcases List.mem_append.1 ho with ho | ho
  · exact key _ _ op ho
  · rw [List.mem_singleton.1 ho]; show (0 : Int) ≤ 1000; decide
theorem ends_le {now : Nat} {sec : Int} (h : sec ≤ 1000) : Sg.ends now sec ≤ now + 1000 := by
  unfold Sg.ends; split <;> omega
theorem timed_late (d : Nat) : ∀ (l : List SOp) (t u : Nat), u ≤ t + d → Timed t l → Timed u (l.map (lateO d))
  | [], _, _, _, _ => trivial
  | x :: l, t, u, hu, h => ⟨by have := h.1; show u ≤ x.now + d; omega, timed_late d l x.now _ (Nat.le_refl _) h.2⟩
theorem stotal_late (d : Nat) (l : List SOp) : stotal (l.map (lateO d)) = stotal l := by unfold stotal; rw [List.map_map]; rfl
/-- The first ones turned. -/
def lateTo {α : Type} (f : α → α) : Nat → List α → List α
  | 0, l => l
  | _, [] => []
  | k + 1, x :: l => f x :: lateTo f k l
theorem lateTo_all {α : Type} (f : α → α) : ∀ l : List α, lateTo f l.length l = l.map f
  | [] => rfl
  | x :: l => by show f x :: lateTo f l.length l = _; rw [lateTo_all f l]; rfl
theorem lateTo_length {α : Type} (f : α → α) : ∀ (k : Nat) (l : List α), (lateTo f k l).length = l.length
  | 0, _ => rfl
  | _ + 1, [] => rfl
  | k + 1, x :: l => by show (lateTo f k l).length + 1 = _; rw [lateTo_length f k l]; rfl
theorem lateTo_get {α : Type} (f : α → α) : ∀ (k : Nat) (l : List α), (lateTo f k l)[k]? = l[k]?
  | 0, _ => rfl
  | _ + 1, [] => rfl
  | k + 1, x :: l => by show (lateTo f k l)[k]? = l[k]?; exact lateTo_get f k l
theorem lateTo_set {α : Type} (f : α → α) : ∀ (k : Nat) (l : List α) (x : α), l[k]? = some x → (lateTo f k l).set k (f x) = lateTo f (k + 1) l
  | 0, [], x, h => by cases h
  | 0, y :: l, x, h => by simp at h; subst h; cases l <;> rfl
  | k + 1, [], x, h => by cases h
  | k + 1, y :: l, x, h => by
    have := lateTo_set f k l x (by simpa using h)
    show f y :: (lateTo f k l).set k (f x) = f y :: lateTo f (k + 1) l
    rw [this]
theorem flat_set {α : Type} {size : Nat} : ∀ {css : List (List α)} (_ : ∀ cs ∈ css, cs.length = size) (i : Nat) (cs : List α) (j : Nat) (v : α), css[i]? = some cs → j < size → css.flatten.set (i * size + j) v = (css.set i (cs.set j v)).flatten
  | [], _, i, cs, j, v, h, _ => by cases h
  | c :: css, hall, 0, cs, j, v, h, hj => by
    simp at h; subst h
    have hc := hall c (by simp)
    show (c ++ css.flatten).set (0 * size + j) v = c.set j v ++ css.flatten
    rw [Nat.zero_mul, Nat.zero_add, List.set_append_left _ _ (by omega)]
  | c :: css, hall, i + 1, cs, j, v, h, hj => by
    have hc := hall c (by simp)
    have ih := flat_set (css := css) (fun x hx => hall x (by simp [hx])) i cs j v (by simpa using h) hj
    show (c ++ css.flatten).set ((i + 1) * size + j) v = c ++ (css.set i (cs.set j v)).flatten
    rw [Nat.add_mul, Nat.one_mul, List.set_append_right _ _ (by omega), show i * size + size + j - c.length = i * size + j by omega, ih]
theorem each_set {α β : Type} {R : α → β → Prop} : ∀ {l : List α} {m : List β} (_ : Each R l m) (i : Nat) (a : α) (b : β), R a b → Each R (l.set i a) (m.set i b)
  | [], [], _, _, _, _, _ => trivial
  | x :: l, y :: m, h, 0, a, b, hr => ⟨hr, h.2⟩
  | x :: l, y :: m, h, i + 1, a, b, hr => ⟨h.1, each_set h.2 i a b hr⟩
/-- The operation that clears. -/
def clrOp (now : Nat) : SOp := ⟨11, [], [], 0, now, 0, false, false, 0⟩
theorem few_end {M : Nat} : ∀ (l : List FOp) (L : Nat) (s : Sg), Few M L s → (∀ op ∈ l, op.now ≤ M ∧ Sg.ends op.now op.expire ≤ M) → Few M (L + l.length) (s.endS l)
  | [], L, s, h, _ => h
  | op :: l, L, s, hf, hop => by
    have h1 := few_step hf (hop op (by simp)).1 (hop op (by simp)).2
    have h2 := few_end l (L + 1) _ h1.1 (fun o ho => hop o (by simp [ho]))
    rw [show L + (op :: l).length = L + 1 + l.length by simp; omega]
    exact h2
theorem endS_size : ∀ (l : List FOp) (s : Sg), (s.endS l).size = s.size
  | [], _ => rfl
  | op :: l, s => by show ((s.step op).1.endS l).size = _; rw [endS_size l, step_size]
theorem endS_append : ∀ (a : List FOp) (s : Sg) (b : List FOp), s.endS (a ++ b) = (s.endS a).endS b
  | [], _, _ => rfl
  | op :: a, s, b => by show (s.step op).1.endS (a ++ b) = _; rw [endS_append a]; rfl
/-- What is told behind all, and behind a clearing. -/
theorem clear_get (n now : Nat) (l m : List SOp) : (Sg.fresh n).run ((l ++ clrOp now :: m).map SOp.f) =
    (Sg.fresh n).run (l.map SOp.f) ++ Sg.ok :: ((Sg.fresh n).run (m.map SOp.f)).map (FAns.moreT ((Sg.fresh n).endS (l.map SOp.f)).touched) := by
  rw [List.map_append, List.map_cons, Sg.run_append]
  have h := Sg.run_clear ((Sg.fresh n).endS (l.map SOp.f)) [] [] 0 now (hashOf false 0 []) (m.map SOp.f)
  rw [endS_size] at h
  exact congrArg _ h
theorem segOps_lastop (ops : List SOp) : ∃ (p t : Nat), (segOps ops).length = p + 1 ∧ (segOps ops)[p]? = some (cntOp t) ∧ t ≤ 4000 ∧ ∀ m : List SOp, Timed 0 m → Timed 0 (segOps ops ++ clrOp t :: m.map (lateO t)) := by
  have hl : (ops.take 80).length ≤ 80 := by rw [List.length_take]; omega
  have he := endT_le (ops.take 80) 1
  unfold segOps
  refine ⟨(timeL 1 (ops.take 80)).length, endT 1 (ops.take 80), by rw [List.length_append]; rfl, ?_, by omega, ?_⟩
  · rw [List.getElem?_append_right (Nat.le_refl _), Nat.sub_self]; rfl
  · intro m hm
    rw [List.append_assoc]
    have h2 := timed_late (endT 1 (ops.take 80)) m 0 (endT 1 (ops.take 80)) (by omega) hm
    have h := timed_time (ops.take 80) 1 ([cntOp (endT 1 (ops.take 80))] ++ clrOp (endT 1 (ops.take 80)) :: m.map (lateO (endT 1 (ops.take 80)))) ⟨Nat.le_refl _, Nat.le_refl _, h2⟩
    revert h
    cases timeL 1 (ops.take 80) with
    | nil => intro h; exact ⟨Nat.zero_le _, h.2⟩
    | cons x l => intro h; exact ⟨Nat.zero_le _, h.2⟩
/-- The last operation of a script tells. -/
theorem segOps_last (n : Nat) (ops : List SOp) : ∃ (s : Sg) (p : Nat), (segOps ops).length = p + 1 ∧ ((Sg.fresh n).run ((segOps ops).map SOp.f))[p]? = some ⟨0, [], 0, false, s.nums⟩ ∧ s.touched = ((Sg.fresh n).endS ((segOps ops).map SOp.f)).touched := by
  unfold segOps
  generalize timeL 1 (ops.take 80) = a
  generalize endT 1 (ops.take 80) = t
  refine ⟨(Sg.fresh n).endS (a.map SOp.f), a.length, by rw [List.length_append]; rfl, ?_, ?_⟩
  · rw [List.map_append, Sg.run_append, List.getElem?_append_right (by rw [Sg.run_length, List.length_map]; exact Nat.le_refl _), Sg.run_length, List.length_map, Nat.sub_self]
    rfl
  · rw [List.map_append, endS_append]; rfl
end Go.Proofs.YtbklhnpnkinadaaDoor
end
section
namespace Go.Vil
open Go Go.RowKit
section
variable {P : Program} {ops : Array Oper} {Q : Exit → Act → World → Prop} {rest : List Oper} {o : Oper} {a : Act} {w w' : World}
/-- []T{}: a row of whatever elements. -/
theorem wpList_bs0N {w0 : World} {bs : List Nat} {L : List Res} (size : Nat) (S : St w0 bs w L) {a' : Nat → Act} {ty e : TypeId} {z : Value} {bytes : Nat}
    (k : ∀ n w', w0.heap.size ≤ n → St w0 bs w' (.row e size (.slice (some ⟨n, 0, none⟩) 0 0) 0 [] :: L) → wpList P ops Q rest (a' n) w')
    (hw : Region.wanted o (yielded ops a.tmps) = true := by rfl) (ho : o.op = .buildSlice ty 0 #[] := by rfl) (ht : TSlice P ty e := by infer_instance) (he : TElem P e z size bytes := by infer_instance)
    (hput : ∀ n, Put a o.dst (.slice (some ⟨n, 0, none⟩) 0 0) (a' n) := by (intro _; exact put_of (by conv => lhs; simp only [List.set_cons_succ, List.set_cons_zero]))) : wpList P ops Q (o :: rest) a w :=
  wpList_bs (len := 0) (parts := []) (size := size) S (fun n w' hn S' => k n w' hn (by
    have := St.toRow (cs := []) (n := 0) (cap := 0) S' size Pull.head (by simp) (Nat.le_refl _) (by simp [maxLen])
    rw [Nat.zero_mul] at this
    exact this)) hw ho ht he rfl rfl rfl rfl rfl (by simp) hput
end
/-- The first cells of a block as a source. -/
theorem St.srcHead {w : World} {w0 : World} {bs : List Nat} {L F : List Res} (S : St w0 bs w L) {b n c : Nat} {xs more : List Value} {T : TypeId} {fr : Nat × Nat} (hp : Pull (.blk b (.cells (xs ++ more).toArray T fr)) L F) (hl : xs.length = n) (h1 : ∀ u ∈ xs, u.oneCell' = true) :
    Src w 1 (.slice (some ⟨b, 0, none⟩) n c) n xs :=
  Src.cells (by omega) h1 fun j u hu => by
    rw [Addr.add_lit, cell_at (S.blk hp)]
    have hj := (List.getElem?_eq_some_iff.1 hu).1
    simpa [List.getElem?_append_left hj] using hu
end Go.Vil
namespace Go.Proofs.YtbklhnpnkinadaaDoor
open Go Go.RowKit Go.Vil
set_option linter.unusedSimpArgs false
set_option linter.unusedVariables false
set_option maxRecDepth 100000

theorem SOpV.one {w : World} {op : SOp} {cs : List Value} (h : SOpV w op cs) : ∀ u ∈ cs, u.oneCell' = true := by
  obtain ⟨ka, kn, kc, va, vn, vc, rfl, _⟩ := h
  intro u hu
  simp at hu
  rcases hu with rfl | rfl | rfl | rfl | rfl | rfl | rfl | rfl | rfl | rfl <;> rfl
theorem each_oneS {α : Type} {R : α → List Value → Prop} {xs : List α} {css : List (List Value)} {n : Nat} (hE : Each (fun x cs => R x cs ∧ cs.length = n) xs css) (h1 : ∀ x cs, R x cs → ∀ u ∈ cs, u.oneCell' = true) : ∀ cs ∈ css, ∀ u ∈ cs, u.oneCell' = true := by
  intro cs hcs
  obtain ⟨i, hi⟩ := List.getElem?_of_mem hcs
  have hlt2 := (List.getElem?_eq_some_iff.1 hi).1
  have hl := hE.length
  obtain ⟨b, hb, hb2, _⟩ := hE.get i _ (List.getElem?_eq_getElem (show i < xs.length by omega))
  rw [hi] at hb
  cases hb
  exact h1 _ _ hb2
/-- Cells of a script. -/
abbrev SCells (w : World) (l : List SOp) (css : List (List Value)) : Prop := Each (fun x cs => SOpV w x cs ∧ cs.length = 10) l css
theorem SErrs.on {w w' : World} {e1 e2 : Value} (h : SErrs w [] e1 e2) (C : Chg [] w w') : SErrs w' [] e1 e2 :=
  ⟨⟨C.cell h.nf.1 h.nf.2, h.nf.2⟩, ⟨C.cell h.le.1 h.le.2, h.le.2⟩, ⟨C.cell h.pr.1 h.pr.2, h.pr.2⟩, h.i1, h.i2⟩
theorem late_cells {w : World} {op : SOp} {cs : List Value} {d : Nat} (h : SOpV w op cs) : SOpV w (lateO d op) (cs.set 4 (.int .u32 (op.now + d : Nat))) := by
  obtain ⟨ka, kn, kc, va, vn, vc, rfl, h2, h3, h4, h5⟩ := h
  exact ⟨ka, kn, kc, va, vn, vc, rfl, h2, h3, h4, h5⟩
theorem SOpV.now {w : World} {op : SOp} {cs : List Value} (h : SOpV w op cs) : cs[4]? = some (.int .u32 op.now) := by
  obtain ⟨ka, kn, kc, va, vn, vc, rfl, h2, h3, h4, h5⟩ := h; rfl

theorem cntOp_cells (w : World) (t : Nat) : SOpV w (cntOp t) (sopCells (cntOp t) (.slice none 0 0) (.slice none 0 0) (.slice none 0 0)) := ⟨none, 0, 0, none, 0, 0, rfl, Src.nil w 1 0, Nat.le_refl _, Src.nil w 1 0, Nat.le_refl _⟩
theorem riF_cells {w : World} {op : SOp} {t : Nat} {ka va : Option Addr} {kn kc vn vc : Nat} (hk : Src w 1 (.slice ka kn kc) kn (u8s op.key)) (hkc : kn ≤ kc) (hv : Src w 1 (.slice va vn vc) vn (u8s op.value)) (hvc : vn ≤ vc) :
    SOpV w (riF op t) (sopCells (riF op t) (.slice ka (min kn 200) kc) (.slice va (min vn 400) vc) (.slice none 0 0)) := by
  refine ⟨ka, min kn 200, kc, va, min vn 400, vc, rfl, ?_, by omega, ?_, by omega⟩
  · have h := hk.firsts (min kn 200) kc (by omega)
    have e : op.key.take (min kn 200) = (riF op t).key := by
      show _ = op.key.take 200
      have := hk.len8
      rcases Nat.le_total kn 200 with h3 | h3
      · rw [Nat.min_eq_left h3, List.take_of_length_le (by omega), List.take_of_length_le (by omega)]
      · rw [Nat.min_eq_right h3]
    rwa [e] at h
  · have h := hv.firsts (min vn 400) vc (by omega)
    have e : op.value.take (min vn 400) = (riF op t).value := by
      show _ = op.value.take 400
      have := hv.len8
      rcases Nat.le_total vn 400 with h3 | h3
      · rw [Nat.min_eq_left h3, List.take_of_length_le (by omega), List.take_of_length_le (by omega)]
      · rw [Nat.min_eq_right h3]
    rwa [e] at h

set_option maxHeartbeats 3200000 in
theorem riSegOps (v : Value) (ops : List SOp) (w : World) (h : Arr FInV 10 w v ops) (hn : ops.length ≤ 2147483647) (hb : ∀ op ∈ ops, op.key.length ≤ 2147483647 ∧ op.value.length ≤ 2147483647) :
    Calls Tryd.prog 24 #[v] w fun e w' => ∃ ov css, e = .returned ov ∧ SCells w (segOps ops) css ∧ St w [] w' [.row 66 10 ov (segOps ops).length css.flatten] := by
  have S := St.begin w
  obtain ⟨oa, c, rfl, hc⟩ := h.shape
  replace h := hidden h
  replace hb := hidden hb
  refine Calls.cps ?_; intro R hR
  go_enter Tryd.func24, Tryd.ntmps24
  have S := S.nilRow 66 10
  go_wp2_with (fail)
  go_loopg [3, 4, 5, 6] 80 (fun g lv nv i xp wr => ∃ (k : Nat) (css : List (List Value)), Hid (k + g = 80) ∧ i = .int .i64 k ∧ nv = .int .u32 (endT 1 (ops.take k) : Nat) ∧ k ≤ ops.length ∧ k ≤ 80 ∧
      Hid (SCells w (timeL 1 (ops.take k)) css) ∧ St w [] wr [.row 66 10 lv k css.flatten])
  case atStart => exact ⟨0, [], hidden rfl, rfl, rfl, Nat.zero_le _, Nat.zero_le _, hidden (by simp [timeL, Each]), S.sel (by repeat (first | exact Sel.nil | (apply Sel.cons; (repeat (first | exact Pull.head | apply Pull.tail)))))⟩
  case round =>
    clear S
    obtain ⟨k, css, hg, rfl, rfl, hkn, hk80, hE, S⟩ := hrel
    go_upto_region 4 with fail
    go_cut [14] (fun c w' => c = .bool (decide (k < ops.length ∧ k < 80)) ∧ St w [] w' [.row 66 10 u3 k css.flatten])
    case first =>
      by_cases c1 : k < ops.length
      · go_wp2_with (fail)
        go_meet
        refine ⟨congrArg Value.bool ?_, S⟩
        by_cases c2 : k < 80
        · rw [decide_eq_true (show (k : Int) < 80 by omega), decide_eq_true (show k < ops.length ∧ k < 80 from ⟨c1, c2⟩)]
        · rw [decide_eq_false (show ¬ (k : Int) < 80 by omega), decide_eq_false (show ¬ (k < ops.length ∧ k < 80) by omega)]
      · go_wp2_with (fail)
        go_meet
        exact ⟨congrArg Value.bool (decide_eq_false (p := k < ops.length ∧ k < 80) (by omega)).symm, S⟩
    case rest =>
    obtain ⟨rfl, S⟩ := hcut
    have he := endT_le (ops.take k) 1
    have hel : (ops.take k).length ≤ 80 := by rw [List.length_take]; omega
    by_cases hlt : k < ops.length ∧ k < 80
    · rw [decide_eq_true hlt]
      obtain ⟨hlt, hl80⟩ := hlt
      obtain ⟨ad, rfl⟩ := h.out.some (by decide) (by omega)
      have hop : ops[k]? = some ops[k] := List.getElem?_eq_getElem hlt
      have hnb := hb.out _ (List.getElem_mem hlt)
      obtain ⟨cs, ⟨ka, kn, kc, va, vn, vc, kv, kss, rfl, hks, hkc, hvs, hvc, hkk, hnow, hhash⟩, hl3, hcell⟩ := h.out.get k _ hop
      have htake := hidden (show ops.take (k + 1) = ops.take k ++ [ops[k]] by rw [List.take_add_one, hop]; rfl)
      generalize ops[k] = op at *
      obtain ⟨ok, ck, rfl, hck⟩ := hkk.shape
      have hln := hks.len8
      have hlv := hvs.len8
      have hkn2 : kn ≤ 2147483647 := by omega
      have hvn2 : vn ≤ 2147483647 := by omega
      replace hcell := hidden hcell
      have hcl2 := hidden (riF_cells (t := endT 1 (ops.take k)) hks hkc hvs hvc)
      have het := hidden (endT_snoc (ops.take k) 1 op)
      have htl := hidden (timeL_snoc (ops.take k) 1 op)
      obtain ⟨al, cl, rfl, hcl1, hcl3⟩ := S.rowSliceN (hp := .head)
      clear hop hks hvs hl3 hln hlv hkk hnb
      generalize htt : endT 1 (ops.take k) = tt at *
      go_wp2_with ((refine wpList_ldAc S ?_ (by rfl) hcell.out))
      refine Calls.mono (riFree op tt ka va kn kc vn vc _ _ hkc hvc hkn2 hvn2 (by omega) hnow) ?_
      rintro e w2 ⟨rfl, C⟩
      have S2 := S.call C; clear S C; simp only [List.cons_append, List.nil_append] at S2; have S := S2; clear S2
      have hnw : (riF op tt).now = tt + op.now % 50 := rfl
      generalize hrf : riF op tt = rf at *
      replace hrf := hidden hrf
      replace hnw := hidden hnw
      go_wp2_with (first | (refine wpList_appB S ?_; (clear S; intro va2 wa hva S)) | (refine wpList_ld S ?_) | (refine wpList_ldA S ?_) | (refine wpList_alloc S ?_; (clear S; intro nb wb hnb S)) | (refine wpList_bs S ?_; (clear S; intro nb wb hnb S)) | (refine wpList_stA S ?_; (clear S; intro ws S; simp only [splice, List.take_zero, List.take_succ_cons, List.drop_succ_cons, List.drop_zero, List.drop_nil, List.length_cons, List.length_nil, Nat.reduceAdd, Nat.zero_add, List.nil_append, List.cons_append, List.append_nil] at S)))
      go_roundg (gk - 1)
      case measure => have := hg.out; omega
      case rel =>
        refine ⟨k + 1, css ++ [sopCells rf (.slice ka (min kn 200) kc) (.slice va (min vn 400) vc) (.slice none 0 0)], hidden (by have := hg.out; omega), by go_num, ?_, by omega, by omega, hidden ?_, ?_⟩
        · rw [htake.out, het.out, hnw.out]
        · rw [htake.out, htl.out]
          exact hE.out.append ⟨⟨hcl2.out, rfl⟩, trivial⟩
        · rw [List.flatten_append]
          exact (S.selT (by repeat (first | (apply SelT.nil; (repeat (first | exact Suf.refl | apply Suf.cons)); done) | (apply SelT.cons; (repeat (first | exact Pull.head | apply Pull.tail))))))
    · rw [decide_eq_false hlt]
      have hk : ops.take 80 = ops.take k := by
        rcases Nat.lt_or_ge k 80 with h1 | h1
        · rw [List.take_of_length_le (by omega), List.take_of_length_le (by omega)]
        · rw [show k = 80 by omega]
      have hlen : (segOps ops).length = k + 1 := by rw [segOps_length, hk, List.length_take]; omega
      obtain ⟨al, cl, rfl, hcl1, hcl3⟩ := S.rowSliceN (hp := .head)
      generalize htt : endT 1 (ops.take k) = tt at *
      replace htt := hidden htt
      replace hk := hidden hk
      replace hlen := hidden hlen
      go_wp2_with (first | (refine wpList_appB S ?_; (clear S; intro va2 wa hva S)) | (refine wpList_bs S ?_; (clear S; intro nb wb hnb S)))
      ((first | go_ret | go_ret2 | go_ret3 | go_end0 | skip); refine hR.out _ _ ?_)
      refine ⟨_, css ++ [sopCells (cntOp tt) (.slice none 0 0) (.slice none 0 0) (.slice none 0 0)], rfl, ?_, ?_⟩
      · unfold segOps
        rw [hk.out, htt.out]
        exact hE.out.append ⟨⟨cntOp_cells _ tt, rfl⟩, trivial⟩
      · rw [List.flatten_append, hlen.out]
        exact (S.selT (by repeat (first | (apply SelT.nil; (repeat (first | exact Suf.refl | apply Suf.cons)); done) | (apply SelT.cons; (repeat (first | exact Pull.head | apply Pull.tail))))))
end Go.Proofs.YtbklhnpnkinadaaDoor
end
section
namespace Go.Proofs.YtbklhnpnkinadaaDoor
open Go Go.RowKit Go.Vil
set_option linter.unusedSimpArgs false
set_option linter.unusedVariables false
set_option maxRecDepth 100000

set_option maxHeartbeats 3200000 in
theorem sameFree (an : FAns) (cs1 cs2 : List Value) (w : World) (h1 : FAnsV w an cs1) (h2 : FAnsV w an cs2) :
    Calls Tryd.prog 45 #[.agg cs1.toArray, .agg cs2.toArray] w fun e w' => e = .returned (.bool true) ∧ St w [] w' [] := by
  have S := St.begin w
  obtain ⟨oa, c, na, nc, rfl, hs, hc, hm, hns, hnc, hnm⟩ := h1
  obtain ⟨ob, d, nb2, nd, rfl, hs2, hd, hm2, hns2, hnd, _⟩ := h2
  unfold maxLen at hnm
  replace hs := hidden hs
  replace hs2 := hidden hs2
  replace hns := hidden hns
  replace hns2 := hidden hns2
  have b1 : (an.fault != an.fault) = false := bne_self_eq_false _
  have b2 : ((an.number : Int) != (an.number : Int)) = false := bne_self_eq_false _
  have b3 : (an.is != an.is) = false := bne_self_eq_false _
  have b4 : ((an.numbers.length : Int) != (an.numbers.length : Int)) = false := bne_self_eq_false _
  refine Calls.cps ?_; intro R hR
  go_enter Tryd.func45, Tryd.ntmps45
  go_upto_region 3 with (first | (refine wpList_box S ?_; (clear S; first | (have hz := hxb; clear hz; intro yb wY hyb S) | (intro xb wX hxb S))) | (refine wpList_b2s (hs.out.on S.chg) ?_) | (refine wpList_b2s (hs2.out.on S.chg) ?_) | (refine wpList_ld S ?_))
  clear b1 b2 b3 b4
  go_wp2_with ((refine wpList_ld S ?_))
  go_loopg [5, 53] an.numbers.length (fun g x i wr => ∃ k : Nat, Hid (k + g = an.numbers.length) ∧ i = .int .i64 k ∧ k ≤ an.numbers.length ∧ St w [] wr [.blk yb (.cells #[.int .i64 an.fault, .slice ob an.value.length d, .int .u32 an.number, .bool an.is, .bool false, .slice nb2 an.numbers.length nd, .slice none 0 0] 73 (0, 0)), .blk xb (.cells #[.int .i64 an.fault, .slice oa an.value.length c, .int .u32 an.number, .bool an.is, .bool false, .slice na an.numbers.length nc, .slice none 0 0] 73 (0, 0))])
  case atStart => exact ⟨0, hidden (by omega), rfl, Nat.zero_le _, S.sel (by repeat (first | exact Sel.nil | (apply Sel.cons; (repeat (first | exact Pull.head | apply Pull.tail)))))⟩
  case round =>
    clear S
    obtain ⟨k, hg, rfl, hkn, S⟩ := hrel
    by_cases hlt : k < an.numbers.length
    · have e0 : (an.numbers.map fun n => Value.int .i64 n)[k]? = some (.int .i64 an.numbers[k]) := by rw [List.getElem?_map, List.getElem?_eq_getElem hlt]; rfl
      obtain ⟨ad, rfl⟩ : ∃ ad, na = some ad := by
        cases na with
        | none => have h0 := hns.out.2.2.2; simp at h0; simp [h0] at hlt
        | some ad => exact ⟨ad, rfl⟩
      obtain ⟨bd, rfl⟩ : ∃ ad, nb2 = some ad := by
        cases nb2 with
        | none => have h0 := hns2.out.2.2.2; simp at h0; simp [h0] at hlt
        | some ad => exact ⟨ad, rfl⟩
      have g1 := hns.out.2.2.2 _ _ e0
      have g2 := hns2.out.2.2.2 _ _ e0
      generalize an.numbers[k] = z at *
      have b1 : (z != z) = false := bne_self_eq_false _
      go_wp2_with (((with_reducible show Code.wp _ (Code.region _ _ true) _ _ _); refine St.regionLast S ?_; (repeat (first | (go_big_quiet_step (fail)) | (go_big_quiet_want; (first | refine quiet_ld S ?_ | refine quiet_ldc S ?_); go_big_quiet_on))); refine wpQuiet_nil ?_; clear S; intro wq S))
      go_roundg (gk - 1)
      case measure => have := hg.out; omega
      case rel => exact ⟨k + 1, hidden (by have := hg.out; omega), by go_num, by omega, S.sel (by repeat (first | exact Sel.nil | (apply Sel.cons; (repeat (first | exact Pull.head | apply Pull.tail)))))⟩
    · have hkl : k = an.numbers.length := by omega
      replace hkl := hidden hkl
      go_wp2_with (fail)
      ((first | go_ret | go_ret2 | go_ret3 | go_end0 | skip); refine hR.out _ _ ?_)
      exact ⟨rfl, S.sel (by repeat (first | exact Sel.nil | (apply Sel.cons; (repeat (first | exact Pull.head | apply Pull.tail)))))⟩

set_option maxHeartbeats 1600000 in
theorem riSame (an : FAns) (cs1 cs2 : List Value) (w : World) (h1 : FAnsV w an cs1) (h2 : FAnsV w an cs2) :
    Calls Tryd.prog 26 #[.agg cs1.toArray, .agg cs2.toArray] w fun e w' => e = .returned (.bool true) ∧ St w [] w' [] := by
  have S := St.begin w
  have k1 := hidden h1
  have k2 := hidden h2
  obtain ⟨oa, c, na, nc, rfl, hs, hc, hm, hns, hnc, hnm⟩ := h1
  obtain ⟨ob, d, nb2, nd, rfl, hs2, hd, hm2, hns2, hnd, _⟩ := h2
  clear hs hs2 hns hns2
  refine Calls.cps ?_; intro R hR
  go_enter Tryd.func26, Tryd.ntmps26
  go_wp2_with (first | (refine wpList_box S ?_; (clear S; first | (have hz := hxb; clear hz; intro yb wY hyb S) | (intro xb wX hxb S))) | (refine wpList_ldA S ?_))
  refine Calls.mono (sameFree an _ _ _ (k1.out.on S.chg) (k2.out.on S.chg)) ?_
  rintro e w2 ⟨rfl, C⟩
  have S2 := S.call C; clear S C; simp only [List.cons_append, List.nil_append] at S2; have S := S2; clear S2
  go_wp2_with ((refine wpList_ld S ?_))
  go_loopg [5, 6, 7, 24] 0 (fun g x a b i wr => i = .int .i64 0 ∧ St w [] wr [])
  case atStart => exact ⟨rfl, S.sel (by repeat (first | exact Sel.nil | (apply Sel.cons; (repeat (first | exact Pull.head | apply Pull.tail)))))⟩
  case round =>
    clear S
    obtain ⟨rfl, S⟩ := hrel
    go_wp2_with (fail)
    ((first | go_ret | go_ret2 | go_ret3 | go_end0 | skip); refine hR.out _ _ ?_)
    exact ⟨rfl, S.sel (by repeat (first | exact Sel.nil | (apply Sel.cons; (repeat (first | exact Pull.head | apply Pull.tail)))))⟩
end Go.Proofs.YtbklhnpnkinadaaDoor
end
