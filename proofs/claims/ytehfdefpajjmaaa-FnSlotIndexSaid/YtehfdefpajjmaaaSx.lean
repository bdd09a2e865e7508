/- A hash belongs ahead of the first one in a slot that is not less: for all lists of at most 300 hashes that rise (of a list of more than 2147483647 hashes nothing is asked; of a longer list than 300, its first 300 are looked at). -/
import Derived.Test.YtehfdefpajjmaaaTy
import Derived.Test.YtehfdefpajjmaaaMore
import Derived.Deep.LoopGhost
namespace Go.Proofs.Ytehfdefpajjmaaa
open Go.RowKit Go.Vil
set_option linter.unusedSimpArgs false
set_option linter.unusedVariables false

/-- Hashes lie in cells, each so many cells behind the last one. -/
def Lies (cs : List Value) (st off : Nat) (xs : List Int) : Prop := ∀ (j : Nat) (x : Int), xs[j]? = some x → cs[j * st + off]? = some (.int .u16 x)
def Rises (xs : List Int) : Prop := ∀ (i j : Nat) (x y : Int), i ≤ j → xs[i]? = some x → xs[j]? = some y → x ≤ y
def LowB (xs : List Int) (h : Int) (r : Nat) : Prop := r ≤ xs.length ∧ (∀ (i : Nat) (x : Int), i < r → xs[i]? = some x → x < h) ∧ (∀ (i : Nat) (x : Int), r ≤ i → xs[i]? = some x → h ≤ x)

set_option maxHeartbeats 800000 in
theorem ptrIdx (b n : Nat) (cs : List Value) (xs : List Int) (h : Int) (w : World) (T : TypeId) (M : Mem w [.blk b (.cells cs.toArray T (0, 0))]) (hx : xs.length = n) (hc : Lies cs 4 1 xs) (hs : Rises xs) (hn : n ≤ 300) :
    Calls Try.prog 53 #[.slice (some ⟨b, 0, none⟩) n n, .int .u16 h] w fun e w' => ∃ r : Nat, e = .returned (.int .i64 r) ∧ LowB xs h r ∧ St w [b] w' [.blk b (.cells cs.toArray T (0, 0))] := by
  have S : St w [b] w _ := St.start M
  clear M
  have hc := hidden hc
  have hs := hidden hs
  have hx := hidden hx
  go_enter Try.func53, Try.ntmps53
  go_wp2_with (first | ((with_reducible show Code.wp _ (Code.region _ _ true) _ _ _); refine St.regionLast S ?_; (repeat (first | (go_big_quiet_step (fail)) | (go_big_quiet_want; (first | refine quiet_ld S ?_ | refine quiet_ld8 S ?_ | refine quiet_ld0 ?_ | refine quiet_ldA S ?_ | refine quiet_b2sB S ?_ | refine quiet_b2sR S ?_ | refine quiet_ldc S ?_); go_big_quiet_on))); refine wpQuiet_nil ?_; clear S; intro wq S) | (refine wpList_ld S ?_) | (refine wpList_ld8 S ?_) | (refine wpList_ld0 ?_) | (refine wpList_ldA S ?_) | (refine wpList_st8 S ?_; (clear S; intro ws S)) | (refine wpList_st S ?_; (clear S; intro ws S)) | (refine wpList_box S ?_; (clear S; intro nb wb hnb S)) | (refine wpList_alloc S ?_; (clear S; intro nb wb hnb S)) | (refine wpList_mk8 S ?_; (clear S; intro nb wb hnb S)) | (refine wpList_mk S ?_; (clear S; intro nb wb hnb S)) | (refine wpList_bs S ?_; (clear S; intro nb wb hnb S)) | (refine wpList_stA S ?_; (clear S; intro ws S; simp only [splice, List.take_zero, List.take_succ_cons, List.drop_succ_cons, List.drop_zero, List.drop_nil, List.length_cons, List.length_nil, Nat.reduceAdd, Nat.zero_add, List.nil_append, List.cons_append, List.append_nil] at S)) | (refine wpList_b2sB S ?_) | (refine wpList_b2sR S ?_) | (refine wpList_ldc S ?_))
  go_loopg [4, 5] n (fun g i j wr => ∃ lo hi : Nat, lo ≤ hi ∧ hi ≤ n ∧ hi - lo ≤ g ∧ i = .int .i64 lo ∧ j = .int .i64 hi ∧ Hid (∀ (i : Nat) (x : Int), i < lo → xs[i]? = some x → x < h) ∧ Hid (∀ (i : Nat) (x : Int), hi ≤ i → xs[i]? = some x → h ≤ x) ∧ St w [b] wr [.blk b (.cells cs.toArray T (0, 0))])
  case atStart => exact ⟨0, n, by omega, by omega, by omega, rfl, rfl, hidden (by intro i x hi; omega), hidden (by intro i x hi hq; have := (List.getElem?_eq_some_iff.1 hq).1; have := hx.out; omega), S⟩
  case round =>
    obtain ⟨lo, hi, h1, h2, h3, rfl, rfl, hl, hr, S⟩ := hrel
    by_cases hlt : lo < hi
    · obtain ⟨mid, hm1, hm2, hmid⟩ : ∃ mid : Nat, lo ≤ mid ∧ mid < hi ∧ ((lo : Int) + (hi : Int)) / 2 = (mid : Int) := ⟨(lo + hi) / 2, by omega, by omega, by omega⟩
      obtain ⟨x, hxm⟩ : ∃ x, Hid (xs[mid]? = some x) := ⟨xs[mid]'(by have := hx.out; omega), hidden (List.getElem?_eq_getElem _)⟩
      have hq := hc.out mid x hxm.out
      by_cases hxh : x < h
      · go_wp2_with (refine wpList_ld S ?_ (hi := by assumption))
        go_roundg (gk - 1)
        case measure => omega
        case rel => exact ⟨mid + 1, hi, by omega, by omega, by omega, rfl, rfl, hidden (fun i y hi hy => by have := hs.out i mid y x (by omega) hy hxm.out; omega), hr, S⟩
      · go_wp2_with (refine wpList_ld S ?_ (hi := by assumption))
        go_roundg (gk - 1)
        case measure => omega
        case rel => exact ⟨lo, mid, by omega, by omega, by omega, rfl, rfl, hl, hidden (fun i y hi hy => by have := hs.out mid i x y (by omega) hxm.out hy; omega), S⟩
    · go_wp2_with (first | ((with_reducible show Code.wp _ (Code.region _ _ true) _ _ _); refine St.regionLast S ?_; (repeat (first | (go_big_quiet_step (fail)) | (go_big_quiet_want; (first | refine quiet_ld S ?_ | refine quiet_ld8 S ?_ | refine quiet_ld0 ?_ | refine quiet_ldA S ?_ | refine quiet_b2sB S ?_ | refine quiet_b2sR S ?_ | refine quiet_ldc S ?_); go_big_quiet_on))); refine wpQuiet_nil ?_; clear S; intro wq S) | (refine wpList_ld S ?_) | (refine wpList_ld8 S ?_) | (refine wpList_ld0 ?_) | (refine wpList_ldA S ?_) | (refine wpList_st8 S ?_; (clear S; intro ws S)) | (refine wpList_st S ?_; (clear S; intro ws S)) | (refine wpList_box S ?_; (clear S; intro nb wb hnb S)) | (refine wpList_alloc S ?_; (clear S; intro nb wb hnb S)) | (refine wpList_mk8 S ?_; (clear S; intro nb wb hnb S)) | (refine wpList_mk S ?_; (clear S; intro nb wb hnb S)) | (refine wpList_bs S ?_; (clear S; intro nb wb hnb S)) | (refine wpList_stA S ?_; (clear S; intro ws S; simp only [splice, List.take_zero, List.take_succ_cons, List.drop_succ_cons, List.drop_zero, List.drop_nil, List.length_cons, List.length_nil, Nat.reduceAdd, Nat.zero_add, List.nil_append, List.cons_append, List.append_nil] at S)) | (refine wpList_b2sB S ?_) | (refine wpList_b2sR S ?_) | (refine wpList_ldc S ?_))
      go_ret
      obtain rfl : hi = lo := by omega
      exact ⟨hi, rfl, ⟨by have := hx.out; omega, hl.out, hr.out⟩, S⟩

theorem Lies.set {cs : List Value} {st off : Nat} {xs : List Int} (h : Lies cs st off xs) (j : Nat) (z : Int) (hj : j < xs.length) (ho : off < st) (hl : j * st + off < cs.length) : Lies (cs.set (j * st + off) (.int .u16 z)) st off (xs.set j z) := by
  intro k x hk
  by_cases e : k = j
  · subst e
    rw [List.getElem?_set_self (by simpa using hj)] at hk
    cases hk
    rw [List.getElem?_set_self hl]
  · rw [List.getElem?_set_ne (fun h => e h.symm)] at hk
    rw [List.getElem?_set_ne ?_]
    · exact h k x hk
    · intro h'
      rcases Nat.lt_or_ge j k with hlt | hge
      · have : (j + 1) * st ≤ k * st := Nat.mul_le_mul_right _ hlt
        rw [Nat.add_mul] at this; omega
      · have : (k + 1) * st ≤ j * st := Nat.mul_le_mul_right _ (by omega)
        rw [Nat.add_mul] at this; omega

/-- make([]entryPtr, n). -/
theorem made_lies (n : Nat) : Lies (madeCells (Value.agg #[.int .i64 0, .int .u16 0, .int .u16 0, .int .u32 0]).cells (n * 4)).toList 4 1 (List.replicate n 0) := by
  intro j x hx
  have hj : j < n := by have := (List.getElem?_eq_some_iff.1 hx).1; simpa using this
  rw [List.getElem?_replicate] at hx
  simp [hj] at hx
  subst hx
  have h1 : j * 4 + 1 < n * 4 := by omega
  have h2 : (j * 4 + 1) % 4 = 1 := by omega
  simp [madeCells, h1, Value.cells, h2]
theorem wpList_mkP {P : Program} {ops : Array Oper} {Q : Exit → Act → World → Prop} {rest : List Oper} {o : Oper} {a : Act} {w w0 : World} {bs : List Nat} {L : List Res} (S : St w0 bs w L) {a' : Nat → Act} {ty e : TypeId} {x y : Operand} {z : Value} {size bytes : Nat} {kl kc : IntKind} {l c : Int} (n : Nat)
    (k : ∀ b w', w0.heap.size ≤ b → St w0 bs w' (.blk b (.cells (madeCells z.cells (n * size)).toList.toArray e (0, 0)) :: L) → wpList P ops Q rest (a' b) w')
    (hw : Region.wanted o (yielded ops a.tmps) = true := by rfl) (ho : o.op = .makeSlice ty x y := by rfl) (ht : TSlice P ty e := by infer_instance) (he : TElem P e z size bytes := by infer_instance)
    (hx : slot a x = some (.int kl l) := by rfl) (hy : slot a y = some (.int kc c) := by rfl)
    (hln : l = (n : Int) := by omega) (hcn : c = (n : Int) := by omega) (hb : bytes * c ≤ 281474976710656 := by omega) (h63 : c ≤ 9223372036854775807 := by omega)
    (hput : ∀ b, Put a o.dst (.slice (some ⟨b, 0, none⟩) n n) (a' b) := by (intro _; exact put_of (by conv => lhs; simp only [List.set_cons_succ, List.set_cons_zero]))) : wpList P ops Q (o :: rest) a w := by
  obtain ⟨i, hi, hz, hs, hby, hzs⟩ := he.is
  subst hln hcn
  have hr := run_make (P := P) w ty e i z ht.is hi hz kl kc (n : Int) (n : Int) (by omega) (by omega) (by rw [hby]; exact hb) h63
  rw [hs, Int.toNat_natCast] at hr
  refine wpList_run hw (w' := w.alloc (.cells (madeCells z.cells (n * size)) e)) (v := .slice (some ⟨w.heap.size, 0, none⟩) n n) ?_ (by rw [(hput _).is]; exact k _ _ S.chg.size (S.alloc _))
  simp [execOp, ho, eval_slot hx, eval_slot hy, hr]

set_option maxHeartbeats 800000 in
theorem zzIndex (b n cap : Nat) (cs : List Value) (xs : List Int) (h : Int) (w : World) (T : TypeId) (M : Mem w [.blk b (.cells cs.toArray T (0, 0))]) (hx : xs.length = n) (hc : Lies cs 1 0 xs) (hs : Rises xs) (hn : n ≤ 300) (hcap : n ≤ cap) :
    Calls Try.prog 39 #[.slice (some ⟨b, 0, none⟩) n cap, .int .u16 h] w fun e w' => ∃ r : Nat, e = .returned (.int .i64 r) ∧ LowB xs h r ∧ St w [b] w' [.blk b (.cells cs.toArray T (0, 0))] := by
  have S : St w [b] w _ := St.start M
  clear M
  have hc := hidden hc
  have hs := hidden hs
  have hx := hidden hx
  go_enter Try.func39, Try.ntmps39
  go_wp2_with (refine wpList_mkP S n ?_; (clear S; intro nb wb hnb S))
  obtain ⟨ps, hps⟩ : ∃ ps, (madeCells (Value.agg #[.int .i64 0, .int .u16 0, .int .u16 0, .int .u32 0]).cells (n * 4)).toList = ps := ⟨_, rfl⟩
  have hl0 := made_lies n
  have hlen : ps.length = n * 4 := by rw [← hps]; simp [size_madeCells]
  rw [hps] at S hl0
  clear hps
  have hl0 := hidden hl0
  go_loopg [6, 12] n (fun g s i wr => ∃ (j : Nat) (ps : List Value) (ys : List Int), j + g = n ∧ i = .int .i64 j ∧ ps.length = n * 4 ∧ ys.length = n ∧ Hid (Lies ps 4 1 ys) ∧ Hid (ys.take j = xs.take j) ∧ St w [b] wr [.blk nb (.cells ps.toArray 71 (0, 0)), .blk b (.cells cs.toArray T (0, 0))])
  case atStart => exact ⟨0, ps, List.replicate n 0, by omega, rfl, hlen, by simp, hl0, hidden (by simp), S⟩
  case round =>
    obtain ⟨j, ps, ys, hj, rfl, hpl, hyl, hl, ht, S⟩ := hrel
    by_cases hlt : j < n
    · obtain ⟨x, hxm⟩ : ∃ x, Hid (xs[j]? = some x) := ⟨xs[j]'(by have := hx.out; omega), hidden (List.getElem?_eq_getElem _)⟩
      have hq : cs[j]? = some (Value.int .u16 x) := by have := hc.out j x hxm.out; simpa using this
      go_wp2_with (first | (refine wpList_ld S ?_ (hi := by assumption)) | (refine wpList_stG S ?_; (clear S; intro ws S)))
      go_roundg (gk - 1)
      case measure => omega
      case rel =>
        refine ⟨j + 1, _, ys.set j x, by omega, rfl, ?_, by simp [hyl], hidden (hl.out.set j x (by omega) (by omega) (by omega)), hidden ?_, S⟩
        · simp [hpl]
        · have hxj := hxm.out
          obtain ⟨hj1, hj2⟩ := List.getElem?_eq_some_iff.1 hxj
          rw [List.take_succ_eq_append_getElem (by simp; omega), List.take_succ_eq_append_getElem hj1, List.getElem_set_self, hj2, ← ht.out, List.take_set_of_le (by omega)]
    · go_wp2_with (refine wpList_ld S ?_ (hi := by assumption))
      have e : ys = xs := by
        have h1 := ht.out
        rw [List.take_of_length_le (by omega), List.take_of_length_le (by have := hx.out; omega)] at h1
        exact h1
      subst e
      refine Calls.mono (ptrIdx nb n ps ys h _ _ S.sel1 hx.out hl.out hs.out hn) ?_
      rintro e w2 ⟨r, rfl, hr, C⟩
      have S2 := S.call C; clear S C; simp only [List.cons_append, List.nil_append] at S2; have S := S2; clear S2
      go_wp2_with (first | ((with_reducible show Code.wp _ (Code.region _ _ true) _ _ _); refine St.regionLast S ?_; (repeat (first | (go_big_quiet_step (fail)) | (go_big_quiet_want; (first | refine quiet_ld S ?_ | refine quiet_ld8 S ?_ | refine quiet_ld0 ?_ | refine quiet_ldA S ?_ | refine quiet_b2sB S ?_ | refine quiet_b2sR S ?_ | refine quiet_ldc S ?_); go_big_quiet_on))); refine wpQuiet_nil ?_; clear S; intro wq S) | (refine wpList_ld S ?_) | (refine wpList_ld8 S ?_) | (refine wpList_ld0 ?_) | (refine wpList_ldA S ?_) | (refine wpList_st8 S ?_; (clear S; intro ws S)) | (refine wpList_st S ?_; (clear S; intro ws S)) | (refine wpList_box S ?_; (clear S; intro nb wb hnb S)) | (refine wpList_alloc S ?_; (clear S; intro nb wb hnb S)) | (refine wpList_mk8 S ?_; (clear S; intro nb wb hnb S)) | (refine wpList_mk S ?_; (clear S; intro nb wb hnb S)) | (refine wpList_bs S ?_; (clear S; intro nb wb hnb S)) | (refine wpList_stA S ?_; (clear S; intro ws S; simp only [splice, List.take_zero, List.take_succ_cons, List.drop_succ_cons, List.drop_zero, List.drop_nil, List.length_cons, List.length_nil, Nat.reduceAdd, Nat.zero_add, List.nil_append, List.cons_append, List.append_nil] at S)) | (refine wpList_b2sB S ?_) | (refine wpList_b2sR S ?_) | (refine wpList_ldc S ?_))
      go_ret
      exact ⟨r, rfl, hr, S.sel (by repeat (first | exact Sel.nil | (apply Sel.cons; (repeat (first | exact Pull.head | apply Pull.tail)))))⟩

theorem implIndex (b n cap : Nat) (cs : List Value) (xs : List Int) (h : Int) (w : World) (T : TypeId) (M : Mem w [.blk b (.cells cs.toArray T (0, 0))]) (hx : xs.length = n) (hc : Lies cs 1 0 xs) (hs : Rises xs) (hn : n ≤ 300) (hcap : n ≤ cap) :
    Calls Try.prog 24 #[.slice (some ⟨b, 0, none⟩) n cap, .int .u16 h] w fun e w' => ∃ r : Nat, e = .returned (.int .i64 r) ∧ LowB xs h r ∧ St w [b] w' [.blk b (.cells cs.toArray T (0, 0))] := by
  have S : St w [b] w _ := St.start M
  clear M
  have hc := hidden hc
  have hs := hidden hs
  have hx := hidden hx
  go_enter Try.func24, Try.ntmps24
  go_wp2_with (first | ((with_reducible show Code.wp _ (Code.region _ _ true) _ _ _); refine St.regionLast S ?_; (repeat (first | (go_big_quiet_step (fail)) | (go_big_quiet_want; (first | refine quiet_ld S ?_ | refine quiet_ld8 S ?_ | refine quiet_ld0 ?_ | refine quiet_ldA S ?_ | refine quiet_b2sB S ?_ | refine quiet_b2sR S ?_ | refine quiet_ldc S ?_); go_big_quiet_on))); refine wpQuiet_nil ?_; clear S; intro wq S) | (refine wpList_ld S ?_) | (refine wpList_ld8 S ?_) | (refine wpList_ld0 ?_) | (refine wpList_ldA S ?_) | (refine wpList_st8 S ?_; (clear S; intro ws S)) | (refine wpList_st S ?_; (clear S; intro ws S)) | (refine wpList_box S ?_; (clear S; intro nb wb hnb S)) | (refine wpList_alloc S ?_; (clear S; intro nb wb hnb S)) | (refine wpList_mk8 S ?_; (clear S; intro nb wb hnb S)) | (refine wpList_mk S ?_; (clear S; intro nb wb hnb S)) | (refine wpList_bs S ?_; (clear S; intro nb wb hnb S)) | (refine wpList_stA S ?_; (clear S; intro ws S; simp only [splice, List.take_zero, List.take_succ_cons, List.drop_succ_cons, List.drop_zero, List.drop_nil, List.length_cons, List.length_nil, Nat.reduceAdd, Nat.zero_add, List.nil_append, List.cons_append, List.append_nil] at S)) | (refine wpList_b2sB S ?_) | (refine wpList_b2sR S ?_) | (refine wpList_ldc S ?_))
  refine Calls.mono (zzIndex b n cap cs xs h _ _ S.sel1 hx.out hc.out hs.out hn hcap) ?_
  rintro e w2 ⟨r, rfl, hr, C⟩
  have S2 := S.call C; clear S C; simp only [List.cons_append, List.nil_append] at S2; have S := S2; clear S2
  go_wp2_with (first | ((with_reducible show Code.wp _ (Code.region _ _ true) _ _ _); refine St.regionLast S ?_; (repeat (first | (go_big_quiet_step (fail)) | (go_big_quiet_want; (first | refine quiet_ld S ?_ | refine quiet_ld8 S ?_ | refine quiet_ld0 ?_ | refine quiet_ldA S ?_ | refine quiet_b2sB S ?_ | refine quiet_b2sR S ?_ | refine quiet_ldc S ?_); go_big_quiet_on))); refine wpQuiet_nil ?_; clear S; intro wq S) | (refine wpList_ld S ?_) | (refine wpList_ld8 S ?_) | (refine wpList_ld0 ?_) | (refine wpList_ldA S ?_) | (refine wpList_st8 S ?_; (clear S; intro ws S)) | (refine wpList_st S ?_; (clear S; intro ws S)) | (refine wpList_box S ?_; (clear S; intro nb wb hnb S)) | (refine wpList_alloc S ?_; (clear S; intro nb wb hnb S)) | (refine wpList_mk8 S ?_; (clear S; intro nb wb hnb S)) | (refine wpList_mk S ?_; (clear S; intro nb wb hnb S)) | (refine wpList_bs S ?_; (clear S; intro nb wb hnb S)) | (refine wpList_stA S ?_; (clear S; intro ws S; simp only [splice, List.take_zero, List.take_succ_cons, List.drop_succ_cons, List.drop_zero, List.drop_nil, List.length_cons, List.length_nil, Nat.reduceAdd, Nat.zero_add, List.nil_append, List.cons_append, List.append_nil] at S)) | (refine wpList_b2sB S ?_) | (refine wpList_b2sR S ?_) | (refine wpList_ldc S ?_))
  go_ret
  exact ⟨r, rfl, hr, S⟩
end Go.Proofs.Ytehfdefpajjmaaa
