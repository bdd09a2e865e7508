/- The tape of the reference: what is there, bytes added, another size. -/
import Derived.Test.YtbklhnpnkinadaaDoorTb
import Derived.Test.YtbklhnpnkinadaaDoorTaP
import Derived.Test.YtbklhnpnkinadaaDoorMore
namespace Go.Proofs.YtbklhnpnkinadaaDoor
open Go Go.RowKit Go.Vil
set_option linter.unusedSimpArgs false
set_option linter.unusedVariables false
set_option maxRecDepth 100000

/-- Bytes that are there as long as some things are. -/
def Seen (w0 : World) (bs : List Nat) (F : List Res) (v : Value) (n : Nat) (xs : List UInt8) : Prop := ∀ w, Mem w F → Chg bs w0 w → Src w 1 v n (u8s xs)
theorem Seen.of {w0 : World} {F : List Res} {v : Value} {n : Nat} {xs : List UInt8} (h : Src w0 1 v n (u8s xs)) : Seen w0 [] F v n xs := fun _ _ C => h.on C
theorem Seen.row {w0 : World} {bs : List Nat} {F : List Res} {e : TypeId} {v : Value} {n : Nat} {xs : List UInt8} (h : Res.row e 1 v n (u8s xs) ∈ F) : Seen w0 bs F v n xs := fun _ hM _ => Src.row (hM.2 _ h) (u8s_one _)
theorem TapeSt.mem {w0 w : World} {bs : List Nat} {tp : Nat} {t : Ta} {F : List Res} (h : TapeSt w0 bs w tp t F) : Mem w F ∧ Chg bs w0 w := by
  obtain ⟨vb, vk, S⟩ := h
  exact ⟨S.mem.tail.tail.tail, S.chg⟩

set_option maxHeartbeats 800000 in
theorem tapeThere (tp : Nat) (size b e o : Int) (vb vk : Value) (off n : Int) (w : World) (hM : Mem w [tHead tp size b e o vb vk])
    (he : 0 ≤ e ∧ e ≤ 1152921504606846976) (ho : -1152921504606846976 ≤ off ∧ off ≤ 1152921504606846976) :
    Calls Tryd.prog 27 #[.pointer (some ⟨tp, 0, none⟩), .int .i64 off, .int .i64 n] w fun e' w' => e' = .returned (.bool (decide (b ≤ off ∧ off ≤ e ∧ n ≤ e - off))) ∧ St w [tp] w' [tHead tp size b e o vb vk] := by
  have S : St w [tp] w [tHead tp size b e o vb vk] := St.start hM
  clear hM
  obtain ⟨he1, he2⟩ := he
  obtain ⟨ho1, ho2⟩ := ho
  refine Calls.cps ?_; intro R hR
  go_enter Tryd.func27, Tryd.ntmps27
  by_cases c1 : b ≤ off
  · have hb1 : decide (b ≤ off) = true := decide_eq_true c1
    by_cases c2 : off ≤ e
    · have hb2 : decide (off ≤ e) = true := decide_eq_true c2
      go_wp2_with (first | go_big_skip | ((with_reducible show Code.wp _ (Code.region _ _ true) _ _ _); refine St.regionLast S ?_; (repeat (first | (go_big_quiet_step (fail)) | (go_big_quiet_want; (first | refine quiet_ld S ?_ | refine quiet_ld8 S ?_ | refine quiet_ld0 ?_ | refine quiet_ldA S ?_ | refine quiet_b2sB S ?_ | refine quiet_b2sR S ?_ | refine quiet_ldc S ?_); go_big_quiet_on))); refine wpQuiet_nil ?_; clear S; intro wq S) | go_big_skip | (refine wpList_ld S ?_) | (refine wpList_ld8 S ?_) | (refine wpList_ld0 ?_) | (refine wpList_ldA S ?_) | (refine wpList_st8 S ?_; (clear S; intro ws S)) | (refine wpList_st S ?_; (clear S; intro ws S)) | (refine wpList_box S ?_; (clear S; intro nb wb hnb S)) | (refine wpList_alloc S ?_; (clear S; intro nb wb hnb S)) | (refine wpList_mk8 S ?_; (clear S; intro nb wb hnb S)) | (refine wpList_mk S ?_; (clear S; intro nb wb hnb S)) | (refine wpList_bs S ?_; (clear S; intro nb wb hnb S)) | (refine wpList_stA S ?_; (clear S; intro ws S; simp only [splice, List.take_zero, List.take_succ_cons, List.drop_succ_cons, List.drop_zero, List.drop_nil, List.length_cons, List.length_nil, Nat.reduceAdd, Nat.zero_add, List.nil_append, List.cons_append, List.append_nil] at S)) | (refine wpList_b2sB S ?_) | (refine wpList_b2sR S ?_) | (refine wpList_ldc S ?_))
      ((first | go_ret | go_ret2 | go_ret3 | go_end0 | skip); refine hR.out _ _ ?_)
      refine ⟨retB ?_, S⟩
      by_cases c3 : n ≤ e - off
      · rw [decide_eq_true c3, decide_eq_true ⟨c1, c2, c3⟩]
      · rw [decide_eq_false c3, decide_eq_false (fun h => c3 h.2.2)]
    · have hb2 : decide (off ≤ e) = false := decide_eq_false c2
      go_wp2_with (first | go_big_skip | ((with_reducible show Code.wp _ (Code.region _ _ true) _ _ _); refine St.regionLast S ?_; (repeat (first | (go_big_quiet_step (fail)) | (go_big_quiet_want; (first | refine quiet_ld S ?_ | refine quiet_ld8 S ?_ | refine quiet_ld0 ?_ | refine quiet_ldA S ?_ | refine quiet_b2sB S ?_ | refine quiet_b2sR S ?_ | refine quiet_ldc S ?_); go_big_quiet_on))); refine wpQuiet_nil ?_; clear S; intro wq S) | go_big_skip | (refine wpList_ld S ?_) | (refine wpList_ld8 S ?_) | (refine wpList_ld0 ?_) | (refine wpList_ldA S ?_) | (refine wpList_st8 S ?_; (clear S; intro ws S)) | (refine wpList_st S ?_; (clear S; intro ws S)) | (refine wpList_box S ?_; (clear S; intro nb wb hnb S)) | (refine wpList_alloc S ?_; (clear S; intro nb wb hnb S)) | (refine wpList_mk8 S ?_; (clear S; intro nb wb hnb S)) | (refine wpList_mk S ?_; (clear S; intro nb wb hnb S)) | (refine wpList_bs S ?_; (clear S; intro nb wb hnb S)) | (refine wpList_stA S ?_; (clear S; intro ws S; simp only [splice, List.take_zero, List.take_succ_cons, List.drop_succ_cons, List.drop_zero, List.drop_nil, List.length_cons, List.length_nil, Nat.reduceAdd, Nat.zero_add, List.nil_append, List.cons_append, List.append_nil] at S)) | (refine wpList_b2sB S ?_) | (refine wpList_b2sR S ?_) | (refine wpList_ldc S ?_))
      ((first | go_ret | go_ret2 | go_ret3 | go_end0 | skip); refine hR.out _ _ ?_)
      exact ⟨retB (by rw [decide_eq_false (by omega)]), S⟩
  · have hb1 : decide (b ≤ off) = false := decide_eq_false c1
    go_wp2_with (first | go_big_skip | ((with_reducible show Code.wp _ (Code.region _ _ true) _ _ _); refine St.regionLast S ?_; (repeat (first | (go_big_quiet_step (fail)) | (go_big_quiet_want; (first | refine quiet_ld S ?_ | refine quiet_ld8 S ?_ | refine quiet_ld0 ?_ | refine quiet_ldA S ?_ | refine quiet_b2sB S ?_ | refine quiet_b2sR S ?_ | refine quiet_ldc S ?_); go_big_quiet_on))); refine wpQuiet_nil ?_; clear S; intro wq S) | go_big_skip | (refine wpList_ld S ?_) | (refine wpList_ld8 S ?_) | (refine wpList_ld0 ?_) | (refine wpList_ldA S ?_) | (refine wpList_st8 S ?_; (clear S; intro ws S)) | (refine wpList_st S ?_; (clear S; intro ws S)) | (refine wpList_box S ?_; (clear S; intro nb wb hnb S)) | (refine wpList_alloc S ?_; (clear S; intro nb wb hnb S)) | (refine wpList_mk8 S ?_; (clear S; intro nb wb hnb S)) | (refine wpList_mk S ?_; (clear S; intro nb wb hnb S)) | (refine wpList_bs S ?_; (clear S; intro nb wb hnb S)) | (refine wpList_stA S ?_; (clear S; intro ws S; simp only [splice, List.take_zero, List.take_succ_cons, List.drop_succ_cons, List.drop_zero, List.drop_nil, List.length_cons, List.length_nil, Nat.reduceAdd, Nat.zero_add, List.nil_append, List.cons_append, List.append_nil] at S)) | (refine wpList_b2sB S ?_) | (refine wpList_b2sR S ?_) | (refine wpList_ldc S ?_))
    ((first | go_ret | go_ret2 | go_ret3 | go_end0 | skip); refine hR.out _ _ ?_)
    exact ⟨retB (by rw [decide_eq_false (by omega)]), S⟩

/-- A tape within bounds that grows by no more than a million bytes. -/
structure Mild (t : Ta) : Prop where
  fine : t.Fine
  e : t.e ≤ 562949953421312
  size : t.size ≤ 1048576
  len : t.bytes.length ≤ 536870912
theorem Mild.puts {t : Ta} (h : Mild t) (l : List (UInt8 × Bool)) (hl : l.length ≤ 1048576) : Calm (t.puts l) :=
  ⟨Ta.puts_fine l h.fine, by rw [Ta.puts_e]; have := h.e; omega, by rw [Ta.puts_size]; exact h.size, by rw [Ta.puts_bytes, List.length_append, List.length_map]; have := h.len; omega⟩

set_option maxHeartbeats 1600000 in
theorem tapeWrite (tp : Nat) (t : Ta) (p : List UInt8) (n c : Nat) (oa : Option Addr) (F : List Res) (w0 : World) (bs : List Nat) (w : World) (hS : TapeSt w0 bs w tp t F) (ht : Mild t) (hs : Seen w0 bs F (.slice oa n c) n p) (hn : n ≤ 1048576) :
    Calls Tryd.prog 19 #[.pointer (some ⟨tp, 0, none⟩), .slice oa n c] w fun e w' => e = .returned (.bool (decide (n ≤ t.size))) ∧ TapeSt w0 bs w' tp (if n ≤ t.size then t.puts (p.map fun c => (c, true)) else t) F := by
  have hpl := (hs w hS.mem.1 hS.mem.2).len8
  have hT := hidden hS
  obtain ⟨vb, vk, S⟩ := hS
  have h3 := ht.size
  replace hs := hidden hs
  replace ht := hidden ht
  replace hpl := hidden hpl
  refine Calls.cps ?_; intro R hR
  go_enter Tryd.func19, Tryd.ntmps19
  by_cases c0 : n ≤ t.size
  · rw [if_pos c0, decide_eq_true c0] at hR
    have hb0 : decide (t.size < n) = false := decide_eq_false (by omega)
    go_wp2_with (first | go_big_skip | ((with_reducible show Code.wp _ (Code.region _ _ true) _ _ _); refine St.regionLast S ?_; (repeat (first | (go_big_quiet_step (fail)) | (go_big_quiet_want; (first | refine quiet_ld S ?_ | refine quiet_ld8 S ?_ | refine quiet_ld0 ?_ | refine quiet_ldA S ?_ | refine quiet_b2sB S ?_ | refine quiet_b2sR S ?_ | refine quiet_ldc S ?_); go_big_quiet_on))); refine wpQuiet_nil ?_; clear S; intro wq S) | go_big_skip | (refine wpList_ld S ?_) | (refine wpList_ld8 S ?_) | (refine wpList_ld0 ?_) | (refine wpList_ldA S ?_) | (refine wpList_st8 S ?_; (clear S; intro ws S)) | (refine wpList_st S ?_; (clear S; intro ws S)) | (refine wpList_box S ?_; (clear S; intro nb wb hnb S)) | (refine wpList_alloc S ?_; (clear S; intro nb wb hnb S)) | (refine wpList_mk8 S ?_; (clear S; intro nb wb hnb S)) | (refine wpList_mk S ?_; (clear S; intro nb wb hnb S)) | (refine wpList_bs S ?_; (clear S; intro nb wb hnb S)) | (refine wpList_stA S ?_; (clear S; intro ws S; simp only [splice, List.take_zero, List.take_succ_cons, List.drop_succ_cons, List.drop_zero, List.drop_nil, List.length_cons, List.length_nil, Nat.reduceAdd, Nat.zero_add, List.nil_append, List.cons_append, List.append_nil] at S)) | (refine wpList_b2sB S ?_) | (refine wpList_b2sR S ?_) | (refine wpList_ldc S ?_))
    go_loopg [6, 16] n (fun g bv i wr => ∃ k : Nat, Hid (k + g = n) ∧ i = .int .i64 k ∧ k ≤ n ∧ Hid (TapeSt w0 bs wr tp (t.puts ((p.take k).map fun c => (c, true))) F))
    case atStart => exact ⟨0, hidden (by omega), rfl, Nat.zero_le _, hT⟩
    case round =>
      obtain ⟨k, hg, rfl, hkn, hT2⟩ := hrel
      by_cases hlt : k < n
      · have hsw := hs.out _ hT2.out.mem.1 hT2.out.mem.2
        cases oa with
        | none => have h1 := (hsw.2.2 : n = n ∧ u8s p = []).2; have h2 := hpl.out; simp [u8s] at h1; subst h1; simp at h2; omega
        | some ad =>
          have g1 := hsw.byte k hlt
          have hpk : p[k]? = some (p.getD k 0) := by simp [List.getD, List.getElem?_eq_getElem (show k < p.length by have := hpl.out; omega)]
          have hnext := hidden (show p.take (k + 1) = p.take k ++ [p.getD k 0] by rw [List.take_add_one, hpk]; rfl)
          have hcalm := ht.out.puts ((p.take k).map fun c => (c, true)) (by rw [List.length_map, List.length_take]; omega)
          replace hcalm := hidden hcalm
          clear hpk
          generalize p.getD k 0 = x at *
          have hT3 := hT2.out
          obtain ⟨vb2, vk2, S2⟩ := hT3
          have S3 : St wr [] wr [] := St.begin wr
          replace S2 := hidden S2
          go_wp2_with (first | (refine wpList_ldc S3 ?_) | go_big_skip | (refine wpList_ld S ?_) | (refine wpList_ld8 S ?_) | (refine wpList_ld0 ?_) | (refine wpList_ldA S ?_) | (refine wpList_st8 S ?_; (clear S; intro ws S)) | (refine wpList_st S ?_; (clear S; intro ws S)) | (refine wpList_box S ?_; (clear S; intro nb wb hnb S)) | (refine wpList_alloc S ?_; (clear S; intro nb wb hnb S)) | (refine wpList_mk8 S ?_; (clear S; intro nb wb hnb S)) | (refine wpList_mk S ?_; (clear S; intro nb wb hnb S)) | (refine wpList_bs S ?_; (clear S; intro nb wb hnb S)) | (refine wpList_stA S ?_; (clear S; intro ws S; simp only [splice, List.take_zero, List.take_succ_cons, List.drop_succ_cons, List.drop_zero, List.drop_nil, List.length_cons, List.length_nil, Nat.reduceAdd, Nat.zero_add, List.nil_append, List.cons_append, List.append_nil] at S)) | (refine wpList_b2sB S ?_) | (refine wpList_b2sR S ?_) | (refine wpList_ldc S ?_))
          refine Calls.mono (tapePut tp _ x true F w0 bs _ hT2.out hcalm.out) ?_
          rintro e w2 ⟨rfl, hT3⟩
          replace hT3 := hidden hT3
          clear S3 S2
          go_wp2_with (first | go_big_skip | (refine wpList_ld S ?_) | (refine wpList_ld8 S ?_) | (refine wpList_ld0 ?_) | (refine wpList_ldA S ?_) | (refine wpList_st8 S ?_; (clear S; intro ws S)) | (refine wpList_st S ?_; (clear S; intro ws S)) | (refine wpList_box S ?_; (clear S; intro nb wb hnb S)) | (refine wpList_alloc S ?_; (clear S; intro nb wb hnb S)) | (refine wpList_mk8 S ?_; (clear S; intro nb wb hnb S)) | (refine wpList_mk S ?_; (clear S; intro nb wb hnb S)) | (refine wpList_bs S ?_; (clear S; intro nb wb hnb S)) | (refine wpList_stA S ?_; (clear S; intro ws S; simp only [splice, List.take_zero, List.take_succ_cons, List.drop_succ_cons, List.drop_zero, List.drop_nil, List.length_cons, List.length_nil, Nat.reduceAdd, Nat.zero_add, List.nil_append, List.cons_append, List.append_nil] at S)) | (refine wpList_b2sB S ?_) | (refine wpList_b2sR S ?_) | (refine wpList_ldc S ?_))
          go_roundg (gk - 1)
          case measure => have := hg.out; omega
          case rel =>
            refine ⟨k + 1, hidden (by have := hg.out; omega), by go_num, by omega, hidden ?_⟩
            rw [hnext.out, List.map_append, List.map_cons, List.map_nil, Ta.puts_snoc]
            exact hT3.out
      · have hkl : k = n := by omega
        have hend := hidden (show p.take k = p from List.take_of_length_le (by have := hpl.out; omega))
        replace hkl := hidden hkl
        go_wp2_with (first | go_big_skip | (refine wpList_ld S ?_) | (refine wpList_ld8 S ?_) | (refine wpList_ld0 ?_) | (refine wpList_ldA S ?_) | (refine wpList_st8 S ?_; (clear S; intro ws S)) | (refine wpList_st S ?_; (clear S; intro ws S)) | (refine wpList_box S ?_; (clear S; intro nb wb hnb S)) | (refine wpList_alloc S ?_; (clear S; intro nb wb hnb S)) | (refine wpList_mk8 S ?_; (clear S; intro nb wb hnb S)) | (refine wpList_mk S ?_; (clear S; intro nb wb hnb S)) | (refine wpList_bs S ?_; (clear S; intro nb wb hnb S)) | (refine wpList_stA S ?_; (clear S; intro ws S; simp only [splice, List.take_zero, List.take_succ_cons, List.drop_succ_cons, List.drop_zero, List.drop_nil, List.length_cons, List.length_nil, Nat.reduceAdd, Nat.zero_add, List.nil_append, List.cons_append, List.append_nil] at S)) | (refine wpList_b2sB S ?_) | (refine wpList_b2sR S ?_) | (refine wpList_ldc S ?_))
        ((first | go_ret | go_ret2 | go_ret3 | go_end0 | skip); refine hR.out _ _ ?_)
        rw [hend.out] at hT2
        exact ⟨rfl, hT2.out⟩
  · rw [if_neg c0, decide_eq_false c0] at hR
    go_wp2_with (first | go_big_skip | ((with_reducible show Code.wp _ (Code.region _ _ true) _ _ _); refine St.regionLast S ?_; (repeat (first | (go_big_quiet_step (fail)) | (go_big_quiet_want; (first | refine quiet_ld S ?_ | refine quiet_ld8 S ?_ | refine quiet_ld0 ?_ | refine quiet_ldA S ?_ | refine quiet_b2sB S ?_ | refine quiet_b2sR S ?_ | refine quiet_ldc S ?_); go_big_quiet_on))); refine wpQuiet_nil ?_; clear S; intro wq S) | go_big_skip | (refine wpList_ld S ?_) | (refine wpList_ld8 S ?_) | (refine wpList_ld0 ?_) | (refine wpList_ldA S ?_) | (refine wpList_st8 S ?_; (clear S; intro ws S)) | (refine wpList_st S ?_; (clear S; intro ws S)) | (refine wpList_box S ?_; (clear S; intro nb wb hnb S)) | (refine wpList_alloc S ?_; (clear S; intro nb wb hnb S)) | (refine wpList_mk8 S ?_; (clear S; intro nb wb hnb S)) | (refine wpList_mk S ?_; (clear S; intro nb wb hnb S)) | (refine wpList_bs S ?_; (clear S; intro nb wb hnb S)) | (refine wpList_stA S ?_; (clear S; intro ws S; simp only [splice, List.take_zero, List.take_succ_cons, List.drop_succ_cons, List.drop_zero, List.drop_nil, List.length_cons, List.length_nil, Nat.reduceAdd, Nat.zero_add, List.nil_append, List.cons_append, List.append_nil] at S)) | (refine wpList_b2sB S ?_) | (refine wpList_b2sR S ?_) | (refine wpList_ldc S ?_))
    ((first | go_ret | go_ret2 | go_ret3 | go_end0 | skip); refine hR.out _ _ ?_)
    exact ⟨rfl, vb, vk, S⟩

set_option maxHeartbeats 1600000 in
theorem tapeSkip (tp : Nat) (t : Ta) (n : Nat) (F : List Res) (w0 : World) (bs : List Nat) (w : World) (hS : TapeSt w0 bs w tp t F) (ht : Mild t) (hn : n ≤ 1048576) :
    Calls Tryd.prog 32 #[.pointer (some ⟨tp, 0, none⟩), .int .i64 n] w fun e w' => e = .returned (.tuple #[]) ∧ TapeSt w0 bs w' tp (t.puts (List.replicate n (0, false))) F := by
  have hT := hidden hS
  replace ht := hidden ht
  clear hS
  refine Calls.cps ?_; intro R hR
  go_enter Tryd.func32, Tryd.ntmps32
  go_wp2_with (first | go_big_skip | (refine wpList_ld S ?_) | (refine wpList_ld8 S ?_) | (refine wpList_ld0 ?_) | (refine wpList_ldA S ?_) | (refine wpList_st8 S ?_; (clear S; intro ws S)) | (refine wpList_st S ?_; (clear S; intro ws S)) | (refine wpList_box S ?_; (clear S; intro nb wb hnb S)) | (refine wpList_alloc S ?_; (clear S; intro nb wb hnb S)) | (refine wpList_mk8 S ?_; (clear S; intro nb wb hnb S)) | (refine wpList_mk S ?_; (clear S; intro nb wb hnb S)) | (refine wpList_bs S ?_; (clear S; intro nb wb hnb S)) | (refine wpList_stA S ?_; (clear S; intro ws S; simp only [splice, List.take_zero, List.take_succ_cons, List.drop_succ_cons, List.drop_zero, List.drop_nil, List.length_cons, List.length_nil, Nat.reduceAdd, Nat.zero_add, List.nil_append, List.cons_append, List.append_nil] at S)) | (refine wpList_b2sB S ?_) | (refine wpList_b2sR S ?_) | (refine wpList_ldc S ?_))
  go_loopg [4] n (fun g i wr => ∃ k : Nat, Hid (k + g = n) ∧ i = .int .i64 k ∧ k ≤ n ∧ Hid (TapeSt w0 bs wr tp (t.puts (List.replicate k (0, false))) F))
  case atStart => exact ⟨0, hidden (by omega), rfl, Nat.zero_le _, hT⟩
  case round =>
    obtain ⟨k, hg, rfl, hkn, hT2⟩ := hrel
    by_cases hlt : k < n
    · have hcalm := hidden (ht.out.puts (List.replicate k (0, false)) (by rw [List.length_replicate]; omega))
      go_wp2_with (first | go_big_skip | (refine wpList_ld S ?_) | (refine wpList_ld8 S ?_) | (refine wpList_ld0 ?_) | (refine wpList_ldA S ?_) | (refine wpList_st8 S ?_; (clear S; intro ws S)) | (refine wpList_st S ?_; (clear S; intro ws S)) | (refine wpList_box S ?_; (clear S; intro nb wb hnb S)) | (refine wpList_alloc S ?_; (clear S; intro nb wb hnb S)) | (refine wpList_mk8 S ?_; (clear S; intro nb wb hnb S)) | (refine wpList_mk S ?_; (clear S; intro nb wb hnb S)) | (refine wpList_bs S ?_; (clear S; intro nb wb hnb S)) | (refine wpList_stA S ?_; (clear S; intro ws S; simp only [splice, List.take_zero, List.take_succ_cons, List.drop_succ_cons, List.drop_zero, List.drop_nil, List.length_cons, List.length_nil, Nat.reduceAdd, Nat.zero_add, List.nil_append, List.cons_append, List.append_nil] at S)) | (refine wpList_b2sB S ?_) | (refine wpList_b2sR S ?_) | (refine wpList_ldc S ?_))
      refine Calls.mono (tapePut tp _ 0 false F w0 bs _ hT2.out hcalm.out) ?_
      rintro e w2 ⟨rfl, hT3⟩
      replace hT3 := hidden hT3
      go_wp2_with (first | go_big_skip | (refine wpList_ld S ?_) | (refine wpList_ld8 S ?_) | (refine wpList_ld0 ?_) | (refine wpList_ldA S ?_) | (refine wpList_st8 S ?_; (clear S; intro ws S)) | (refine wpList_st S ?_; (clear S; intro ws S)) | (refine wpList_box S ?_; (clear S; intro nb wb hnb S)) | (refine wpList_alloc S ?_; (clear S; intro nb wb hnb S)) | (refine wpList_mk8 S ?_; (clear S; intro nb wb hnb S)) | (refine wpList_mk S ?_; (clear S; intro nb wb hnb S)) | (refine wpList_bs S ?_; (clear S; intro nb wb hnb S)) | (refine wpList_stA S ?_; (clear S; intro ws S; simp only [splice, List.take_zero, List.take_succ_cons, List.drop_succ_cons, List.drop_zero, List.drop_nil, List.length_cons, List.length_nil, Nat.reduceAdd, Nat.zero_add, List.nil_append, List.cons_append, List.append_nil] at S)) | (refine wpList_b2sB S ?_) | (refine wpList_b2sR S ?_) | (refine wpList_ldc S ?_))
      go_roundg (gk - 1)
      case measure => have := hg.out; omega
      case rel =>
        refine ⟨k + 1, hidden (by have := hg.out; omega), by go_num, by omega, hidden ?_⟩
        rw [show List.replicate (k + 1) ((0 : UInt8), false) = List.replicate k (0, false) ++ [(0, false)] from List.replicate_succ', Ta.puts_snoc]
        exact hT3.out
    · have hkl : k = n := by omega
      subst hkl
      go_wp2_with (first | go_big_skip | (refine wpList_ld S ?_) | (refine wpList_ld8 S ?_) | (refine wpList_ld0 ?_) | (refine wpList_ldA S ?_) | (refine wpList_st8 S ?_; (clear S; intro ws S)) | (refine wpList_st S ?_; (clear S; intro ws S)) | (refine wpList_box S ?_; (clear S; intro nb wb hnb S)) | (refine wpList_alloc S ?_; (clear S; intro nb wb hnb S)) | (refine wpList_mk8 S ?_; (clear S; intro nb wb hnb S)) | (refine wpList_mk S ?_; (clear S; intro nb wb hnb S)) | (refine wpList_bs S ?_; (clear S; intro nb wb hnb S)) | (refine wpList_stA S ?_; (clear S; intro ws S; simp only [splice, List.take_zero, List.take_succ_cons, List.drop_succ_cons, List.drop_zero, List.drop_nil, List.length_cons, List.length_nil, Nat.reduceAdd, Nat.zero_add, List.nil_append, List.cons_append, List.append_nil] at S)) | (refine wpList_b2sB S ?_) | (refine wpList_b2sR S ?_) | (refine wpList_ldc S ?_))
      ((first | go_ret | go_ret2 | go_ret3 | go_end0 | skip); refine hR.out _ _ ?_)
      exact ⟨rfl, hT2.out⟩

set_option maxHeartbeats 800000 in
theorem tapeResize (tp : Nat) (t : Ta) (n : Nat) (F : List Res) (w0 : World) (bs : List Nat) (w : World) (hS : TapeSt w0 bs w tp t F) (ht : Mild t) (hn : n ≤ 1048576) :
    Calls Tryd.prog 31 #[.pointer (some ⟨tp, 0, none⟩), .int .i64 n] w fun e w' => e = .returned (.tuple #[]) ∧ TapeSt w0 bs w' tp (t.resize n) F := by
  obtain ⟨vb, vk, S⟩ := hS
  have h2 := ht.e
  have h5 := ht.fine.be
  replace ht := hidden ht
  refine Calls.cps ?_; intro R hR
  go_enter Tryd.func31, Tryd.ntmps31
  go_wp2_with (first | go_big_skip | ((with_reducible show Code.wp _ (Code.region _ _ true) _ _ _); refine St.regionLast S ?_; (repeat (first | (go_big_quiet_step (fail)) | (go_big_quiet_want; (first | refine quiet_ld S ?_ | refine quiet_ld8 S ?_ | refine quiet_ld0 ?_ | refine quiet_ldA S ?_ | refine quiet_b2sB S ?_ | refine quiet_b2sR S ?_ | refine quiet_ldc S ?_); go_big_quiet_on))); refine wpQuiet_nil ?_; clear S; intro wq S) | go_big_skip | (refine wpList_ld S ?_) | (refine wpList_ld8 S ?_) | (refine wpList_ld0 ?_) | (refine wpList_ldA S ?_) | (refine wpList_st8 S ?_; (clear S; intro ws S)) | (refine wpList_st S ?_; (clear S; intro ws S)) | (refine wpList_box S ?_; (clear S; intro nb wb hnb S)) | (refine wpList_alloc S ?_; (clear S; intro nb wb hnb S)) | (refine wpList_mk8 S ?_; (clear S; intro nb wb hnb S)) | (refine wpList_mk S ?_; (clear S; intro nb wb hnb S)) | (refine wpList_bs S ?_; (clear S; intro nb wb hnb S)) | (refine wpList_stA S ?_; (clear S; intro ws S; simp only [splice, List.take_zero, List.take_succ_cons, List.drop_succ_cons, List.drop_zero, List.drop_nil, List.length_cons, List.length_nil, Nat.reduceAdd, Nat.zero_add, List.nil_append, List.cons_append, List.append_nil] at S)) | (refine wpList_b2sB S ?_) | (refine wpList_b2sR S ?_) | (refine wpList_ldc S ?_))
  all_goals go_end0
  all_goals refine hR.out _ _ ?_
  all_goals exact ⟨rfl, TapeSt.of S rfl (by show _ = ((max t.b (t.e - n) : Nat) : Int); omega) rfl rfl rfl rfl rfl rfl⟩

set_option maxHeartbeats 800000 in
theorem newTape (size : Nat) (b : Int) (w : World) :
    Calls Tryd.prog 18 #[.int .i64 size, .int .i64 b] w fun e w' => ∃ tp, e = .returned (.pointer (some ⟨tp, 0, none⟩)) ∧ St w [] w' [tHead tp size b b b (.slice none 0 0) (.slice none 0 0)] := by
  have S := St.begin w
  refine Calls.cps ?_; intro R hR
  go_enter Tryd.func18, Tryd.ntmps18
  go_wp2_with (first | go_big_skip | ((with_reducible show Code.wp _ (Code.region _ _ true) _ _ _); refine St.regionLast S ?_; (repeat (first | (go_big_quiet_step (fail)) | (go_big_quiet_want; (first | refine quiet_ld S ?_ | refine quiet_ld8 S ?_ | refine quiet_ld0 ?_ | refine quiet_ldA S ?_ | refine quiet_b2sB S ?_ | refine quiet_b2sR S ?_ | refine quiet_ldc S ?_); go_big_quiet_on))); refine wpQuiet_nil ?_; clear S; intro wq S) | go_big_skip | (refine wpList_ld S ?_) | (refine wpList_ld8 S ?_) | (refine wpList_ld0 ?_) | (refine wpList_ldA S ?_) | (refine wpList_st8 S ?_; (clear S; intro ws S)) | (refine wpList_st S ?_; (clear S; intro ws S)) | (refine wpList_box S ?_; (clear S; intro nb wb hnb S)) | (refine wpList_alloc S ?_; (clear S; intro nb wb hnb S)) | (refine wpList_mk8 S ?_; (clear S; intro nb wb hnb S)) | (refine wpList_mk S ?_; (clear S; intro nb wb hnb S)) | (refine wpList_bs S ?_; (clear S; intro nb wb hnb S)) | (refine wpList_stA S ?_; (clear S; intro ws S; simp only [splice, List.take_zero, List.take_succ_cons, List.drop_succ_cons, List.drop_zero, List.drop_nil, List.length_cons, List.length_nil, Nat.reduceAdd, Nat.zero_add, List.nil_append, List.cons_append, List.append_nil] at S)) | (refine wpList_b2sB S ?_) | (refine wpList_b2sR S ?_) | (refine wpList_ldc S ?_))
  ((first | go_ret | go_ret2 | go_ret3 | go_end0 | skip); refine hR.out _ _ ?_)
  exact ⟨_, rfl, S⟩
end Go.Proofs.YtbklhnpnkinadaaDoor
