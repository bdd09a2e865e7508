/- The writing parts of a queue. -/
import Derived.Test.YtkfkcinkkgdebaaQa
import Derived.Test.YtkfkcinkkgdebaaSlc
namespace Go.Proofs.Ytkfkcinkkgdebaa
open Go Go.RowKit Go.Vil
set_option linter.unusedSimpArgs false
set_option linter.unusedVariables false
set_option maxRecDepth 100000

/-- The array of a queue as it lies in memory: what is in it, and spare room. -/
abbrev qBlk (m : Nat) (arr sl : List UInt8) : Res := .blk m (.cells (u8s (arr ++ sl)).toArray 5 (0, 0))
abbrev qArr (m : Nat) (arr sl : List UInt8) : Value := .slice (some ⟨m, 0, none⟩) arr.length (arr.length + sl.length)

/-- A queue as it lies in memory, but for its array. -/
abbrev qHead (q m hb : Nat) (full : Bool) (arr sl : List UInt8) (cap max head tail count right : Int) : Res :=
  .blk q (.cells [.bool full, qArr m arr sl, .int .i64 cap, .int .i64 max, .int .i64 head, .int .i64 tail, .int .i64 count, .int .i64 right, .slice (some ⟨hb, 0, none⟩) 5 5].toArray 88 (0, 0))

theorem splice_more (arr sl xs : List UInt8) (t : Nat) (h : t + xs.length ≤ arr.length) : splice (arr ++ sl) t xs = splice arr t xs ++ sl := by
  unfold splice
  rw [List.take_append_of_le_length (by omega), List.drop_append_of_le_length h]
  simp
set_option maxHeartbeats 800000 in
theorem quCopy (q m hb : Nat) (full : Bool) (arr sl : List UInt8) (cap max head count right : Int) (t n k c : Nat) (oa : Option Addr) (xs : List UInt8) (w : World) (kz : Int) (hkz : kz = k)
    (hM : Mem w [qHead q m hb full arr sl cap max head t count right, qBlk m arr sl])
    (hs : Src w 1 (.slice oa n c) n (u8s xs)) (hk : k ≤ n) (hc : n ≤ c) (hfit : t + k ≤ arr.length) (hsm : (arr.length : Int) ≤ 4294967296) :
    Calls Try.prog 90 #[.pointer (some ⟨q, 0, none⟩), .slice oa n c, .int .i64 kz] w fun e w' => e = .returned (.tuple #[]) ∧ St w [q, m] w' [qHead q m hb full (splice arr t (xs.take k)) sl cap max head (t + k : Nat) count right, qBlk m (splice arr t (xs.take k)) sl] := by
  subst hkz
  have S : St w [q, m] w _ := St.start hM
  have hxl := hs.len8
  clear hM
  go_enter Try.func90, Try.ntmps90
  refine St.regionC S [.blk q _] 20 [([0, 1, 2, 3, 4, 5, 6, 7, 8, 9, 10, 11, 12, 13, 14, 15], 16)] [17, 18, 19] ?_
  clear S; intro wr Cr S Sc; simp only [walkC, pick, List.getElem?_cons_succ, List.getElem?_cons_zero, List.drop_succ_cons, List.drop_zero]
  (repeat (first | (go_big_quiet_want; (first | refine quiet_slcB t ?_ | refine quiet_slcH k ?_); go_big_quiet_on) | (first | (go_big_quiet_step (fail)) | (go_big_quiet_want; (first | refine quiet_ld Sc ?_ | refine quiet_ld8 Sc ?_ | refine quiet_ld0 ?_ | refine quiet_ldA Sc ?_ | refine quiet_b2sB Sc ?_ | refine quiet_b2sR Sc ?_ | refine quiet_ldc Sc ?_); go_big_quiet_on))))
  refine wpQuiet_nil ?_
  refine wpList_copyT S ((hs.on Cr).firsts k c hk) ?_
  clear S; intro ws S
  refine ⟨(S.sel (by repeat (first | exact Sel.nil | (apply Sel.cons; (repeat (first | exact Pull.head | apply Pull.tail)))))).inSt _, ?_⟩; (repeat (first | (go_big_quiet_step (fail)) | (go_big_quiet_want; (first | refine quiet_ld Sc ?_ | refine quiet_ld8 Sc ?_ | refine quiet_ld0 ?_ | refine quiet_ldA Sc ?_ | refine quiet_b2sB Sc ?_ | refine quiet_b2sR Sc ?_ | refine quiet_ldc Sc ?_); go_big_quiet_on))); refine wpQuiet_nil ?_
  go_wp2_with (first | go_big_skip | ((with_reducible show Code.wp _ (Code.region _ _ true) _ _ _); refine St.regionLast S ?_; (repeat (first | (go_big_quiet_step (fail)) | (go_big_quiet_want; (first | refine quiet_ld S ?_ | refine quiet_ld8 S ?_ | refine quiet_ld0 ?_ | refine quiet_ldA S ?_ | refine quiet_b2sB S ?_ | refine quiet_b2sR S ?_ | refine quiet_ldc S ?_); go_big_quiet_on))); refine wpQuiet_nil ?_; clear S; intro wq S) | go_big_skip | (refine wpList_ld S ?_) | (refine wpList_ld8 S ?_) | (refine wpList_ld0 ?_) | (refine wpList_ldA S ?_) | (refine wpList_st8 S ?_; (clear S; intro ws S)) | (refine wpList_st S ?_; (clear S; intro ws S)) | (refine wpList_box S ?_; (clear S; intro nb wb hnb S)) | (refine wpList_alloc S ?_; (clear S; intro nb wb hnb S)) | (refine wpList_mk8 S ?_; (clear S; intro nb wb hnb S)) | (refine wpList_mk S ?_; (clear S; intro nb wb hnb S)) | (refine wpList_bs S ?_; (clear S; intro nb wb hnb S)) | (refine wpList_stA S ?_; (clear S; intro ws S; simp only [splice, List.take_zero, List.take_succ_cons, List.drop_succ_cons, List.drop_zero, List.drop_nil, List.length_cons, List.length_nil, Nat.reduceAdd, Nat.zero_add, List.nil_append, List.cons_append, List.append_nil] at S)) | (refine wpList_b2sB S ?_) | (refine wpList_b2sR S ?_) | (refine wpList_ldc S ?_))
  go_end0
  have e : (xs.take k).length = k := by simp; omega
  rw [Nat.zero_add, splice_more _ _ _ _ (by omega)] at S
  simp only [qHead, qBlk, qArr, splice_length arr t (xs.take k) (by omega), Int.natCast_add]
  exact ⟨trivial, S⟩

set_option maxHeartbeats 1600000 in
theorem quPut (q m hb : Nat) (full : Bool) (arr sl h : List UInt8) (cap max count right : Int) (head t n k c : Nat) (oa : Option Addr) (xs : List UInt8) (w : World)
    (hM : Mem w [qHead q m hb full arr sl cap max head t count right, qBlk m arr sl, .blk hb (.cells (u8s h).toArray 5 (0, 0))])
    (hs : Src w 1 (.slice oa n c) n (u8s xs)) (hd : Off oa [q, m, hb] (u8s xs)) (hc : n ≤ c)
    (hh : h.length = 5) (hk : uvl k ≤ k) (hk2 : k - uvl k ≤ n) (hk3 : k < 34359738368) (hfit : t + k ≤ arr.length) (hsm : (arr.length : Int) ≤ 4294967296) (hcnt : -1 ≤ count ∧ count ≤ 4294967296) :
    Calls Try.prog 82 #[.pointer (some ⟨q, 0, none⟩), .slice oa n c, .int .i64 k] w fun e w' => e = .returned (.tuple #[]) ∧ ∃ h' : List UInt8, h'.length = 5 ∧
      St w [q, m, hb] w' [qHead q m hb (if t + k = head then true else full) (splice arr t (uv k ++ xs.take (k - uvl k))) sl cap max head (t + k : Nat) (count + 1) (if head < t + k then ((t + k : Nat) : Int) else right), qBlk m (splice arr t (uv k ++ xs.take (k - uvl k))) sl, .blk hb (.cells (u8s h').toArray 5 (0, 0))] := by
  have S : St w [q, m, hb] w _ := St.start hM
  clear hM
  have hup := uvl_pos k
  have hu5 := uvl_le5 hk3
  have hxl := hs.len8
  refine Calls.cps ?_; intro R hR
  go_enter Try.func82, Try.ntmps82
  go_wp2_with (first | go_big_skip | ((with_reducible show Code.wp _ (Code.region _ _ true) _ _ _); refine St.regionLast S ?_; (repeat (first | (go_big_quiet_step (fail)) | (go_big_quiet_want; (first | refine quiet_ld S ?_ | refine quiet_ld8 S ?_ | refine quiet_ld0 ?_ | refine quiet_ldA S ?_ | refine quiet_b2sB S ?_ | refine quiet_b2sR S ?_ | refine quiet_ldc S ?_); go_big_quiet_on))); refine wpQuiet_nil ?_; clear S; intro wq S) | go_big_skip | (refine wpList_ld S ?_) | (refine wpList_ld8 S ?_) | (refine wpList_ld0 ?_) | (refine wpList_ldA S ?_) | (refine wpList_st8 S ?_; (clear S; intro ws S)) | (refine wpList_st S ?_; (clear S; intro ws S)) | (refine wpList_box S ?_; (clear S; intro nb wb hnb S)) | (refine wpList_alloc S ?_; (clear S; intro nb wb hnb S)) | (refine wpList_mk8 S ?_; (clear S; intro nb wb hnb S)) | (refine wpList_mk S ?_; (clear S; intro nb wb hnb S)) | (refine wpList_bs S ?_; (clear S; intro nb wb hnb S)) | (refine wpList_stA S ?_; (clear S; intro ws S; simp only [splice, List.take_zero, List.take_succ_cons, List.drop_succ_cons, List.drop_zero, List.drop_nil, List.length_cons, List.length_nil, Nat.reduceAdd, Nat.zero_add, List.nil_append, List.cons_append, List.append_nil] at S)) | (refine wpList_b2sB S ?_) | (refine wpList_b2sR S ?_) | (refine wpList_ldc S ?_))
  refine Calls.mono (putUv hb k h _ hh hk3 S.sel1) ?_
  rintro e w2 ⟨rfl, C⟩
  have hs2 := hs.over C.chg (hd.mono (by simp))
  have S2 := S.call C; clear S C; simp only [List.cons_append, List.nil_append] at S2; have S := S2; clear S2
  go_wp2_with (first | go_big_skip | ((with_reducible show Code.wp _ (Code.region _ _ true) _ _ _); refine St.regionLast S ?_; (repeat (first | (go_big_quiet_step (fail)) | (go_big_quiet_want; (first | refine quiet_ld S ?_ | refine quiet_ld8 S ?_ | refine quiet_ld0 ?_ | refine quiet_ldA S ?_ | refine quiet_b2sB S ?_ | refine quiet_b2sR S ?_ | refine quiet_ldc S ?_); go_big_quiet_on))); refine wpQuiet_nil ?_; clear S; intro wq S) | go_big_skip | (refine wpList_ld S ?_) | (refine wpList_ld8 S ?_) | (refine wpList_ld0 ?_) | (refine wpList_ldA S ?_) | (refine wpList_st8 S ?_; (clear S; intro ws S)) | (refine wpList_st S ?_; (clear S; intro ws S)) | (refine wpList_box S ?_; (clear S; intro nb wb hnb S)) | (refine wpList_alloc S ?_; (clear S; intro nb wb hnb S)) | (refine wpList_mk8 S ?_; (clear S; intro nb wb hnb S)) | (refine wpList_mk S ?_; (clear S; intro nb wb hnb S)) | (refine wpList_bs S ?_; (clear S; intro nb wb hnb S)) | (refine wpList_stA S ?_; (clear S; intro ws S; simp only [splice, List.take_zero, List.take_succ_cons, List.drop_succ_cons, List.drop_zero, List.drop_nil, List.length_cons, List.length_nil, Nat.reduceAdd, Nat.zero_add, List.nil_append, List.cons_append, List.append_nil] at S)) | (refine wpList_b2sB S ?_) | (refine wpList_b2sR S ?_) | (refine wpList_ldc S ?_))
  refine Calls.mono (quCopy q m hb full arr sl cap max head count right t 5 (uvl k) 5 _ (splice h 0 (uv k)) _ _ rfl S.sel2 (S.src8w (l := splice h 0 (uv k)) (by repeat (first | exact Pull.head | apply Pull.tail)) (by rw [splice_length _ _ _ (by show 0 + uvl k ≤ _; omega)]; exact hh)) hu5 (Nat.le_refl _) (by omega) hsm) ?_
  rintro e w3 ⟨rfl, C⟩
  have hs3 := hs2.over C.chg (hd.mono (by simp))
  have hul : (uv k).length = uvl k := rfl
  have e1 : (splice h 0 (uv k)).take (uvl k) = uv k := splice_at h 0 (uv k) (by omega)
  have e1l : (splice arr t (uv k)).length = arr.length := splice_length _ _ _ (by omega)
  rw [e1] at C
  clear e1
  have S2 := S.call C; clear S C; simp only [List.cons_append, List.nil_append] at S2; have S := S2; clear S2
  go_wp2_with (first | go_big_skip | ((with_reducible show Code.wp _ (Code.region _ _ true) _ _ _); refine St.regionLast S ?_; (repeat (first | (go_big_quiet_step (fail)) | (go_big_quiet_want; (first | refine quiet_ld S ?_ | refine quiet_ld8 S ?_ | refine quiet_ld0 ?_ | refine quiet_ldA S ?_ | refine quiet_b2sB S ?_ | refine quiet_b2sR S ?_ | refine quiet_ldc S ?_); go_big_quiet_on))); refine wpQuiet_nil ?_; clear S; intro wq S) | go_big_skip | (refine wpList_ld S ?_) | (refine wpList_ld8 S ?_) | (refine wpList_ld0 ?_) | (refine wpList_ldA S ?_) | (refine wpList_st8 S ?_; (clear S; intro ws S)) | (refine wpList_st S ?_; (clear S; intro ws S)) | (refine wpList_box S ?_; (clear S; intro nb wb hnb S)) | (refine wpList_alloc S ?_; (clear S; intro nb wb hnb S)) | (refine wpList_mk8 S ?_; (clear S; intro nb wb hnb S)) | (refine wpList_mk S ?_; (clear S; intro nb wb hnb S)) | (refine wpList_bs S ?_; (clear S; intro nb wb hnb S)) | (refine wpList_stA S ?_; (clear S; intro ws S; simp only [splice, List.take_zero, List.take_succ_cons, List.drop_succ_cons, List.drop_zero, List.drop_nil, List.length_cons, List.length_nil, Nat.reduceAdd, Nat.zero_add, List.nil_append, List.cons_append, List.append_nil] at S)) | (refine wpList_b2sB S ?_) | (refine wpList_b2sR S ?_) | (refine wpList_ldc S ?_))
  refine Calls.mono (quCopy q m hb full (splice arr t (uv k)) sl cap max head count right (t + uvl k) n (k - uvl k) c oa xs _ _ (by omega) S.sel2 hs3 hk2 hc (by omega) (by omega)) ?_
  rintro e w3 ⟨rfl, C⟩
  have e2 : splice (splice arr t (uv k)) (t + uvl k) (xs.take (k - uvl k)) = splice arr t (uv k ++ xs.take (k - uvl k)) := splice_splice arr t _ _ (by simp; omega)
  rw [e2, show t + uvl k + (k - uvl k) = t + k by omega] at C
  clear e2
  have S2 := S.call C; clear S C; simp only [List.cons_append, List.nil_append] at S2; have S := S2; clear S2
  have hsl : (splice h 0 (uv k)).length = 5 := by rw [splice_length _ _ _ (by omega)]; exact hh
  generalize splice h 0 (uv k) = h' at S hsl
  clear hs hs2 hs3 hd
  by_cases h1 : head < t + k
  · have h2 : ¬ t + k = head := by omega
    go_wp2_with (first | go_big_skip | ((with_reducible show Code.wp _ (Code.region _ _ true) _ _ _); refine St.regionLast S ?_; (repeat (first | (go_big_quiet_step (fail)) | (go_big_quiet_want; (first | refine quiet_ld S ?_ | refine quiet_ld8 S ?_ | refine quiet_ld0 ?_ | refine quiet_ldA S ?_ | refine quiet_b2sB S ?_ | refine quiet_b2sR S ?_ | refine quiet_ldc S ?_); go_big_quiet_on))); refine wpQuiet_nil ?_; clear S; intro wq S) | go_big_skip | (refine wpList_ld S ?_) | (refine wpList_ld8 S ?_) | (refine wpList_ld0 ?_) | (refine wpList_ldA S ?_) | (refine wpList_st8 S ?_; (clear S; intro ws S)) | (refine wpList_st S ?_; (clear S; intro ws S)) | (refine wpList_box S ?_; (clear S; intro nb wb hnb S)) | (refine wpList_alloc S ?_; (clear S; intro nb wb hnb S)) | (refine wpList_mk8 S ?_; (clear S; intro nb wb hnb S)) | (refine wpList_mk S ?_; (clear S; intro nb wb hnb S)) | (refine wpList_bs S ?_; (clear S; intro nb wb hnb S)) | (refine wpList_stA S ?_; (clear S; intro ws S; simp only [splice, List.take_zero, List.take_succ_cons, List.drop_succ_cons, List.drop_zero, List.drop_nil, List.length_cons, List.length_nil, Nat.reduceAdd, Nat.zero_add, List.nil_append, List.cons_append, List.append_nil] at S)) | (refine wpList_b2sB S ?_) | (refine wpList_b2sR S ?_) | (refine wpList_ldc S ?_))
    go_end0
    refine hR.out _ _ ?_; rw [if_neg h2, if_pos h1]
    exact ⟨rfl, h', hsl, S⟩
  · by_cases h2 : t + k = head
    · go_wp2_with (first | go_big_skip | ((with_reducible show Code.wp _ (Code.region _ _ true) _ _ _); refine St.regionLast S ?_; (repeat (first | (go_big_quiet_step (fail)) | (go_big_quiet_want; (first | refine quiet_ld S ?_ | refine quiet_ld8 S ?_ | refine quiet_ld0 ?_ | refine quiet_ldA S ?_ | refine quiet_b2sB S ?_ | refine quiet_b2sR S ?_ | refine quiet_ldc S ?_); go_big_quiet_on))); refine wpQuiet_nil ?_; clear S; intro wq S) | go_big_skip | (refine wpList_ld S ?_) | (refine wpList_ld8 S ?_) | (refine wpList_ld0 ?_) | (refine wpList_ldA S ?_) | (refine wpList_st8 S ?_; (clear S; intro ws S)) | (refine wpList_st S ?_; (clear S; intro ws S)) | (refine wpList_box S ?_; (clear S; intro nb wb hnb S)) | (refine wpList_alloc S ?_; (clear S; intro nb wb hnb S)) | (refine wpList_mk8 S ?_; (clear S; intro nb wb hnb S)) | (refine wpList_mk S ?_; (clear S; intro nb wb hnb S)) | (refine wpList_bs S ?_; (clear S; intro nb wb hnb S)) | (refine wpList_stA S ?_; (clear S; intro ws S; simp only [splice, List.take_zero, List.take_succ_cons, List.drop_succ_cons, List.drop_zero, List.drop_nil, List.length_cons, List.length_nil, Nat.reduceAdd, Nat.zero_add, List.nil_append, List.cons_append, List.append_nil] at S)) | (refine wpList_b2sB S ?_) | (refine wpList_b2sR S ?_) | (refine wpList_ldc S ?_))
      go_end0
      refine hR.out _ _ ?_; rw [if_pos h2, if_neg h1]
      exact ⟨rfl, h', hsl, S⟩
    · go_wp2_with (first | go_big_skip | ((with_reducible show Code.wp _ (Code.region _ _ true) _ _ _); refine St.regionLast S ?_; (repeat (first | (go_big_quiet_step (fail)) | (go_big_quiet_want; (first | refine quiet_ld S ?_ | refine quiet_ld8 S ?_ | refine quiet_ld0 ?_ | refine quiet_ldA S ?_ | refine quiet_b2sB S ?_ | refine quiet_b2sR S ?_ | refine quiet_ldc S ?_); go_big_quiet_on))); refine wpQuiet_nil ?_; clear S; intro wq S) | go_big_skip | (refine wpList_ld S ?_) | (refine wpList_ld8 S ?_) | (refine wpList_ld0 ?_) | (refine wpList_ldA S ?_) | (refine wpList_st8 S ?_; (clear S; intro ws S)) | (refine wpList_st S ?_; (clear S; intro ws S)) | (refine wpList_box S ?_; (clear S; intro nb wb hnb S)) | (refine wpList_alloc S ?_; (clear S; intro nb wb hnb S)) | (refine wpList_mk8 S ?_; (clear S; intro nb wb hnb S)) | (refine wpList_mk S ?_; (clear S; intro nb wb hnb S)) | (refine wpList_bs S ?_; (clear S; intro nb wb hnb S)) | (refine wpList_stA S ?_; (clear S; intro ws S; simp only [splice, List.take_zero, List.take_succ_cons, List.drop_succ_cons, List.drop_zero, List.drop_nil, List.length_cons, List.length_nil, Nat.reduceAdd, Nat.zero_add, List.nil_append, List.cons_append, List.append_nil] at S)) | (refine wpList_b2sB S ?_) | (refine wpList_b2sR S ?_) | (refine wpList_ldc S ?_))
      go_end0
      refine hR.out _ _ ?_; rw [if_neg h2, if_neg h1]
      exact ⟨rfl, h', hsl, S⟩

set_option maxHeartbeats 400000 in
theorem neededSize (l : Int) (n : Nat) (w : World) (hl : l = n) (hn : n < 16382) : Calls Try.prog 72 #[.int .i64 l] w fun e w' => e = .returned (.int .i64 (needs n : Nat)) ∧ St w [] w' [] := by
  subst hl
  have S := St.begin w
  have hh := hidden (show needs n = n + hsz n from rfl)
  by_cases h1 : n < 127
  · have e := hidden (show hsz n = 1 by unfold hsz; rw [if_pos h1])
    clear hn
    go_enter Try.func72, Try.ntmps72
    go_wp2_with (first | go_big_skip | ((with_reducible show Code.wp _ (Code.region _ _ true) _ _ _); refine St.regionLast S ?_; (repeat (first | (go_big_quiet_step (fail)) | (go_big_quiet_want; (first | refine quiet_ld S ?_ | refine quiet_ld8 S ?_ | refine quiet_ld0 ?_ | refine quiet_ldA S ?_ | refine quiet_b2sB S ?_ | refine quiet_b2sR S ?_ | refine quiet_ldc S ?_); go_big_quiet_on))); refine wpQuiet_nil ?_; clear S; intro wq S) | go_big_skip | (refine wpList_ld S ?_) | (refine wpList_ld8 S ?_) | (refine wpList_ld0 ?_) | (refine wpList_ldA S ?_) | (refine wpList_st8 S ?_; (clear S; intro ws S)) | (refine wpList_st S ?_; (clear S; intro ws S)) | (refine wpList_box S ?_; (clear S; intro nb wb hnb S)) | (refine wpList_alloc S ?_; (clear S; intro nb wb hnb S)) | (refine wpList_mk8 S ?_; (clear S; intro nb wb hnb S)) | (refine wpList_mk S ?_; (clear S; intro nb wb hnb S)) | (refine wpList_bs S ?_; (clear S; intro nb wb hnb S)) | (refine wpList_stA S ?_; (clear S; intro ws S; simp only [splice, List.take_zero, List.take_succ_cons, List.drop_succ_cons, List.drop_zero, List.drop_nil, List.length_cons, List.length_nil, Nat.reduceAdd, Nat.zero_add, List.nil_append, List.cons_append, List.append_nil] at S)) | (refine wpList_b2sB S ?_) | (refine wpList_b2sR S ?_) | (refine wpList_ldc S ?_))
    go_ret
    exact ⟨retI (by have := hh.out; have := e.out; omega), S⟩
  · have e := hidden (show hsz n = 2 by unfold hsz; rw [if_neg h1, if_pos hn])
    go_enter Try.func72, Try.ntmps72
    go_wp2_with (first | go_big_skip | ((with_reducible show Code.wp _ (Code.region _ _ true) _ _ _); refine St.regionLast S ?_; (repeat (first | (go_big_quiet_step (fail)) | (go_big_quiet_want; (first | refine quiet_ld S ?_ | refine quiet_ld8 S ?_ | refine quiet_ld0 ?_ | refine quiet_ldA S ?_ | refine quiet_b2sB S ?_ | refine quiet_b2sR S ?_ | refine quiet_ldc S ?_); go_big_quiet_on))); refine wpQuiet_nil ?_; clear S; intro wq S) | go_big_skip | (refine wpList_ld S ?_) | (refine wpList_ld8 S ?_) | (refine wpList_ld0 ?_) | (refine wpList_ldA S ?_) | (refine wpList_st8 S ?_; (clear S; intro ws S)) | (refine wpList_st S ?_; (clear S; intro ws S)) | (refine wpList_box S ?_; (clear S; intro nb wb hnb S)) | (refine wpList_alloc S ?_; (clear S; intro nb wb hnb S)) | (refine wpList_mk8 S ?_; (clear S; intro nb wb hnb S)) | (refine wpList_mk S ?_; (clear S; intro nb wb hnb S)) | (refine wpList_bs S ?_; (clear S; intro nb wb hnb S)) | (refine wpList_stA S ?_; (clear S; intro ws S; simp only [splice, List.take_zero, List.take_succ_cons, List.drop_succ_cons, List.drop_zero, List.drop_nil, List.length_cons, List.length_nil, Nat.reduceAdd, Nat.zero_add, List.nil_append, List.cons_append, List.append_nil] at S)) | (refine wpList_b2sB S ?_) | (refine wpList_b2sR S ?_) | (refine wpList_ldc S ?_))
    go_ret
    exact ⟨retI (by have := hh.out; have := e.out; omega), S⟩
/-- A queue in memory: its parts, its array and its buffer. -/
abbrev qMem (q m hb : Nat) (x : Qu) (arr sl h : List UInt8) : List Res :=
  [qHead q m hb x.full arr sl x.cap x.max x.head x.tail x.count x.right, qBlk m arr sl, .blk hb (.cells (u8s h).toArray 5 (0, 0))]

end Go.Proofs.Ytkfkcinkkgdebaa
