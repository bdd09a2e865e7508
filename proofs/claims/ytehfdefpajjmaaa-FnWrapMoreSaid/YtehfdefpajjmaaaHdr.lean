import Derived.Test.YtehfdefpajjmaaaPut
namespace Go.Proofs.Ytehfdefpajjmaaa
open Go.RowKit Go.Vil

theorem put2 (l : List UInt8) (off : Nat) (v : Int) (h0 : 0 ≤ v) (h1 : v < 65536) (hl : off + 2 ≤ l.length) :
    (l.set off (UInt8.ofNat (v % 256).toNat)).set (off + 1) (UInt8.ofNat (v / 256).toNat) = splice l off (le 2 v.toNat) := by
  rw [set_two _ _ _ _ hl]
  obtain ⟨n, rfl⟩ := Int.eq_ofNat_of_zero_le h0
  simp only [le, Int.toNat_natCast]
  rw [ofNat_int _ (by omega)]
  congr 3 <;> (congr 1; omega)

set_option maxHeartbeats 400000 in
theorem put16 (b off n cap : Nat) (l : List UInt8) (v : Int) (w : World) (T : TypeId) (M : Mem w [.blk b (.cells (u8s l).toArray T (0, 0))])
    (hv0 : 0 ≤ v) (hv1 : v < 65536) (hn : 2 ≤ n) (hl : off + 2 ≤ l.length) :
    Calls Try.prog 65 #[.agg #[], .slice (some ⟨b, off, none⟩) n cap, .int .u16 v] w fun e w' => e = .returned (.tuple #[]) ∧ St w [b] w' [.blk b (.cells (u8s (splice l off (le 2 v.toNat))).toArray T (0, 0))] := by
  rw [← put2 l off v hv0 hv1 hl]
  have S : St w [b] w _ := St.start M
  clear M
  go_enter Try.func65, Try.ntmps65
  go_wp2_with (first | (refine wpList_box S ?_; (clear S; intro n w1 hn1 S)) | (refine wpList_ld8 S ?_) | (refine wpList_st8 S ?_; (clear S; intro w1 S)))
  go_end0
  exact ⟨rfl, S.sel (.cons (.tail .head) .nil)⟩

/-- A header as bytes. -/
def hdrBytes (ac ex kl hs vl vc : Int) (d : Bool) (sl rs : Int) : List UInt8 :=
  le 4 ac.toNat ++ le 4 ex.toNat ++ le 2 kl.toNat ++ le 2 hs.toNat ++ le 4 vl.toNat ++ le 4 vc.toNat ++ [cond d 1 0] ++ [UInt8.ofNat sl.toNat] ++ le 2 rs.toNat

theorem hdrBytes_eq (l : List UInt8) (off : Nat) (ac ex kl hs vl vc : Int) (d : Bool) (sl rs : Int) (hl : off + 24 ≤ l.length) :
    splice ((splice (splice (splice (splice (splice (splice (splice l off (le 4 ac.toNat)) (off + 4) (le 4 ex.toNat)) (off + 8) (le 2 kl.toNat)) (off + 10) (le 2 hs.toNat)) (off + 12) (le 4 vl.toNat)) (off + 16) (le 4 vc.toNat)) (off + 20) [cond d 1 0]).set (off + 21) (UInt8.ofNat sl.toNat)) (off + 22) (le 2 rs.toNat) = splice l off (hdrBytes ac ex kl hs vl vc d sl rs) := by
  have h1 := splice_splice l off (le 4 ac.toNat) (le 4 ex.toNat) (by simp; omega)
  have h2 := splice_splice l off (le 4 ac.toNat ++ le 4 ex.toNat) (le 2 kl.toNat) (by simp; omega)
  have h3 := splice_splice l off (le 4 ac.toNat ++ le 4 ex.toNat ++ le 2 kl.toNat) (le 2 hs.toNat) (by simp; omega)
  have h4 := splice_splice l off (le 4 ac.toNat ++ le 4 ex.toNat ++ le 2 kl.toNat ++ le 2 hs.toNat) (le 4 vl.toNat) (by simp; omega)
  have h5 := splice_splice l off (le 4 ac.toNat ++ le 4 ex.toNat ++ le 2 kl.toNat ++ le 2 hs.toNat ++ le 4 vl.toNat) (le 4 vc.toNat) (by simp; omega)
  have h6 := splice_splice l off (le 4 ac.toNat ++ le 4 ex.toNat ++ le 2 kl.toNat ++ le 2 hs.toNat ++ le 4 vl.toNat ++ le 4 vc.toNat) [cond d 1 0] (by simp; omega)
  have h7 := set_splice l off (le 4 ac.toNat ++ le 4 ex.toNat ++ le 2 kl.toNat ++ le 2 hs.toNat ++ le 4 vl.toNat ++ le 4 vc.toNat ++ [cond d 1 0]) (UInt8.ofNat sl.toNat) (by simp; omega)
  have h8 := splice_splice l off (le 4 ac.toNat ++ le 4 ex.toNat ++ le 2 kl.toNat ++ le 2 hs.toNat ++ le 4 vl.toNat ++ le 4 vc.toNat ++ [cond d 1 0] ++ [UInt8.ofNat sl.toNat]) (le 2 rs.toNat) (by simp; omega)
  simp only [List.length_append, le_length, List.length_singleton] at h1 h2 h3 h4 h5 h6 h7 h8
  simp only [Nat.reduceAdd] at h1 h2 h3 h4 h5 h6 h7 h8
  rw [h1, h2, h3, h4, h5, h6, h7, h8]
  rfl



set_option maxRecDepth 100000 in
set_option maxHeartbeats 2000000 in
theorem hdrWrite (p b off n cap : Nat) (l : List UInt8) (ac ex kl hs vl vc sl rs : Int) (d : Bool) (w : World) (T U : TypeId) (hn : 24 ≤ n) (hl : off + 24 ≤ l.length) (hc : n ≤ cap)
    (a0 : 0 ≤ ac) (a1 : ac < 4294967296) (b0 : 0 ≤ ex) (b1 : ex < 4294967296) (c0 : 0 ≤ kl) (c1 : kl < 65536) (d0 : 0 ≤ hs) (d1 : hs < 65536) (e0 : 0 ≤ vl) (e1 : vl < 4294967296) (f0 : 0 ≤ vc) (f1 : vc < 4294967296)
    (g0 : 0 ≤ sl) (g1 : sl < 256) (i0 : 0 ≤ rs) (i1 : rs < 65536)
    (M : Mem w [.blk p (.cells [.int .u32 ac, .int .u32 ex, .int .u16 kl, .int .u16 hs, .int .u32 vl, .int .u32 vc, .bool d, .int .u8 sl, .int .u16 rs].toArray U (0, 0)), .blk b (.cells (u8s l).toArray T (0, 0))]) :
    Calls Try.prog 57 #[.pointer (some ⟨p, 0, none⟩), .slice (some ⟨b, off, none⟩) n cap] w fun e w' => e = .returned (.tuple #[]) ∧
      St w [p, b] w' [.blk p (.cells [.int .u32 ac, .int .u32 ex, .int .u16 kl, .int .u16 hs, .int .u32 vl, .int .u32 vc, .bool d, .int .u8 sl, .int .u16 rs].toArray U (0, 0)), .blk b (.cells (u8s (splice l off (hdrBytes ac ex kl hs vl vc d sl rs))).toArray T (0, 0))] := by
  have S : St w [p, b] w _ := St.start M
  rw [← hdrBytes_eq l off ac ex kl hs vl vc d sl rs hl]
  clear M
  go_enter Try.func57, Try.ntmps57
  go_wp2_with (first | ((with_reducible show Code.wp _ (Code.region _ _ true) _ _ _); refine St.regionLast S ?_; (repeat (first | (go_big_quiet_step (fail)) | (go_big_quiet_want; (first | refine quiet_ld S ?_ | refine quiet_ld8 S ?_ | refine quiet_ld0 ?_ | refine quiet_ldA S ?_ | refine quiet_b2sB S ?_ | refine quiet_b2sR S ?_); go_big_quiet_on))); refine wpQuiet_nil ?_; clear S; intro wq S) | (refine wpList_ld S ?_) | (refine wpList_ld8 S ?_) | (refine wpList_ld0 ?_) | (refine wpList_ldA S ?_) | (refine wpList_st8 S ?_; (clear S; intro ws S)) | (refine wpList_st S ?_; (clear S; intro ws S)) | (refine wpList_box S ?_; (clear S; intro nb wb hnb S)) | (refine wpList_alloc S ?_; (clear S; intro nb wb hnb S)) | (refine wpList_mk8 S ?_; (clear S; intro nb wb hnb S)) | (refine wpList_mk S ?_; (clear S; intro nb wb hnb S)) | (refine wpList_bs S ?_; (clear S; intro nb wb hnb S)) | (refine wpList_b2sB S ?_) | (refine wpList_b2sR S ?_))
  refine Calls.mono (put32 b _ _ _ _ _ _ _ S.sel1 a0 a1 (by omega) (by omega)) ?_
  rintro e w2 ⟨rfl, C⟩
  have S2 := S.call C; clear S C; simp only [List.cons_append, List.nil_append] at S2; have S := S2; clear S2
  obtain ⟨l1, H1, hl1⟩ : ∃ x, Hid (splice l off (le 4 ac.toNat) = x) ∧ x.length = l.length := ⟨_, rfl, by rw [splice_length _ _ _ (by simp; omega)]⟩
  rw [H1.out] at S
  go_wp2_with (first | ((with_reducible show Code.wp _ (Code.region _ _ true) _ _ _); refine St.regionLast S ?_; (repeat (first | (go_big_quiet_step (fail)) | (go_big_quiet_want; (first | refine quiet_ld S ?_ | refine quiet_ld8 S ?_ | refine quiet_ld0 ?_ | refine quiet_ldA S ?_ | refine quiet_b2sB S ?_ | refine quiet_b2sR S ?_); go_big_quiet_on))); refine wpQuiet_nil ?_; clear S; intro wq S) | (refine wpList_ld S ?_) | (refine wpList_ld8 S ?_) | (refine wpList_ld0 ?_) | (refine wpList_ldA S ?_) | (refine wpList_st8 S ?_; (clear S; intro ws S)) | (refine wpList_st S ?_; (clear S; intro ws S)) | (refine wpList_box S ?_; (clear S; intro nb wb hnb S)) | (refine wpList_alloc S ?_; (clear S; intro nb wb hnb S)) | (refine wpList_mk8 S ?_; (clear S; intro nb wb hnb S)) | (refine wpList_mk S ?_; (clear S; intro nb wb hnb S)) | (refine wpList_bs S ?_; (clear S; intro nb wb hnb S)) | (refine wpList_b2sB S ?_) | (refine wpList_b2sR S ?_))
  refine Calls.mono (put32 b _ _ _ _ _ _ _ S.sel1 b0 b1 (by omega) (by omega)) ?_
  rintro e w2 ⟨rfl, C⟩
  have S2 := S.call C; clear S C; simp only [List.cons_append, List.nil_append] at S2; have S := S2; clear S2
  obtain ⟨l2, H2, hl2⟩ : ∃ x, Hid (splice l1 (off + 4) (le 4 ex.toNat) = x) ∧ x.length = l.length := ⟨_, rfl, by rw [splice_length _ _ _ (by simp; omega)]; exact hl1⟩
  rw [H2.out] at S
  go_wp2_with (first | ((with_reducible show Code.wp _ (Code.region _ _ true) _ _ _); refine St.regionLast S ?_; (repeat (first | (go_big_quiet_step (fail)) | (go_big_quiet_want; (first | refine quiet_ld S ?_ | refine quiet_ld8 S ?_ | refine quiet_ld0 ?_ | refine quiet_ldA S ?_ | refine quiet_b2sB S ?_ | refine quiet_b2sR S ?_); go_big_quiet_on))); refine wpQuiet_nil ?_; clear S; intro wq S) | (refine wpList_ld S ?_) | (refine wpList_ld8 S ?_) | (refine wpList_ld0 ?_) | (refine wpList_ldA S ?_) | (refine wpList_st8 S ?_; (clear S; intro ws S)) | (refine wpList_st S ?_; (clear S; intro ws S)) | (refine wpList_box S ?_; (clear S; intro nb wb hnb S)) | (refine wpList_alloc S ?_; (clear S; intro nb wb hnb S)) | (refine wpList_mk8 S ?_; (clear S; intro nb wb hnb S)) | (refine wpList_mk S ?_; (clear S; intro nb wb hnb S)) | (refine wpList_bs S ?_; (clear S; intro nb wb hnb S)) | (refine wpList_b2sB S ?_) | (refine wpList_b2sR S ?_))
  refine Calls.mono (put16 b _ _ _ _ _ _ _ S.sel1 c0 c1 (by omega) (by omega)) ?_
  rintro e w2 ⟨rfl, C⟩
  have S2 := S.call C; clear S C; simp only [List.cons_append, List.nil_append] at S2; have S := S2; clear S2
  obtain ⟨l3, H3, hl3⟩ : ∃ x, Hid (splice l2 (off + 8) (le 2 kl.toNat) = x) ∧ x.length = l.length := ⟨_, rfl, by rw [splice_length _ _ _ (by simp; omega)]; exact hl2⟩
  rw [H3.out] at S
  go_wp2_with (first | ((with_reducible show Code.wp _ (Code.region _ _ true) _ _ _); refine St.regionLast S ?_; (repeat (first | (go_big_quiet_step (fail)) | (go_big_quiet_want; (first | refine quiet_ld S ?_ | refine quiet_ld8 S ?_ | refine quiet_ld0 ?_ | refine quiet_ldA S ?_ | refine quiet_b2sB S ?_ | refine quiet_b2sR S ?_); go_big_quiet_on))); refine wpQuiet_nil ?_; clear S; intro wq S) | (refine wpList_ld S ?_) | (refine wpList_ld8 S ?_) | (refine wpList_ld0 ?_) | (refine wpList_ldA S ?_) | (refine wpList_st8 S ?_; (clear S; intro ws S)) | (refine wpList_st S ?_; (clear S; intro ws S)) | (refine wpList_box S ?_; (clear S; intro nb wb hnb S)) | (refine wpList_alloc S ?_; (clear S; intro nb wb hnb S)) | (refine wpList_mk8 S ?_; (clear S; intro nb wb hnb S)) | (refine wpList_mk S ?_; (clear S; intro nb wb hnb S)) | (refine wpList_bs S ?_; (clear S; intro nb wb hnb S)) | (refine wpList_b2sB S ?_) | (refine wpList_b2sR S ?_))
  refine Calls.mono (put16 b _ _ _ _ _ _ _ S.sel1 d0 d1 (by omega) (by omega)) ?_
  rintro e w2 ⟨rfl, C⟩
  have S2 := S.call C; clear S C; simp only [List.cons_append, List.nil_append] at S2; have S := S2; clear S2
  obtain ⟨l4, H4, hl4⟩ : ∃ x, Hid (splice l3 (off + 10) (le 2 hs.toNat) = x) ∧ x.length = l.length := ⟨_, rfl, by rw [splice_length _ _ _ (by simp; omega)]; exact hl3⟩
  rw [H4.out] at S
  go_wp2_with (first | ((with_reducible show Code.wp _ (Code.region _ _ true) _ _ _); refine St.regionLast S ?_; (repeat (first | (go_big_quiet_step (fail)) | (go_big_quiet_want; (first | refine quiet_ld S ?_ | refine quiet_ld8 S ?_ | refine quiet_ld0 ?_ | refine quiet_ldA S ?_ | refine quiet_b2sB S ?_ | refine quiet_b2sR S ?_); go_big_quiet_on))); refine wpQuiet_nil ?_; clear S; intro wq S) | (refine wpList_ld S ?_) | (refine wpList_ld8 S ?_) | (refine wpList_ld0 ?_) | (refine wpList_ldA S ?_) | (refine wpList_st8 S ?_; (clear S; intro ws S)) | (refine wpList_st S ?_; (clear S; intro ws S)) | (refine wpList_box S ?_; (clear S; intro nb wb hnb S)) | (refine wpList_alloc S ?_; (clear S; intro nb wb hnb S)) | (refine wpList_mk8 S ?_; (clear S; intro nb wb hnb S)) | (refine wpList_mk S ?_; (clear S; intro nb wb hnb S)) | (refine wpList_bs S ?_; (clear S; intro nb wb hnb S)) | (refine wpList_b2sB S ?_) | (refine wpList_b2sR S ?_))
  refine Calls.mono (put32 b _ _ _ _ _ _ _ S.sel1 e0 e1 (by omega) (by omega)) ?_
  rintro e w2 ⟨rfl, C⟩
  have S2 := S.call C; clear S C; simp only [List.cons_append, List.nil_append] at S2; have S := S2; clear S2
  obtain ⟨l5, H5, hl5⟩ : ∃ x, Hid (splice l4 (off + 12) (le 4 vl.toNat) = x) ∧ x.length = l.length := ⟨_, rfl, by rw [splice_length _ _ _ (by simp; omega)]; exact hl4⟩
  rw [H5.out] at S
  go_wp2_with (first | ((with_reducible show Code.wp _ (Code.region _ _ true) _ _ _); refine St.regionLast S ?_; (repeat (first | (go_big_quiet_step (fail)) | (go_big_quiet_want; (first | refine quiet_ld S ?_ | refine quiet_ld8 S ?_ | refine quiet_ld0 ?_ | refine quiet_ldA S ?_ | refine quiet_b2sB S ?_ | refine quiet_b2sR S ?_); go_big_quiet_on))); refine wpQuiet_nil ?_; clear S; intro wq S) | (refine wpList_ld S ?_) | (refine wpList_ld8 S ?_) | (refine wpList_ld0 ?_) | (refine wpList_ldA S ?_) | (refine wpList_st8 S ?_; (clear S; intro ws S)) | (refine wpList_st S ?_; (clear S; intro ws S)) | (refine wpList_box S ?_; (clear S; intro nb wb hnb S)) | (refine wpList_alloc S ?_; (clear S; intro nb wb hnb S)) | (refine wpList_mk8 S ?_; (clear S; intro nb wb hnb S)) | (refine wpList_mk S ?_; (clear S; intro nb wb hnb S)) | (refine wpList_bs S ?_; (clear S; intro nb wb hnb S)) | (refine wpList_b2sB S ?_) | (refine wpList_b2sR S ?_))
  refine Calls.mono (put32 b _ _ _ _ _ _ _ S.sel1 f0 f1 (by omega) (by omega)) ?_
  rintro e w2 ⟨rfl, C⟩
  have S2 := S.call C; clear S C; simp only [List.cons_append, List.nil_append] at S2; have S := S2; clear S2
  obtain ⟨l6, H6, hl6⟩ : ∃ x, Hid (splice l5 (off + 16) (le 4 vc.toNat) = x) ∧ x.length = l.length := ⟨_, rfl, by rw [splice_length _ _ _ (by simp; omega)]; exact hl5⟩
  rw [H6.out] at S
  cases d
  all_goals
    go_wp2_with (first | ((with_reducible show Code.wp _ (Code.region _ _ true) _ _ _); refine St.regionLast S ?_; (repeat (first | (go_big_quiet_step (fail)) | (go_big_quiet_want; (first | refine quiet_ld S ?_ | refine quiet_ld8 S ?_ | refine quiet_ld0 ?_ | refine quiet_ldA S ?_ | refine quiet_b2sB S ?_ | refine quiet_b2sR S ?_); go_big_quiet_on))); refine wpQuiet_nil ?_; clear S; intro wq S) | (refine wpList_ld S ?_) | (refine wpList_ld8 S ?_) | (refine wpList_ld0 ?_) | (refine wpList_ldA S ?_) | (refine wpList_st8 S ?_; (clear S; intro ws S)) | (refine wpList_st S ?_; (clear S; intro ws S)) | (refine wpList_box S ?_; (clear S; intro nb wb hnb S)) | (refine wpList_alloc S ?_; (clear S; intro nb wb hnb S)) | (refine wpList_mk8 S ?_; (clear S; intro nb wb hnb S)) | (refine wpList_mk S ?_; (clear S; intro nb wb hnb S)) | (refine wpList_bs S ?_; (clear S; intro nb wb hnb S)) | (refine wpList_b2sB S ?_) | (refine wpList_b2sR S ?_))

    refine Calls.mono (put16 b _ _ _ _ _ _ _ S.sel1 i0 i1 (by omega) (by simp; omega)) ?_
    rintro e w2 ⟨rfl, C⟩
    have S2 := S.call C; clear S C; simp only [List.cons_append, List.nil_append] at S2; have S := S2; clear S2
    go_wp2
    go_end0
    refine ⟨rfl, ?_⟩
    have e0 : UInt8.ofNat (Int.toNat 0) = 0 := rfl
    have e1 : UInt8.ofNat (Int.toNat 1) = 1 := rfl
    simp only [e0, e1, List.set_set] at S
    rw [H1.out, H2.out, H3.out, H4.out, H5.out, H6.out]
    first
      | rw [← set_one l6 (off + 20) (cond false 1 0) (by omega)]
      | rw [← set_one l6 (off + 20) (cond true 1 0) (by omega)]
    exact S.sel (by repeat (first | exact Sel.nil | (apply Sel.cons; (repeat (first | exact Pull.head | apply Pull.tail)))))
end Go.Proofs.Ytehfdefpajjmaaa
