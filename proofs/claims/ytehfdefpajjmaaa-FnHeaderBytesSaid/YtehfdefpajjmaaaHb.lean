/- The header of an entry lies in the ring as 24 bytes, each number with its lowest byte first: for all headers (times, lengths and the hash of their kinds' ranges), no condition. -/
import Derived.Test.YtehfdefpajjmaaaHdr
import Derived.OpenShut
import Derived.SizedLaws
namespace Go.Proofs.Ytehfdefpajjmaaa
open Go.RowKit Go.Vil

theorem le4_cells (v : Int) (h0 : 0 ≤ v) (h1 : v < 4294967296) : u8s (le 4 v.toNat) = [.int .u8 (v % 256), .int .u8 (v / 256 % 256), .int .u8 (v / 65536 % 256), .int .u8 (v / 16777216)] := by
  obtain ⟨n, rfl⟩ := Int.eq_ofNat_of_zero_le h0
  simp only [u8s, le, List.map_cons, List.map_nil, UInt8.toNat_ofNat', Int.toNat_natCast, List.cons.injEq, Value.int.injEq, true_and, and_true]
  omega
theorem le2_cells (v : Int) (h0 : 0 ≤ v) (h1 : v < 65536) : u8s (le 2 v.toNat) = [.int .u8 (v % 256), .int .u8 (v / 256)] := by
  obtain ⟨n, rfl⟩ := Int.eq_ofNat_of_zero_le h0
  simp only [u8s, le, List.map_cons, List.map_nil, UInt8.toNat_ofNat', Int.toNat_natCast, List.cons.injEq, Value.int.injEq, true_and, and_true]
  omega

set_option maxHeartbeats 400000 in
theorem bytes32 (v : Int) (w : World) (h0 : 0 ≤ v) (h1 : v < 4294967296) :
    Calls Try.prog 28 #[.int .u32 v] w fun e w' => ∃ n, e = .returned (.slice (some ⟨n, 0, none⟩) 4 4) ∧ St w [] w' [.blk n (.cells (u8s (le 4 v.toNat)).toArray 5 (0, 0))] := by
  rw [le4_cells v h0 h1]
  have S := St.begin w
  go_enter Try.func28, Try.ntmps28
  go_wp2_with (first | ((with_reducible show Code.wp _ (Code.region _ _ true) _ _ _); refine St.regionLast S ?_; (repeat (first | (go_big_quiet_step (fail)) | (go_big_quiet_want; (first | refine quiet_ld S ?_ | refine quiet_ld8 S ?_ | refine quiet_ld0 ?_ | refine quiet_ldA S ?_ | refine quiet_b2sB S ?_ | refine quiet_b2sR S ?_); go_big_quiet_on))); refine wpQuiet_nil ?_; clear S; intro wq S) | (refine wpList_ld S ?_) | (refine wpList_ld8 S ?_) | (refine wpList_ld0 ?_) | (refine wpList_ldA S ?_) | (refine wpList_st8 S ?_; (clear S; intro ws S)) | (refine wpList_st S ?_; (clear S; intro ws S)) | (refine wpList_box S ?_; (clear S; intro nb wb hnb S)) | (refine wpList_alloc S ?_; (clear S; intro nb wb hnb S)) | (refine wpList_mk8 S ?_; (clear S; intro nb wb hnb S)) | (refine wpList_mk S ?_; (clear S; intro nb wb hnb S)) | (refine wpList_bs S ?_; (clear S; intro nb wb hnb S)) | (refine wpList_b2sB S ?_) | (refine wpList_b2sR S ?_))
  go_ret
  exact ⟨_, rfl, S⟩

set_option maxHeartbeats 800000 in
set_option maxRecDepth 100000 in
theorem zzHeader (ac ex kl hs vl vc sl : Int) (d : Bool) (w : World)
    (a0 : 0 ≤ ac) (a1 : ac < 4294967296) (b0 : 0 ≤ ex) (b1 : ex < 4294967296) (c0 : 0 ≤ kl) (c1 : kl < 65536) (d0 : 0 ≤ hs) (d1 : hs < 65536) (e0 : 0 ≤ vl) (e1 : vl < 4294967296) (f0 : 0 ≤ vc) (f1 : vc < 4294967296)
    (g0 : 0 ≤ sl) (g1 : sl < 256) :
    Calls Try.prog 44 #[.agg #[.int .u32 ac, .int .u32 ex, .int .u32 kl, .int .u32 hs, .int .u32 vl, .int .u32 vc], .bool d, .int .u8 sl] w fun e w' =>
      ∃ n, e = .returned (.slice (some ⟨n, 0, none⟩) 24 24) ∧ St w [] w' [.blk n (.cells (u8s (hdrBytes ac ex kl hs vl vc d sl 0)).toArray 5 (0, 0))] := by
  have S := St.begin w
  go_enter Try.func44, Try.ntmps44
  go_wp2_with (first | ((with_reducible show Code.wp _ (Code.region _ _ true) _ _ _); refine St.regionLast S ?_; (repeat (first | (go_big_quiet_step (fail)) | (go_big_quiet_want; (first | refine quiet_ld S ?_ | refine quiet_ld8 S ?_ | refine quiet_ld0 ?_ | refine quiet_ldA S ?_ | refine quiet_b2sB S ?_ | refine quiet_b2sR S ?_); go_big_quiet_on))); refine wpQuiet_nil ?_; clear S; intro wq S) | (refine wpList_ld S ?_) | (refine wpList_ld8 S ?_) | (refine wpList_ld0 ?_) | (refine wpList_ldA S ?_) | (refine wpList_st8 S ?_; (clear S; intro ws S)) | (refine wpList_st S ?_; (clear S; intro ws S)) | (refine wpList_box S ?_; (clear S; intro nb wb hnb S)) | (refine wpList_alloc S ?_; (clear S; intro nb wb hnb S)) | (refine wpList_mk8 S ?_; (clear S; intro nb wb hnb S)) | (refine wpList_mk S ?_; (clear S; intro nb wb hnb S)) | (refine wpList_bs S ?_; (clear S; intro nb wb hnb S)) | (refine wpList_b2sB S ?_) | (refine wpList_b2sR S ?_))
  refine Calls.mono (hdrWrite _ _ 0 24 24 (List.replicate 24 0) ac ex kl hs vl vc sl 0 d _ 5 76 (by omega) (by simp) (by omega) a0 a1 b0 b1 c0 c1 d0 d1 e0 e1 f0 f1 g0 g1 (by omega) (by omega) S.sel2) ?_
  rintro e w2 ⟨rfl, C⟩
  have S2 := S.call C; clear S C; simp only [List.cons_append, List.nil_append] at S2; have S := S2; clear S2
  go_wp2
  go_ret
  have hsp : splice (List.replicate 24 (0 : UInt8)) 0 (hdrBytes ac ex kl hs vl vc d sl 0) = hdrBytes ac ex kl hs vl vc d sl 0 := splice_all _ _ (by simp [hdrBytes])
  rw [hsp] at S
  exact ⟨_, rfl, S.sel (by repeat (first | exact Sel.nil | (apply Sel.cons; (repeat (first | exact Pull.head | apply Pull.tail)))))⟩

set_option maxHeartbeats 800000 in
set_option maxRecDepth 100000 in
theorem implHeader (ac ex kl hs vl vc sl : Int) (d : Bool) (w : World)
    (a0 : 0 ≤ ac) (a1 : ac < 4294967296) (b0 : 0 ≤ ex) (b1 : ex < 4294967296) (c0 : 0 ≤ kl) (c1 : kl < 65536) (d0 : 0 ≤ hs) (d1 : hs < 65536) (e0 : 0 ≤ vl) (e1 : vl < 4294967296) (f0 : 0 ≤ vc) (f1 : vc < 4294967296)
    (g0 : 0 ≤ sl) (g1 : sl < 256) :
    Calls Try.prog 29 #[.int .u32 ac, .int .u32 ex, .int .u16 kl, .int .u16 hs, .int .u32 vl, .int .u32 vc, .bool d, .int .u8 sl] w fun e w' =>
      ∃ n, e = .returned (.slice (some ⟨n, 0, none⟩) 24 24) ∧ St w [] w' [.blk n (.cells (u8s (hdrBytes ac ex kl hs vl vc d sl 0)).toArray 5 (0, 0))] := by
  have S := St.begin w
  go_enter Try.func29, Try.ntmps29
  go_wp2_with (first | ((with_reducible show Code.wp _ (Code.region _ _ true) _ _ _); refine St.regionLast S ?_; (repeat (first | (go_big_quiet_step (fail)) | (go_big_quiet_want; (first | refine quiet_ld S ?_ | refine quiet_ld8 S ?_ | refine quiet_ld0 ?_ | refine quiet_ldA S ?_ | refine quiet_b2sB S ?_ | refine quiet_b2sR S ?_); go_big_quiet_on))); refine wpQuiet_nil ?_; clear S; intro wq S) | (refine wpList_ld S ?_) | (refine wpList_ld8 S ?_) | (refine wpList_ld0 ?_) | (refine wpList_ldA S ?_) | (refine wpList_st8 S ?_; (clear S; intro ws S)) | (refine wpList_st S ?_; (clear S; intro ws S)) | (refine wpList_box S ?_; (clear S; intro nb wb hnb S)) | (refine wpList_alloc S ?_; (clear S; intro nb wb hnb S)) | (refine wpList_mk8 S ?_; (clear S; intro nb wb hnb S)) | (refine wpList_mk S ?_; (clear S; intro nb wb hnb S)) | (refine wpList_bs S ?_; (clear S; intro nb wb hnb S)) | (refine wpList_b2sB S ?_) | (refine wpList_b2sR S ?_))
  refine Calls.mono (zzHeader ac ex kl hs vl vc sl d _ a0 a1 b0 b1 c0 c1 d0 d1 e0 e1 f0 f1 g0 g1) ?_
  rintro e w2 ⟨n, rfl, C⟩
  have S2 := S.call C; clear S C; simp only [List.cons_append, List.nil_append] at S2; have S := S2; clear S2
  go_wp2
  go_ret
  exact ⟨_, rfl, S⟩

theorem u8_of (z : Int) (h0 : 0 ≤ z) (h1 : z < 256) : [Value.int .u8 z] = u8s [UInt8.ofNat z.toNat] := by
  simp only [u8s, List.map_cons, List.map_nil, UInt8.toNat_ofNat', List.cons.injEq, Value.int.injEq, true_and, and_true]
  omega

theorem hdr_cat (ac ex kl hs vl vc sl x : Int) (d : Bool) (hd : x = cond d 1 0) (a0 : 0 ≤ ac) (a1 : ac < 4294967296) (b0 : 0 ≤ ex) (b1 : ex < 4294967296) (c0 : 0 ≤ kl) (c1 : kl < 65536) (d0 : 0 ≤ hs) (d1 : hs < 65536) (e0 : 0 ≤ vl) (e1 : vl < 4294967296) (f0 : 0 ≤ vc) (f1 : vc < 4294967296)
    (g0 : 0 ≤ sl) (g1 : sl < 256) :
    u8s (le 4 ac.toNat) ++ u8s (le 4 ex.toNat) ++ [.int .u8 (kl % 256), .int .u8 (kl / 256), .int .u8 (hs % 256), .int .u8 (hs / 256)] ++ u8s (le 4 vl.toNat) ++ u8s (le 4 vc.toNat) ++ [.int .u8 x, .int .u8 sl, .int .u8 0, .int .u8 0] =
      u8s (hdrBytes ac ex kl hs vl vc d sl 0) := by
  rw [le4_cells ac a0 a1, le4_cells ex b0 b1, le4_cells vl e0 e1, le4_cells vc f0 f1]
  unfold hdrBytes
  simp only [u8s_append]
  rw [le4_cells ac a0 a1, le4_cells ex b0 b1, le4_cells vl e0 e1, le4_cells vc f0 f1, le2_cells kl c0 c1, le2_cells hs d0 d1, ← u8_of sl g0 g1, hd]
  cases d <;> simp [u8s, le]

set_option maxHeartbeats 2000000 in
set_option maxRecDepth 100000 in
theorem lawHeader (ac ex kl hs vl vc sl : Int) (d : Bool) (w : World)
    (a0 : 0 ≤ ac) (a1 : ac < 4294967296) (b0 : 0 ≤ ex) (b1 : ex < 4294967296) (c0 : 0 ≤ kl) (c1 : kl < 65536) (d0 : 0 ≤ hs) (d1 : hs < 65536) (e0 : 0 ≤ vl) (e1 : vl < 4294967296) (f0 : 0 ≤ vc) (f1 : vc < 4294967296)
    (g0 : 0 ≤ sl) (g1 : sl < 256) :
    Calls Try.prog 11 #[.int .u32 ac, .int .u32 ex, .int .u16 kl, .int .u16 hs, .int .u32 vl, .int .u32 vc, .bool d, .int .u8 sl] w fun e w' => e = .returned (.bool true) ∧ Below w.heap.size w w' := by
  cases d
  all_goals
    have S := St.begin w
    go_enter Try.func11, Try.ntmps11
    go_wp2_with (first | ((with_reducible show Code.wp _ (Code.region _ _ true) _ _ _); refine St.regionLast S ?_; (repeat (first | (go_big_quiet_step (fail)) | (go_big_quiet_want; (first | refine quiet_ld S ?_ | refine quiet_ld8 S ?_ | refine quiet_ld0 ?_ | refine quiet_ldA S ?_ | refine quiet_b2sB S ?_ | refine quiet_b2sR S ?_); go_big_quiet_on))); refine wpQuiet_nil ?_; clear S; intro wq S) | (refine wpList_ld S ?_) | (refine wpList_ld8 S ?_) | (refine wpList_ld0 ?_) | (refine wpList_ldA S ?_) | (refine wpList_st8 S ?_; (clear S; intro ws S)) | (refine wpList_st S ?_; (clear S; intro ws S)) | (refine wpList_box S ?_; (clear S; intro nb wb hnb S)) | (refine wpList_alloc S ?_; (clear S; intro nb wb hnb S)) | (refine wpList_mk8 S ?_; (clear S; intro nb wb hnb S)) | (refine wpList_mk S ?_; (clear S; intro nb wb hnb S)) | (refine wpList_bs S ?_; (clear S; intro nb wb hnb S)) | (refine wpList_b2sB S ?_) | (refine wpList_b2sR S ?_))
    refine Calls.mono (bytes32 ac _ a0 a1) ?_
    rintro e w2 ⟨n1, rfl, C⟩
    have S2 := S.call C; clear S C; simp only [List.cons_append, List.nil_append] at S2; have S := S2; clear S2
    go_wp2_with (first | ((with_reducible show Code.wp _ (Code.region _ _ true) _ _ _); refine St.regionLast S ?_; (repeat (first | (go_big_quiet_step (fail)) | (go_big_quiet_want; (first | refine quiet_ld S ?_ | refine quiet_ld8 S ?_ | refine quiet_ld0 ?_ | refine quiet_ldA S ?_ | refine quiet_b2sB S ?_ | refine quiet_b2sR S ?_); go_big_quiet_on))); refine wpQuiet_nil ?_; clear S; intro wq S) | (refine wpList_ld S ?_) | (refine wpList_ld8 S ?_) | (refine wpList_ld0 ?_) | (refine wpList_ldA S ?_) | (refine wpList_st8 S ?_; (clear S; intro ws S)) | (refine wpList_st S ?_; (clear S; intro ws S)) | (refine wpList_box S ?_; (clear S; intro nb wb hnb S)) | (refine wpList_alloc S ?_; (clear S; intro nb wb hnb S)) | (refine wpList_mk8 S ?_; (clear S; intro nb wb hnb S)) | (refine wpList_mk S ?_; (clear S; intro nb wb hnb S)) | (refine wpList_bs S ?_; (clear S; intro nb wb hnb S)) | (refine wpList_b2sB S ?_) | (refine wpList_b2sR S ?_))
    refine Calls.mono (bytes32 ex _ b0 b1) ?_
    rintro e w2 ⟨n2, rfl, C⟩
    have S2 := S.call C; clear S C; simp only [List.cons_append, List.nil_append] at S2; have S := S2; clear S2
    have S2 := S.toRow8 (b := n1) (by repeat (first | exact Pull.head | apply Pull.tail)) (le_length _ _) (by unfold maxLen; omega)
    clear S
    have S := S2
    clear S2
    go_wp2_with (first | ((with_reducible show Code.wp _ (Code.region _ _ true) _ _ _); refine St.regionLast S ?_; (repeat (first | (go_big_quiet_step (fail)) | (go_big_quiet_want; (first | refine quiet_ld S ?_ | refine quiet_ld8 S ?_ | refine quiet_ld0 ?_ | refine quiet_ldA S ?_ | refine quiet_b2sB S ?_ | refine quiet_b2sR S ?_); go_big_quiet_on))); refine wpQuiet_nil ?_; clear S; intro wq S) | (refine wpList_ld S ?_) | (refine wpList_ld8 S ?_) | (refine wpList_ld0 ?_) | (refine wpList_ldA S ?_) | (refine wpList_st8 S ?_; (clear S; intro ws S)) | (refine wpList_st S ?_; (clear S; intro ws S)) | (refine wpList_box S ?_; (clear S; intro nb wb hnb S)) | (refine wpList_alloc S ?_; (clear S; intro nb wb hnb S)) | (refine wpList_mk8 S ?_; (clear S; intro nb wb hnb S)) | (refine wpList_mk S ?_; (clear S; intro nb wb hnb S)) | (refine wpList_bs S ?_; (clear S; intro nb wb hnb S)) | (refine wpList_b2sB S ?_) | (refine wpList_b2sR S ?_) | (refine wpList_app8 S ?_; (clear S; intro va wa hva S)) | (refine wpList_appB S ?_; (clear S; intro va wa hva S)) | (refine wpList_appS S ?_; (clear S; intro va wa hva S)))
    refine Calls.mono (bytes32 vl _ e0 e1) ?_
    rintro e w2 ⟨n3, rfl, C⟩
    have S2 := S.call C; clear S C; simp only [List.cons_append, List.nil_append] at S2; have S := S2; clear S2
    go_wp2_with (first | ((with_reducible show Code.wp _ (Code.region _ _ true) _ _ _); refine St.regionLast S ?_; (repeat (first | (go_big_quiet_step (fail)) | (go_big_quiet_want; (first | refine quiet_ld S ?_ | refine quiet_ld8 S ?_ | refine quiet_ld0 ?_ | refine quiet_ldA S ?_ | refine quiet_b2sB S ?_ | refine quiet_b2sR S ?_); go_big_quiet_on))); refine wpQuiet_nil ?_; clear S; intro wq S) | (refine wpList_ld S ?_) | (refine wpList_ld8 S ?_) | (refine wpList_ld0 ?_) | (refine wpList_ldA S ?_) | (refine wpList_st8 S ?_; (clear S; intro ws S)) | (refine wpList_st S ?_; (clear S; intro ws S)) | (refine wpList_box S ?_; (clear S; intro nb wb hnb S)) | (refine wpList_alloc S ?_; (clear S; intro nb wb hnb S)) | (refine wpList_mk8 S ?_; (clear S; intro nb wb hnb S)) | (refine wpList_mk S ?_; (clear S; intro nb wb hnb S)) | (refine wpList_bs S ?_; (clear S; intro nb wb hnb S)) | (refine wpList_b2sB S ?_) | (refine wpList_b2sR S ?_) | (refine wpList_app8 S ?_; (clear S; intro va wa hva S)) | (refine wpList_appB S ?_; (clear S; intro va wa hva S)) | (refine wpList_appS S ?_; (clear S; intro va wa hva S)))
    refine Calls.mono (bytes32 vc _ f0 f1) ?_
    rintro e w2 ⟨n4, rfl, C⟩
    have S2 := S.call C; clear S C; simp only [List.cons_append, List.nil_append] at S2; have S := S2; clear S2
    go_wp2_with (first | ((with_reducible show Code.wp _ (Code.region _ _ true) _ _ _); refine St.regionLast S ?_; (repeat (first | (go_big_quiet_step (fail)) | (go_big_quiet_want; (first | refine quiet_ld S ?_ | refine quiet_ld8 S ?_ | refine quiet_ld0 ?_ | refine quiet_ldA S ?_ | refine quiet_b2sB S ?_ | refine quiet_b2sR S ?_); go_big_quiet_on))); refine wpQuiet_nil ?_; clear S; intro wq S) | (refine wpList_ld S ?_) | (refine wpList_ld8 S ?_) | (refine wpList_ld0 ?_) | (refine wpList_ldA S ?_) | (refine wpList_st8 S ?_; (clear S; intro ws S)) | (refine wpList_st S ?_; (clear S; intro ws S)) | (refine wpList_box S ?_; (clear S; intro nb wb hnb S)) | (refine wpList_alloc S ?_; (clear S; intro nb wb hnb S)) | (refine wpList_mk8 S ?_; (clear S; intro nb wb hnb S)) | (refine wpList_mk S ?_; (clear S; intro nb wb hnb S)) | (refine wpList_bs S ?_; (clear S; intro nb wb hnb S)) | (refine wpList_b2sB S ?_) | (refine wpList_b2sR S ?_) | (refine wpList_app8 S ?_; (clear S; intro va wa hva S)) | (refine wpList_appB S ?_; (clear S; intro va wa hva S)) | (refine wpList_appS S ?_; (clear S; intro va wa hva S)))
    first
      | rw [hdr_cat ac ex kl hs vl vc sl 1 true rfl a0 a1 b0 b1 c0 c1 d0 d1 e0 e1 f0 f1 g0 g1] at S
      | rw [hdr_cat ac ex kl hs vl vc sl 0 false rfl a0 a1 b0 b1 c0 c1 d0 d1 e0 e1 f0 f1 g0 g1] at S
    refine St.regionG S 14 [([0, 1, 2, 3, 4, 5, 6, 7, 10, 11], 8)] [9, 12, 13] ?_
    clear S
    intro wr S
    simp only [walkSt, pick, List.getElem?_cons_succ, List.getElem?_cons_zero, List.drop_succ_cons, List.drop_zero]
    (repeat (first | (go_big_quiet_step (fail)) | (go_big_quiet_want; (first | refine quiet_ld S ?_ | refine quiet_ld8 S ?_ | refine quiet_ld0 ?_ | refine quiet_ldA S ?_ | refine quiet_b2sB S ?_ | refine quiet_b2sR S ?_); go_big_quiet_on)))
    refine wpQuiet_nil ?_
    go_wp2_with fail
    refine Calls.mono (implHeader ac ex kl hs vl vc sl _ _ a0 a1 b0 b1 c0 c1 d0 d1 e0 e1 f0 f1 g0 g1) ?_
    rintro e w5 ⟨n5, rfl, C⟩
    have S2 := S.call C; clear S C; simp only [List.cons_append, List.nil_append] at S2; have S := S2; clear S2
    go_wp2_with fail
    refine ⟨_, S, (by repeat (first | exact Sel.nil | (apply Sel.cons; (repeat (first | exact Pull.head | apply Pull.tail))))), ?_⟩
    (repeat (first | (go_big_quiet_step (fail)) | (go_big_quiet_want; (first | refine quiet_ld S ?_ | refine quiet_ld8 S ?_ | refine quiet_ld0 ?_ | refine quiet_ldA S ?_ | refine quiet_b2sB S ?_ | refine quiet_b2sR S ?_); go_big_quiet_on)))
    refine wpQuiet_nil ?_
    go_wp2
    go_ret
    exact ⟨rfl, S.chg.below⟩

theorem wf32 {n : Int} (h : (Lit.int .u32 n).wf = true) : 0 ≤ n ∧ n < 4294967296 := by
  simp [Lit.wf, IntKind.min, IntKind.max, IntKind.signed, IntKind.bits] at h; omega
theorem wf16 {n : Int} (h : (Lit.int .u16 n).wf = true) : 0 ≤ n ∧ n < 65536 := by
  simp [Lit.wf, IntKind.min, IntKind.max, IntKind.signed, IntKind.bits] at h; omega
theorem wf8 {n : Int} (h : (Lit.int .u8 n).wf = true) : 0 ≤ n ∧ n < 256 := by
  simp [Lit.wf, IntKind.min, IntKind.max, IntKind.signed, IntKind.bits] at h; omega

theorem lawHeader' (a0 a1 a2 a3 a4 a5 : Int) (a6 : Bool) (a7 : Int) (w : World) (w0 : (Lit.int .u32 a0).wf = true) (w1 : (Lit.int .u32 a1).wf = true) (w2 : (Lit.int .u16 a2).wf = true) (w3 : (Lit.int .u16 a3).wf = true) (w4 : (Lit.int .u32 a4).wf = true) (w5 : (Lit.int .u32 a5).wf = true)
    (w7 : (Lit.int .u8 a7).wf = true) :
    Calls Try.prog 11 #[.int .u32 a0, .int .u32 a1, .int .u16 a2, .int .u16 a3, .int .u32 a4, .int .u32 a5, .bool a6, .int .u8 a7] w fun e w' => e = .returned (.bool true) ∧ Below w.heap.size w w' :=
  lawHeader a0 a1 a2 a3 a4 a5 a7 a6 w (wf32 w0).1 (wf32 w0).2 (wf32 w1).1 (wf32 w1).2 (wf16 w2).1 (wf16 w2).2 (wf16 w3).1 (wf16 w3).2 (wf32 w4).1 (wf32 w4).2 (wf32 w5).1 (wf32 w5).2 (wf8 w7).1 (wf8 w7).2
end Go.Proofs.Ytehfdefpajjmaaa
