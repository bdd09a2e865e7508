/- The tape of the reference: a byte more. -/
import Derived.Test.YtbklhnpnkinadaaDoorTaP
import Derived.Test.YtbklhnpnkinadaaDoorPlan3
import Derived.Test.YtbklhnpnkinadaaDoorSlc
import Derived.Test.YtbklhnpnkinadaaDoorTy
import Derived.Test.YtbklhnpnkinadaaDoorRet
import Derived.Test.YtbklhnpnkinadaaDoorArr
import Derived.Deep.DeepCutAuto
namespace Go.Proofs.YtbklhnpnkinadaaDoor
open Go Go.RowKit Go.Vil
set_option linter.unusedSimpArgs false
set_option linter.unusedVariables false
set_option maxRecDepth 100000

/-- A tape as it lies in memory. -/
abbrev tHead (tp : Nat) (size b e o : Int) (vb vk : Value) : Res := .blk tp (.cells [.int .i64 size, .int .i64 b, .int .i64 e, .int .i64 o, vb, vk].toArray 43 (0, 0))
def bls (l : List Bool) : List Value := l.map .bool
@[simp] theorem length_bls (l : List Bool) : (bls l).length = l.length := by simp [bls]
theorem bls_append (a b : List Bool) : bls (a ++ b) = bls a ++ bls b := by simp [bls]
theorem bls_one (l : List Bool) : ∀ u ∈ bls l, u.oneCell' = true := by
  intro u hu
  obtain ⟨c, _, rfl⟩ := List.mem_map.1 hu
  rfl
abbrev tMem (tp : Nat) (t : Ta) (vb vk : Value) : List Res := [tHead tp t.size t.b t.e t.o vb vk, .row 5 1 vb t.bytes.length (u8s t.bytes), .row 4 1 vk t.known.length (bls t.known)]
/-- A tape is there, with other things. -/
def TapeSt (w0 : World) (bs : List Nat) (w : World) (tp : Nat) (t : Ta) (F : List Res) : Prop := ∃ vb vk, St w0 bs w (tHead tp t.size t.b t.e t.o vb vk :: .row 5 1 vb t.bytes.length (u8s t.bytes) :: .row 4 1 vk t.known.length (bls t.known) :: F)
theorem TapeSt.of {w0 w : World} {bs : List Nat} {tp : Nat} {t : Ta} {F : List Res} {size b e o : Int} {vb vk : Value} {n k : Nat} {xs ys : List Value} (S : St w0 bs w (tHead tp size b e o vb vk :: .row 5 1 vb n xs :: .row 4 1 vk k ys :: F))
    (h1 : size = t.size) (h2 : b = t.b) (h3 : e = t.e) (h4 : o = t.o) (h5 : n = t.bytes.length) (h6 : xs = u8s t.bytes) (h7 : k = t.known.length) (h8 : ys = bls t.known) : TapeSt w0 bs w tp t F := by
  subst h1 h2 h3 h4 h5 h6 h7 h8
  exact ⟨vb, vk, S⟩
/-- A tape within bounds. -/
structure Calm (t : Ta) : Prop where
  fine : t.Fine
  e : t.e ≤ 1125899906842624
  size : t.size ≤ 1048576
  len : t.bytes.length ≤ 1073741824

set_option maxHeartbeats 6400000 in
theorem tapePut (tp : Nat) (t : Ta) (c : UInt8) (kn : Bool) (F : List Res) (w0 : World) (bs : List Nat) (w : World) (hS : TapeSt w0 bs w tp t F) (ht : Calm t) :
    Calls Tryd.prog 38 #[.pointer (some ⟨tp, 0, none⟩), .int .u8 (c.toNat : Int), .bool kn] w fun e w' => e = .returned (.tuple #[]) ∧ TapeSt w0 bs w' tp (t.put c kn) F := by
  obtain ⟨vb, vk, S⟩ := hS
  obtain ⟨hf, h2, h3, h4⟩ := ht
  have h5 := hf.be
  have h6 := hf.pos
  have h7 : t.known.length ≤ 1073741824 := by have := hf.len; have := hf.klen; omega
  replace hf := hidden hf
  refine Calls.cps ?_; intro R hR
  go_enter Tryd.func38, Tryd.ntmps38
  go_upto_region 0 with fail
  go_cut [] (fun w' => ∃ vb' vk', St w0 bs w' (tHead tp t.size t.b (t.e + 1 : Nat) t.o vb' vk' :: .row 5 1 vb' (t.bytes.length + 1) (u8s t.bytes ++ [.int .u8 (c.toNat : Int)]) :: .row 4 1 vk' (t.known.length + 1) (bls t.known ++ [.bool kn]) :: F))
  case first =>
    refine St.regionH S [tHead tp t.size t.b t.e t.o vb vk] 31 24 (.two [(0, false), (1, false), (2, false), (3, false), (4, false), (5, false), (6, true), (7, false), (10, false), (11, false), (12, false), (13, true), (14, false), (17, false), (18, false), (19, false), (20, true), (21, false)] 8 (.two [] 9 (.one [] 15 (.one [] 16 (.turn [(22, false), (23, false)] [([25, 26], 27), ([28, 29], 30)] []))) 15 (.one [] 9 (.one [] 16 (.turn [(22, false), (23, false)] [([25, 26], 27), ([28, 29], 30)] [])))) 15 (.one [] 8 (.one [] 9 (.one [] 16 (.turn [(22, false), (23, false)] [([25, 26], 27), ([28, 29], 30)] []))))) ?_
    clear S; intro wr Cr S Sc; simp only [walkHS, wpQH, walkC, pick, List.getElem?_cons_succ, List.getElem?_cons_zero, List.drop_succ_cons, List.drop_zero]; (repeat (first | (first | (go_big_quiet_step (fail)) | (go_big_quiet_want; (first | refine quiet_ld Sc ?_ | refine quiet_ld8 Sc ?_ | refine quiet_ld0 ?_ | refine quiet_ldA Sc ?_ | refine quiet_b2sB Sc ?_ | refine quiet_b2sR Sc ?_ | refine quiet_ldc Sc ?_); go_big_quiet_on)) | refine wpQuiet_nil ?_))
    constructor
    · refine wpList_bs S ?_; (clear S; intro nb wb hnb S)
      refine ⟨(S.sel (by repeat (first | exact Sel.nil | (apply Sel.cons; (repeat (first | exact Pull.head | apply Pull.tail)))))).inSt _, ?_⟩; (repeat (first | (first | (go_big_quiet_step (fail)) | (go_big_quiet_want; (first | refine quiet_ld Sc ?_ | refine quiet_ld8 Sc ?_ | refine quiet_ld0 ?_ | refine quiet_ldA Sc ?_ | refine quiet_b2sB Sc ?_ | refine quiet_b2sR Sc ?_ | refine quiet_ldc Sc ?_); go_big_quiet_on)) | refine wpQuiet_nil ?_))
      constructor
      · refine wpList_appB S ?_; (clear S; intro va wa hva S; obtain ⟨a3, c3, rfl, hc3, hc4⟩ := S.rowSlice (hp := Pull.head); clear hva)
        refine ⟨(S.sel (by repeat (first | exact Sel.nil | (apply Sel.cons; (repeat (first | exact Pull.head | apply Pull.tail)))))).inSt _, ?_⟩; (repeat (first | (first | (go_big_quiet_step (fail)) | (go_big_quiet_want; (first | refine quiet_ld Sc ?_ | refine quiet_ld8 Sc ?_ | refine quiet_ld0 ?_ | refine quiet_ldA Sc ?_ | refine quiet_b2sB Sc ?_ | refine quiet_b2sR Sc ?_ | refine quiet_ldc Sc ?_); go_big_quiet_on)) | refine wpQuiet_nil ?_))
        refine wpList_bs S ?_; (clear S; intro nb wb hnb S)
        refine ⟨(S.sel (by repeat (first | exact Sel.nil | (apply Sel.cons; (repeat (first | exact Pull.head | apply Pull.tail)))))).inSt _, ?_⟩; (repeat (first | (first | (go_big_quiet_step (fail)) | (go_big_quiet_want; (first | refine quiet_ld Sc ?_ | refine quiet_ld8 Sc ?_ | refine quiet_ld0 ?_ | refine quiet_ldA Sc ?_ | refine quiet_b2sB Sc ?_ | refine quiet_b2sR Sc ?_ | refine quiet_ldc Sc ?_); go_big_quiet_on)) | refine wpQuiet_nil ?_))
        refine wpList_appB S ?_; (clear S; intro va wa hva S; obtain ⟨a3, c3, rfl, hc3, hc4⟩ := S.rowSlice (hp := Pull.head); clear hva)
        refine ⟨(S.sel (by repeat (first | exact Sel.nil | (apply Sel.cons; (repeat (first | exact Pull.head | apply Pull.tail)))))).inSt _, ?_⟩; (repeat (first | (first | (go_big_quiet_step (fail)) | (go_big_quiet_want; (first | refine quiet_ld Sc ?_ | refine quiet_ld8 Sc ?_ | refine quiet_ld0 ?_ | refine quiet_ldA Sc ?_ | refine quiet_b2sB Sc ?_ | refine quiet_b2sR Sc ?_ | refine quiet_ldc Sc ?_); go_big_quiet_on)) | refine wpQuiet_nil ?_))
        refine wpList_st S ?_; (clear S; intro ws S)
        show wpQuiet _ _ _ _ _ _; (repeat (first | (first | (go_big_quiet_step (fail)) | (go_big_quiet_want; (first | refine quiet_ld Sc ?_ | refine quiet_ld8 Sc ?_ | refine quiet_ld0 ?_ | refine quiet_ldA Sc ?_ | refine quiet_b2sB Sc ?_ | refine quiet_b2sR Sc ?_ | refine quiet_ldc Sc ?_); go_big_quiet_on)) | refine wpQuiet_nil ?_))
        refine wpList_st S ?_; (clear S; intro ws S)
        refine ⟨trivial, ?_⟩; (repeat (first | (first | (go_big_quiet_step (fail)) | (go_big_quiet_want; (first | refine quiet_ld Sc ?_ | refine quiet_ld8 Sc ?_ | refine quiet_ld0 ?_ | refine quiet_ldA Sc ?_ | refine quiet_b2sB Sc ?_ | refine quiet_b2sR Sc ?_ | refine quiet_ldc Sc ?_); go_big_quiet_on)) | refine wpQuiet_nil ?_))
        refine wpList_st S ?_; (clear S; intro ws S)
        refine ⟨trivial, ?_⟩; (repeat (first | (first | (go_big_quiet_step (fail)) | (go_big_quiet_want; (first | refine quiet_ld Sc ?_ | refine quiet_ld8 Sc ?_ | refine quiet_ld0 ?_ | refine quiet_ldA Sc ?_ | refine quiet_b2sB Sc ?_ | refine quiet_b2sR Sc ?_ | refine quiet_ldc Sc ?_); go_big_quiet_on)) | refine wpQuiet_nil ?_))
        go_wp2_with (first | go_big_skip | ((with_reducible show Code.wp _ (Code.region _ _ true) _ _ _); refine St.regionLast S ?_; (repeat (first | (go_big_quiet_step (fail)) | (go_big_quiet_want; (first | refine quiet_ld S ?_ | refine quiet_ld8 S ?_ | refine quiet_ld0 ?_ | refine quiet_ldA S ?_ | refine quiet_b2sB S ?_ | refine quiet_b2sR S ?_ | refine quiet_ldc S ?_); go_big_quiet_on))); refine wpQuiet_nil ?_; clear S; intro wq S) | go_big_skip | (refine wpList_ld S ?_) | (refine wpList_ld8 S ?_) | (refine wpList_ld0 ?_) | (refine wpList_ldA S ?_) | (refine wpList_st8 S ?_; (clear S; intro ws S)) | (refine wpList_st S ?_; (clear S; intro ws S)) | (refine wpList_box S ?_; (clear S; intro nb wb hnb S)) | (refine wpList_alloc S ?_; (clear S; intro nb wb hnb S)) | (refine wpList_mk8 S ?_; (clear S; intro nb wb hnb S)) | (refine wpList_mk S ?_; (clear S; intro nb wb hnb S)) | (refine wpList_bs S ?_; (clear S; intro nb wb hnb S)) | (refine wpList_stA S ?_; (clear S; intro ws S; simp only [splice, List.take_zero, List.take_succ_cons, List.drop_succ_cons, List.drop_zero, List.drop_nil, List.length_cons, List.length_nil, Nat.reduceAdd, Nat.zero_add, List.nil_append, List.cons_append, List.append_nil] at S)) | (refine wpList_b2sB S ?_) | (refine wpList_b2sR S ?_) | (refine wpList_ldc S ?_))
        go_meet
        exact ⟨_, _, (S.selT (by repeat (first | (apply SelT.nil; (repeat (first | exact Suf.refl | apply Suf.cons)); done) | (apply SelT.cons; (repeat (first | exact Pull.head | apply Pull.tail))))))⟩
      · refine wpList_bs S ?_; (clear S; intro nb wb hnb S)
        refine ⟨(S.sel (by repeat (first | exact Sel.nil | (apply Sel.cons; (repeat (first | exact Pull.head | apply Pull.tail)))))).inSt _, ?_⟩; (repeat (first | (first | (go_big_quiet_step (fail)) | (go_big_quiet_want; (first | refine quiet_ld Sc ?_ | refine quiet_ld8 Sc ?_ | refine quiet_ld0 ?_ | refine quiet_ldA Sc ?_ | refine quiet_b2sB Sc ?_ | refine quiet_b2sR Sc ?_ | refine quiet_ldc Sc ?_); go_big_quiet_on)) | refine wpQuiet_nil ?_))
        refine wpList_appB S ?_; (clear S; intro va wa hva S; obtain ⟨a3, c3, rfl, hc3, hc4⟩ := S.rowSlice (hp := Pull.head); clear hva)
        refine ⟨(S.sel (by repeat (first | exact Sel.nil | (apply Sel.cons; (repeat (first | exact Pull.head | apply Pull.tail)))))).inSt _, ?_⟩; (repeat (first | (first | (go_big_quiet_step (fail)) | (go_big_quiet_want; (first | refine quiet_ld Sc ?_ | refine quiet_ld8 Sc ?_ | refine quiet_ld0 ?_ | refine quiet_ldA Sc ?_ | refine quiet_b2sB Sc ?_ | refine quiet_b2sR Sc ?_ | refine quiet_ldc Sc ?_); go_big_quiet_on)) | refine wpQuiet_nil ?_))
        refine wpList_appB S ?_; (clear S; intro va wa hva S; obtain ⟨a3, c3, rfl, hc3, hc4⟩ := S.rowSlice (hp := Pull.head); clear hva)
        refine ⟨(S.sel (by repeat (first | exact Sel.nil | (apply Sel.cons; (repeat (first | exact Pull.head | apply Pull.tail)))))).inSt _, ?_⟩; (repeat (first | (first | (go_big_quiet_step (fail)) | (go_big_quiet_want; (first | refine quiet_ld Sc ?_ | refine quiet_ld8 Sc ?_ | refine quiet_ld0 ?_ | refine quiet_ldA Sc ?_ | refine quiet_b2sB Sc ?_ | refine quiet_b2sR Sc ?_ | refine quiet_ldc Sc ?_); go_big_quiet_on)) | refine wpQuiet_nil ?_))
        refine wpList_st S ?_; (clear S; intro ws S)
        show wpQuiet _ _ _ _ _ _; (repeat (first | (first | (go_big_quiet_step (fail)) | (go_big_quiet_want; (first | refine quiet_ld Sc ?_ | refine quiet_ld8 Sc ?_ | refine quiet_ld0 ?_ | refine quiet_ldA Sc ?_ | refine quiet_b2sB Sc ?_ | refine quiet_b2sR Sc ?_ | refine quiet_ldc Sc ?_); go_big_quiet_on)) | refine wpQuiet_nil ?_))
        refine wpList_st S ?_; (clear S; intro ws S)
        refine ⟨trivial, ?_⟩; (repeat (first | (first | (go_big_quiet_step (fail)) | (go_big_quiet_want; (first | refine quiet_ld Sc ?_ | refine quiet_ld8 Sc ?_ | refine quiet_ld0 ?_ | refine quiet_ldA Sc ?_ | refine quiet_b2sB Sc ?_ | refine quiet_b2sR Sc ?_ | refine quiet_ldc Sc ?_); go_big_quiet_on)) | refine wpQuiet_nil ?_))
        refine wpList_st S ?_; (clear S; intro ws S)
        refine ⟨trivial, ?_⟩; (repeat (first | (first | (go_big_quiet_step (fail)) | (go_big_quiet_want; (first | refine quiet_ld Sc ?_ | refine quiet_ld8 Sc ?_ | refine quiet_ld0 ?_ | refine quiet_ldA Sc ?_ | refine quiet_b2sB Sc ?_ | refine quiet_b2sR Sc ?_ | refine quiet_ldc Sc ?_); go_big_quiet_on)) | refine wpQuiet_nil ?_))
        go_wp2_with (first | go_big_skip | ((with_reducible show Code.wp _ (Code.region _ _ true) _ _ _); refine St.regionLast S ?_; (repeat (first | (go_big_quiet_step (fail)) | (go_big_quiet_want; (first | refine quiet_ld S ?_ | refine quiet_ld8 S ?_ | refine quiet_ld0 ?_ | refine quiet_ldA S ?_ | refine quiet_b2sB S ?_ | refine quiet_b2sR S ?_ | refine quiet_ldc S ?_); go_big_quiet_on))); refine wpQuiet_nil ?_; clear S; intro wq S) | go_big_skip | (refine wpList_ld S ?_) | (refine wpList_ld8 S ?_) | (refine wpList_ld0 ?_) | (refine wpList_ldA S ?_) | (refine wpList_st8 S ?_; (clear S; intro ws S)) | (refine wpList_st S ?_; (clear S; intro ws S)) | (refine wpList_box S ?_; (clear S; intro nb wb hnb S)) | (refine wpList_alloc S ?_; (clear S; intro nb wb hnb S)) | (refine wpList_mk8 S ?_; (clear S; intro nb wb hnb S)) | (refine wpList_mk S ?_; (clear S; intro nb wb hnb S)) | (refine wpList_bs S ?_; (clear S; intro nb wb hnb S)) | (refine wpList_stA S ?_; (clear S; intro ws S; simp only [splice, List.take_zero, List.take_succ_cons, List.drop_succ_cons, List.drop_zero, List.drop_nil, List.length_cons, List.length_nil, Nat.reduceAdd, Nat.zero_add, List.nil_append, List.cons_append, List.append_nil] at S)) | (refine wpList_b2sB S ?_) | (refine wpList_b2sR S ?_) | (refine wpList_ldc S ?_))
        go_meet
        exact ⟨_, _, (S.selT (by repeat (first | (apply SelT.nil; (repeat (first | exact Suf.refl | apply Suf.cons)); done) | (apply SelT.cons; (repeat (first | exact Pull.head | apply Pull.tail))))))⟩
    · refine wpList_bs S ?_; (clear S; intro nb wb hnb S)
      refine ⟨(S.sel (by repeat (first | exact Sel.nil | (apply Sel.cons; (repeat (first | exact Pull.head | apply Pull.tail)))))).inSt _, ?_⟩; (repeat (first | (first | (go_big_quiet_step (fail)) | (go_big_quiet_want; (first | refine quiet_ld Sc ?_ | refine quiet_ld8 Sc ?_ | refine quiet_ld0 ?_ | refine quiet_ldA Sc ?_ | refine quiet_b2sB Sc ?_ | refine quiet_b2sR Sc ?_ | refine quiet_ldc Sc ?_); go_big_quiet_on)) | refine wpQuiet_nil ?_))
      refine wpList_bs S ?_; (clear S; intro nb wb hnb S)
      refine ⟨(S.sel (by repeat (first | exact Sel.nil | (apply Sel.cons; (repeat (first | exact Pull.head | apply Pull.tail)))))).inSt _, ?_⟩; (repeat (first | (first | (go_big_quiet_step (fail)) | (go_big_quiet_want; (first | refine quiet_ld Sc ?_ | refine quiet_ld8 Sc ?_ | refine quiet_ld0 ?_ | refine quiet_ldA Sc ?_ | refine quiet_b2sB Sc ?_ | refine quiet_b2sR Sc ?_ | refine quiet_ldc Sc ?_); go_big_quiet_on)) | refine wpQuiet_nil ?_))
      refine wpList_appB S ?_; (clear S; intro va wa hva S; obtain ⟨a3, c3, rfl, hc3, hc4⟩ := S.rowSlice (hp := Pull.head); clear hva)
      refine ⟨(S.sel (by repeat (first | exact Sel.nil | (apply Sel.cons; (repeat (first | exact Pull.head | apply Pull.tail)))))).inSt _, ?_⟩; (repeat (first | (first | (go_big_quiet_step (fail)) | (go_big_quiet_want; (first | refine quiet_ld Sc ?_ | refine quiet_ld8 Sc ?_ | refine quiet_ld0 ?_ | refine quiet_ldA Sc ?_ | refine quiet_b2sB Sc ?_ | refine quiet_b2sR Sc ?_ | refine quiet_ldc Sc ?_); go_big_quiet_on)) | refine wpQuiet_nil ?_))
      refine wpList_appB S ?_; (clear S; intro va wa hva S; obtain ⟨a3, c3, rfl, hc3, hc4⟩ := S.rowSlice (hp := Pull.head); clear hva)
      refine ⟨(S.sel (by repeat (first | exact Sel.nil | (apply Sel.cons; (repeat (first | exact Pull.head | apply Pull.tail)))))).inSt _, ?_⟩; (repeat (first | (first | (go_big_quiet_step (fail)) | (go_big_quiet_want; (first | refine quiet_ld Sc ?_ | refine quiet_ld8 Sc ?_ | refine quiet_ld0 ?_ | refine quiet_ldA Sc ?_ | refine quiet_b2sB Sc ?_ | refine quiet_b2sR Sc ?_ | refine quiet_ldc Sc ?_); go_big_quiet_on)) | refine wpQuiet_nil ?_))
      refine wpList_st S ?_; (clear S; intro ws S)
      show wpQuiet _ _ _ _ _ _; (repeat (first | (first | (go_big_quiet_step (fail)) | (go_big_quiet_want; (first | refine quiet_ld Sc ?_ | refine quiet_ld8 Sc ?_ | refine quiet_ld0 ?_ | refine quiet_ldA Sc ?_ | refine quiet_b2sB Sc ?_ | refine quiet_b2sR Sc ?_ | refine quiet_ldc Sc ?_); go_big_quiet_on)) | refine wpQuiet_nil ?_))
      refine wpList_st S ?_; (clear S; intro ws S)
      refine ⟨trivial, ?_⟩; (repeat (first | (first | (go_big_quiet_step (fail)) | (go_big_quiet_want; (first | refine quiet_ld Sc ?_ | refine quiet_ld8 Sc ?_ | refine quiet_ld0 ?_ | refine quiet_ldA Sc ?_ | refine quiet_b2sB Sc ?_ | refine quiet_b2sR Sc ?_ | refine quiet_ldc Sc ?_); go_big_quiet_on)) | refine wpQuiet_nil ?_))
      refine wpList_st S ?_; (clear S; intro ws S)
      refine ⟨trivial, ?_⟩; (repeat (first | (first | (go_big_quiet_step (fail)) | (go_big_quiet_want; (first | refine quiet_ld Sc ?_ | refine quiet_ld8 Sc ?_ | refine quiet_ld0 ?_ | refine quiet_ldA Sc ?_ | refine quiet_b2sB Sc ?_ | refine quiet_b2sR Sc ?_ | refine quiet_ldc Sc ?_); go_big_quiet_on)) | refine wpQuiet_nil ?_))
      go_wp2_with (first | go_big_skip | ((with_reducible show Code.wp _ (Code.region _ _ true) _ _ _); refine St.regionLast S ?_; (repeat (first | (go_big_quiet_step (fail)) | (go_big_quiet_want; (first | refine quiet_ld S ?_ | refine quiet_ld8 S ?_ | refine quiet_ld0 ?_ | refine quiet_ldA S ?_ | refine quiet_b2sB S ?_ | refine quiet_b2sR S ?_ | refine quiet_ldc S ?_); go_big_quiet_on))); refine wpQuiet_nil ?_; clear S; intro wq S) | go_big_skip | (refine wpList_ld S ?_) | (refine wpList_ld8 S ?_) | (refine wpList_ld0 ?_) | (refine wpList_ldA S ?_) | (refine wpList_st8 S ?_; (clear S; intro ws S)) | (refine wpList_st S ?_; (clear S; intro ws S)) | (refine wpList_box S ?_; (clear S; intro nb wb hnb S)) | (refine wpList_alloc S ?_; (clear S; intro nb wb hnb S)) | (refine wpList_mk8 S ?_; (clear S; intro nb wb hnb S)) | (refine wpList_mk S ?_; (clear S; intro nb wb hnb S)) | (refine wpList_bs S ?_; (clear S; intro nb wb hnb S)) | (refine wpList_stA S ?_; (clear S; intro ws S; simp only [splice, List.take_zero, List.take_succ_cons, List.drop_succ_cons, List.drop_zero, List.drop_nil, List.length_cons, List.length_nil, Nat.reduceAdd, Nat.zero_add, List.nil_append, List.cons_append, List.append_nil] at S)) | (refine wpList_b2sB S ?_) | (refine wpList_b2sR S ?_) | (refine wpList_ldc S ?_))
      go_meet
      exact ⟨_, _, (S.selT (by repeat (first | (apply SelT.nil; (repeat (first | exact Suf.refl | apply Suf.cons)); done) | (apply SelT.cons; (repeat (first | exact Pull.head | apply Pull.tail))))))⟩
  case rest =>
    obtain ⟨vb', vk', S⟩ := hcut
    go_wp2_with (first | go_big_skip | ((with_reducible show Code.wp _ (Code.region _ _ true) _ _ _); refine St.regionLast S ?_; (repeat (first | (go_big_quiet_step (fail)) | (go_big_quiet_want; (first | refine quiet_ld S ?_ | refine quiet_ld8 S ?_ | refine quiet_ld0 ?_ | refine quiet_ldA S ?_ | refine quiet_b2sB S ?_ | refine quiet_b2sR S ?_ | refine quiet_ldc S ?_); go_big_quiet_on))); refine wpQuiet_nil ?_; clear S; intro wq S) | go_big_skip | (refine wpList_ld S ?_) | (refine wpList_ld8 S ?_) | (refine wpList_ld0 ?_) | (refine wpList_ldA S ?_) | (refine wpList_st8 S ?_; (clear S; intro ws S)) | (refine wpList_st S ?_; (clear S; intro ws S)) | (refine wpList_box S ?_; (clear S; intro nb wb hnb S)) | (refine wpList_alloc S ?_; (clear S; intro nb wb hnb S)) | (refine wpList_mk8 S ?_; (clear S; intro nb wb hnb S)) | (refine wpList_mk S ?_; (clear S; intro nb wb hnb S)) | (refine wpList_bs S ?_; (clear S; intro nb wb hnb S)) | (refine wpList_stA S ?_; (clear S; intro ws S; simp only [splice, List.take_zero, List.take_succ_cons, List.drop_succ_cons, List.drop_zero, List.drop_nil, List.length_cons, List.length_nil, Nat.reduceAdd, Nat.zero_add, List.nil_append, List.cons_append, List.append_nil] at S)) | (refine wpList_b2sB S ?_) | (refine wpList_b2sR S ?_) | (refine wpList_ldc S ?_))
    all_goals go_end0
    all_goals refine hR.out _ _ ?_
    all_goals exact ⟨rfl, TapeSt.of S rfl (by show _ = ((max t.b (t.e + 1 - t.size) : Nat) : Int); omega) (by show _ = ((t.e + 1 : Nat) : Int); omega) rfl (by show _ = (t.bytes ++ [c]).length; rw [List.length_append]; rfl) (by show _ = u8s (t.bytes ++ [c]); rw [u8s_append]; rfl) (by show _ = (t.known ++ [kn]).length; rw [List.length_append]; rfl) (by show _ = bls (t.known ++ [kn]); rw [bls_append]; rfl)⟩
end Go.Proofs.YtbklhnpnkinadaaDoor
