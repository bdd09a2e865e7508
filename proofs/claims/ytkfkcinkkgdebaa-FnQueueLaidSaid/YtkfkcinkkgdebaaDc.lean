/- A queue that is laid out. -/
import Derived.Test.YtkfkcinkkgdebaaDd
namespace Go.Proofs.Ytkfkcinkkgdebaa
open Go Go.RowKit Go.Vil
set_option linter.unusedSimpArgs false
set_option linter.unusedVariables false
set_option maxRecDepth 100000

def es (l : List (List UInt8)) : List Blk := l.map entry
theorem es_ok {l : List (List UInt8)} (h : ∀ d ∈ l, d.length ≤ 200) : ∀ b ∈ es l, b.ok := by
  intro b hb
  obtain ⟨d, hd, rfl⟩ := List.mem_map.1 hb
  exact entry_ok (by have := h d hd; omega)
theorem sz_es {l : List (List UInt8)} (h : ∀ d ∈ l, d.length ≤ 200) : sz (es l) ≤ 205 * l.length := by
  induction l with
  | nil => simp [es]
  | cons d l ih =>
    have h1 := ih fun x hx => h x (List.mem_cons_of_mem _ hx)
    have h2 := h d List.mem_cons_self
    have h3 := hsz_le d.length
    have e : sz (es (d :: l)) = needs d.length + sz (es l) := by simp [es, entry]
    rw [e, List.length_cons]
    unfold needs; omega
theorem es_snoc {l : List (List UInt8)} {k : Nat} {d : List UInt8} (h : l[k]? = some d) : es (l.take (k + 1)) = es (l.take k) ++ [entry d] := by
  unfold es; rw [List.take_add_one, h]; simp
theorem places_one (i : Nat) (d : List UInt8) : places i [entry d] = [(i, d)] := by simp [places, entry]
theorem cat_one (d : List UInt8) : cat [entry d] = (entry d).bytes := by simp
theorem each_le {l : List (List UInt8)} (h : ∀ d ∈ l, d.length ≤ 200) (k : Nat) : ∀ d ∈ l.take k, d.length ≤ 200 := fun d hd => h d (List.mem_of_mem_take hd)

theorem lies_mid (A B C : List UInt8) : Lies (A ++ B ++ C) A.length B := by
  refine ⟨by simp, ?_⟩
  rw [List.append_assoc, List.drop_left, List.take_left]
/-- The queue that is laid out. -/
def laidQ (older younger : List (List UInt8)) (gap spare : Nat) : Qu := ⟨1 + sz (es younger) + gap + sz (es older) + spare, 0, 1 + sz (es younger) + gap, es older, es younger⟩
def laidA (older younger : List (List UInt8)) (gap spare : Nat) : List UInt8 := ((0 :: cat (es younger)) ++ List.replicate gap 0) ++ cat (es older) ++ List.replicate spare 0
theorem laid_rep {older younger : List (List UInt8)} (hoe : ∀ d ∈ older, d.length ≤ 200) (hye : ∀ d ∈ younger, d.length ≤ 200) (gap spare : Nat) (hne : older ≠ []) : (laidQ older younger gap spare).Rep (laidA older younger gap spare) := by
  have h1 := cat_length (es_ok hoe)
  have h2 := cat_length (es_ok hye)
  refine ⟨?_, es_ok hoe, es_ok hye, ?_, fun h => ?_, fun _ => ?_, fun _ => ⟨?_, ?_⟩⟩
  · unfold laidA laidQ
    simp only [List.length_append, List.length_cons, List.length_replicate, h1, h2]
    omega
  · show 1 ≤ 1 + sz (es younger) + gap; omega
  · exfalso
    have : older.map entry = [] := h
    exact hne (List.map_eq_nil_iff.1 this)
  · show Lies (laidA older younger gap spare) (1 + sz (es younger) + gap) (cat (es older))
    have := lies_mid ((0 :: cat (es younger)) ++ List.replicate gap 0) (cat (es older)) (List.replicate spare 0)
    have e : ((0 :: cat (es younger)) ++ List.replicate gap 0).length = 1 + sz (es younger) + gap := by
      rw [List.length_append, List.length_cons, List.length_replicate, h2]; omega
    rw [e] at this
    exact this
  · show Lies (laidA older younger gap spare) 1 (cat (es younger))
    have := lies_mid [0] (cat (es younger)) (List.replicate gap 0 ++ cat (es older) ++ List.replicate spare 0)
    unfold laidA
    simpa using this
  · show 1 + sz (es younger) ≤ 1 + sz (es younger) + gap; omega
theorem _root_.Go.Vil.St.rowSrcN {w0 : World} {bs : List Nat} {w : World} {L F : List Res} (S : St w0 bs w L) {e : TypeId} {size : Nat} {v : Value} {n : Nat} {xs : List Value} (hp : Pull (.row e size v n xs) L F) (h1 : ∀ u ∈ xs, u.oneCell' = true) : Src w size v n xs := Src.row (S.mem.2 _ hp.mem) h1

set_option maxHeartbeats 6400000 in
theorem laid (older younger : List (List UInt8)) (oo oy : Option Addr) (co cy gap spare : Nat) (w : World) (ho : Arr BytesV 1 w (.slice oo older.length co) older) (hy : Arr BytesV 1 w (.slice oy younger.length cy) younger) (hol : older.length ≤ 12) (hyl : younger.length ≤ 12)
    (hoe : ∀ d ∈ older, d.length ≤ 200) (hye : ∀ d ∈ younger, d.length ≤ 200) (hgp : gap ≤ 100) (hsp : spare ≤ 100) (hne : older ≠ []) :
    Calls Try.prog 23 #[.slice oo older.length co, .slice oy younger.length cy, .int .i64 gap, .int .i64 spare] w fun e w' => ∃ (av ev : Value) (css3 : List (List Value)),
      e = .returned (.tuple #[.agg #[av, .bool (laidQ older younger gap spare).full, .int .i64 (laidQ older younger gap spare).cap, .int .i64 0, .int .i64 (laidQ older younger gap spare).head, .int .i64 (laidQ older younger gap spare).tail, .int .i64 (laidQ older younger gap spare).count, .int .i64 (laidQ older younger gap spare).right], ev]) ∧
      Ents w (laidQ older younger gap spare).items css3 ∧ St w [] w' [.row 5 1 av (laidA older younger gap spare).length (u8s (laidA older younger gap spare)), .row 41 2 ev (laidQ older younger gap spare).items.length css3.flatten] := by
  have S := St.begin w
  replace ho := hidden ho
  replace hy := hidden hy
  replace hye := hidden hye
  replace hoe := hidden hoe
  refine Calls.cps ?_; intro R hR
  go_enter Try.func23, Try.ntmps23
  go_wp2_with (first | go_big_skip | ((with_reducible show Code.wp _ (Code.region _ _ true) _ _ _); refine St.regionLast S ?_; (repeat (first | (go_big_quiet_step (fail)) | (go_big_quiet_want; (first | refine quiet_ld S ?_ | refine quiet_ld8 S ?_ | refine quiet_ld0 ?_ | refine quiet_ldA S ?_ | refine quiet_b2sB S ?_ | refine quiet_b2sR S ?_ | refine quiet_ldc S ?_); go_big_quiet_on))); refine wpQuiet_nil ?_; clear S; intro wq S) | go_big_skip | (refine wpList_ld S ?_) | (refine wpList_ld8 S ?_) | (refine wpList_ld0 ?_) | (refine wpList_ldA S ?_) | (refine wpList_st8 S ?_; (clear S; intro ws S)) | (refine wpList_st S ?_; (clear S; intro ws S)) | (refine wpList_box S ?_; (clear S; intro nb wb hnb S)) | (refine wpList_alloc S ?_; (clear S; intro nb wb hnb S)) | (refine wpList_mk8 S ?_; (clear S; intro nb wb hnb S)) | (refine wpList_mk S ?_; (clear S; intro nb wb hnb S)) | (refine wpList_bs S ?_; (clear S; intro nb wb hnb S)) | (refine wpList_stA S ?_; (clear S; intro ws S; simp only [splice, List.take_zero, List.take_succ_cons, List.drop_succ_cons, List.drop_zero, List.drop_nil, List.length_cons, List.length_nil, Nat.reduceAdd, Nat.zero_add, List.nil_append, List.cons_append, List.append_nil] at S)) | (refine wpList_b2sB S ?_) | (refine wpList_b2sR S ?_) | (refine wpList_ldc S ?_))
  rename Nat => ta
  rename_i br x1 x2 x3 x4 x5 x6
  have S := S.nilRow 41 2
  have S := S.toRow8 (l := [0]) (n := 1) (b := nb) (.tail (.tail .head)) rfl (by simp [maxLen])
  go_loopg [11, 15, 23] younger.length (fun g yv x15 i wr => ∃ (k q : Nat) (av : Value) (css : List (List Value)), Hid (k + g = younger.length) ∧ i = .int .i64 k ∧ k ≤ younger.length ∧ Hid (q = 1 + sz (es (younger.take k))) ∧ q ≤ 2500 ∧
    Hid (Ents w (places 1 (es (younger.take k))) css) ∧
    St w [] wr [.row 41 2 yv k css.flatten, .blk ta (.cells [av].toArray 26 (0, 0)), .row 5 1 av q (u8s (0 :: cat (es (younger.take k)))), .blk br (.cells [.slice none 0 0, .bool false, .int .i64 0, .int .i64 0, .int .i64 0, .int .i64 0, .int .i64 0, .int .i64 0].toArray 51 (0, 0))])
  case atStart => exact ⟨0, 1, _, [], hidden (by omega), rfl, Nat.zero_le _, hidden (by simp [es]), by omega, hidden trivial, S.sel (by repeat (first | exact Sel.nil | (apply Sel.cons; (repeat (first | exact Pull.head | apply Pull.tail)))))⟩
  case round =>
    clear S
    obtain ⟨k, q, av, css, hg, rfl, hkn, hq, hq2, hE, S⟩ := hrel
    by_cases hlt : k < younger.length
    · obtain ⟨ad, rfl⟩ := hy.out.some (by decide) (by omega)
      have hop : younger[k]? = some younger[k] := List.getElem?_eq_getElem hlt
      have hd2 := hye.out younger[k] (List.getElem_mem hlt)
      have hsn := hidden (es_snoc hop)
      obtain ⟨cs, ⟨oa', c', rfl, hs', hc'⟩, hl3, hcell⟩ := hy.out.get k _ hop
      generalize younger[k] = d at *
      have g0 := hcell 0 _ rfl
      rw [Addr.add_zero', Nat.mul_one] at g0
      clear hop hl3 hcell
      replace hs' := hidden hs'
      go_wp2_with (first | go_big_skip | (refine wpList_ldc S ?_) | go_big_skip | (refine wpList_ld S ?_) | (refine wpList_ld8 S ?_) | (refine wpList_ld0 ?_) | (refine wpList_ldA S ?_) | (refine wpList_st8 S ?_; (clear S; intro ws S)) | (refine wpList_st S ?_; (clear S; intro ws S)) | (refine wpList_box S ?_; (clear S; intro nb wb hnb S)) | (refine wpList_alloc S ?_; (clear S; intro nb wb hnb S)) | (refine wpList_mk8 S ?_; (clear S; intro nb wb hnb S)) | (refine wpList_mk S ?_; (clear S; intro nb wb hnb S)) | (refine wpList_bs S ?_; (clear S; intro nb wb hnb S)) | (refine wpList_stA S ?_; (clear S; intro ws S; simp only [splice, List.take_zero, List.take_succ_cons, List.drop_succ_cons, List.drop_zero, List.drop_nil, List.length_cons, List.length_nil, Nat.reduceAdd, Nat.zero_add, List.nil_append, List.cons_append, List.append_nil] at S)) | (refine wpList_b2sB S ?_) | (refine wpList_b2sR S ?_) | (refine wpList_ldc S ?_))
      have hXl : q = (0 :: cat (es (younger.take k))).length := by
        rw [hq.out, List.length_cons, cat_length (es_ok (each_le hye.out k))]; omega
      have hcat : 0 :: cat (es (younger.take (k + 1))) = (0 :: cat (es (younger.take k))) ++ (entry d).bytes := by
        rw [hsn.out, cat_append, cat_one]; rfl
      have hsz := sz_es (each_le hye.out (k + 1))
      have hsz2 : sz (es (younger.take (k + 1))) = sz (es (younger.take k)) + (entry d).bytes.length := by
        rw [hsn.out, sz_append, (entry_ok (by omega : d.length < 4294967000)).len]; simp
      have htl : (younger.take (k + 1)).length = k + 1 := by simp; omega
      rw [htl] at hsz
      generalize 0 :: cat (es (younger.take k)) = Y at *
      subst hXl
      replace hcat := hidden hcat
      replace hsz := hidden hsz
      replace hsz2 := hidden hsz2
      replace htl := hidden htl
      have S2 := S.sel (rs := .blk ta (.cells [av].toArray 26 (0, 0)) :: .row 5 1 av Y.length (u8s Y) :: .row 41 2 u11 k css.flatten :: .blk br (.cells [.slice none 0 0, .bool false, .int .i64 0, .int .i64 0, .int .i64 0, .int .i64 0, .int .i64 0, .int .i64 0].toArray 51 (0, 0)) :: []) (by repeat (first | exact Sel.nil | (apply Sel.cons; (repeat (first | exact Pull.head | apply Pull.tail)))))
      refine Calls.mono (lay ta Y av oa' c' d _ w wr S2 hs'.out hd2 (by omega)) ?_
      clear S S2
      rintro e w3 ⟨av2, rfl, S⟩
      go_wp2_with (first | go_big_skip | (refine wpList_appB S ?_; (clear S; intro va wa hva S)) | go_big_skip | (refine wpList_ld S ?_) | (refine wpList_ld8 S ?_) | (refine wpList_ld0 ?_) | (refine wpList_ldA S ?_) | (refine wpList_st8 S ?_; (clear S; intro ws S)) | (refine wpList_st S ?_; (clear S; intro ws S)) | (refine wpList_box S ?_; (clear S; intro nb wb hnb S)) | (refine wpList_alloc S ?_; (clear S; intro nb wb hnb S)) | (refine wpList_mk8 S ?_; (clear S; intro nb wb hnb S)) | (refine wpList_mk S ?_; (clear S; intro nb wb hnb S)) | (refine wpList_bs S ?_; (clear S; intro nb wb hnb S)) | (refine wpList_stA S ?_; (clear S; intro ws S; simp only [splice, List.take_zero, List.take_succ_cons, List.drop_succ_cons, List.drop_zero, List.drop_nil, List.length_cons, List.length_nil, Nat.reduceAdd, Nat.zero_add, List.nil_append, List.cons_append, List.append_nil] at S)) | (refine wpList_b2sB S ?_) | (refine wpList_b2sR S ?_) | (refine wpList_ldc S ?_))
      go_roundg (gk - 1)
      case measure => have := hg.out; omega
      case rel =>
        have h1 := hq.out
        have h2 := hsz.out
        have h3 := hsz2.out
        refine ⟨k + 1, (Y ++ (entry d).bytes).length, av2, css ++ [[.int .i64 (Y.length : Nat), .slice oa' d.length c']], hidden (by have := hg.out; omega), by go_num, by omega, hidden (by rw [List.length_append]; omega), by rw [List.length_append]; omega, hidden ?_, ?_⟩
        · rw [hsn.out, places_append, places_one, ← h1]
          exact hE.out.append ⟨⟨⟨oa', c', rfl, hs'.out, hc'⟩, rfl⟩, trivial⟩
        · rw [hcat.out, List.flatten_append]
          exact S.sel (by repeat (first | exact Sel.nil | (apply Sel.cons; (repeat (first | exact Pull.head | apply Pull.tail)))))
    · have hkl : k = younger.length := by omega
      subst hkl
      rw [List.take_length] at hq hE S
      clear hg hkn hlt hy hye
      obtain ⟨ao, ac, rfl, hac, _⟩ := S.rowSlice (hp := .tail (.tail .head))
      have hqs := hidden hq.out
      have hYl : q = (0 :: cat (es younger)).length := by
        have h := (S.mem.2 _ (List.mem_cons_of_mem _ (List.mem_cons_of_mem _ List.mem_cons_self)) : World.ownsRow _ 0 _ _ _ _ _).1
        simp at h ⊢; omega
      generalize hYY : 0 :: cat (es younger) = Y at *
      replace hYY := hidden hYY
      replace hYl := hidden hYl
      generalize hpy : places 1 (es younger) = PY at *
      replace hpy := hidden hpy
      go_wp2_with (first | go_big_skip | (refine wpList_appI S Try.underlying3 Try.underlying9 ?_; (clear S; intro va wa hva S; obtain ⟨va1, va2, rfl, hva1⟩ := hva)) | go_big_skip | (refine wpList_ld S ?_) | (refine wpList_ld8 S ?_) | (refine wpList_ld0 ?_) | (refine wpList_ldA S ?_) | (refine wpList_st8 S ?_; (clear S; intro ws S)) | (refine wpList_st S ?_; (clear S; intro ws S)) | (refine wpList_box S ?_; (clear S; intro nb wb hnb S)) | (refine wpList_alloc S ?_; (clear S; intro nb wb hnb S)) | (refine wpList_mk8 S ?_; (clear S; intro nb wb hnb S)) | (refine wpList_mk S ?_; (clear S; intro nb wb hnb S)) | (refine wpList_bs S ?_; (clear S; intro nb wb hnb S)) | (refine wpList_stA S ?_; (clear S; intro ws S; simp only [splice, List.take_zero, List.take_succ_cons, List.drop_succ_cons, List.drop_zero, List.drop_nil, List.length_cons, List.length_nil, Nat.reduceAdd, Nat.zero_add, List.nil_append, List.cons_append, List.append_nil] at S)) | (refine wpList_b2sB S ?_) | (refine wpList_b2sR S ?_) | (refine wpList_ldc S ?_))
      have S := S.nilRow 41 2
      go_loopg [12, 18, 45] older.length (fun g ov x18 i wr => ∃ (k q2 : Nat) (av : Value) (css2 : List (List Value)), Hid (k + g = older.length) ∧ i = .int .i64 k ∧ k ≤ older.length ∧ Hid (q2 = q + gap + sz (es (older.take k))) ∧ q2 ≤ 5100 ∧
        Hid (Ents w (places (q + gap) (es (older.take k))) css2) ∧
        St w [] wr [.row 41 2 ov k css2.flatten, .blk ta (.cells [av].toArray 26 (0, 0)), .row 5 1 av q2 (u8s ((Y ++ List.replicate gap 0) ++ cat (es (older.take k)))), .blk br (.cells [.slice none 0 0, .bool false, .int .i64 0, .int .i64 0, .int .i64 0, .int .i64 0, .int .i64 0, .int .i64 0].toArray 51 (0, 0)),
          .blk nb (.cells [.slice none 0 0, .bool false, .int .i64 0, .int .i64 0, .int .i64 ((q : Int) + (gap : Int)), .int .i64 q, .int .i64 0, .int .i64 0].toArray 51 (0, 0)), .row 41 2 u11 younger.length css.flatten])
      case atStart =>
        refine ⟨0, q + gap, .slice va1 (q + gap) va2, [], hidden (by omega), rfl, Nat.zero_le _, hidden (by simp [es]), by omega, hidden trivial, ?_⟩
        rw [List.take_zero, show cat (es []) = [] from rfl, List.append_nil, u8s_append]
        exact S.sel (by repeat (first | exact Sel.nil | (apply Sel.cons; (repeat (first | exact Pull.head | apply Pull.tail)))))
      case round =>
        clear S
        obtain ⟨k, q2, av, css2, hg, rfl, hkn, hq2, hq3, hE2, S⟩ := hrel
        by_cases hlt : k < older.length
        · obtain ⟨ad, rfl⟩ := ho.out.some (by decide) (by omega)
          have hop : older[k]? = some older[k] := List.getElem?_eq_getElem hlt
          have hd2 := hoe.out older[k] (List.getElem_mem hlt)
          have hsn := hidden (es_snoc hop)
          obtain ⟨cs, ⟨oa', c', rfl, hs', hc'⟩, hl3, hcell⟩ := ho.out.get k _ hop
          generalize older[k] = d at *
          have g0 := hcell 0 _ rfl
          rw [Addr.add_zero', Nat.mul_one] at g0
          clear hop hl3 hcell
          replace hs' := hidden hs'
          go_wp2_with (first | go_big_skip | (refine wpList_ldc S ?_) | go_big_skip | (refine wpList_ld S ?_) | (refine wpList_ld8 S ?_) | (refine wpList_ld0 ?_) | (refine wpList_ldA S ?_) | (refine wpList_st8 S ?_; (clear S; intro ws S)) | (refine wpList_st S ?_; (clear S; intro ws S)) | (refine wpList_box S ?_; (clear S; intro nb wb hnb S)) | (refine wpList_alloc S ?_; (clear S; intro nb wb hnb S)) | (refine wpList_mk8 S ?_; (clear S; intro nb wb hnb S)) | (refine wpList_mk S ?_; (clear S; intro nb wb hnb S)) | (refine wpList_bs S ?_; (clear S; intro nb wb hnb S)) | (refine wpList_stA S ?_; (clear S; intro ws S; simp only [splice, List.take_zero, List.take_succ_cons, List.drop_succ_cons, List.drop_zero, List.drop_nil, List.length_cons, List.length_nil, Nat.reduceAdd, Nat.zero_add, List.nil_append, List.cons_append, List.append_nil] at S)) | (refine wpList_b2sB S ?_) | (refine wpList_b2sR S ?_) | (refine wpList_ldc S ?_))
          have hXl : q2 = ((Y ++ List.replicate gap 0) ++ cat (es (older.take k))).length := by
            have h1 := hYl.out
            rw [hq2.out, List.length_append, List.length_append, cat_length (es_ok (each_le hoe.out k))]; simp; omega
          have hcat : (Y ++ List.replicate gap 0) ++ cat (es (older.take (k + 1))) = ((Y ++ List.replicate gap 0) ++ cat (es (older.take k))) ++ (entry d).bytes := by
            rw [hsn.out, cat_append, cat_one, ← List.append_assoc]
          have hsz := sz_es (each_le hoe.out (k + 1))
          have hsz2 : sz (es (older.take (k + 1))) = sz (es (older.take k)) + (entry d).bytes.length := by
            rw [hsn.out, sz_append, (entry_ok (by omega : d.length < 4294967000)).len]; simp
          have htl : (older.take (k + 1)).length = k + 1 := by simp; omega
          rw [htl] at hsz
          generalize (Y ++ List.replicate gap 0) ++ cat (es (older.take k)) = Y2 at *
          subst hXl
          replace hcat := hidden hcat
          replace hsz := hidden hsz
          replace hsz2 := hidden hsz2
          replace htl := hidden htl
          have S2 := S.sel (rs := .blk ta (.cells [av].toArray 26 (0, 0)) :: .row 5 1 av Y2.length (u8s Y2) :: .row 41 2 u12 k css2.flatten :: .blk br (.cells [.slice none 0 0, .bool false, .int .i64 0, .int .i64 0, .int .i64 0, .int .i64 0, .int .i64 0, .int .i64 0].toArray 51 (0, 0)) ::
            .blk nb (.cells [.slice none 0 0, .bool false, .int .i64 0, .int .i64 0, .int .i64 ((q : Int) + (gap : Int)), .int .i64 q, .int .i64 0, .int .i64 0].toArray 51 (0, 0)) :: .row 41 2 u11 younger.length css.flatten :: []) (by repeat (first | exact Sel.nil | (apply Sel.cons; (repeat (first | exact Pull.head | apply Pull.tail)))))
          refine Calls.mono (lay ta Y2 av oa' c' d _ w wr S2 hs'.out hd2 (by omega)) ?_
          clear S S2
          rintro e w3 ⟨av2, rfl, S⟩
          go_wp2_with (first | go_big_skip | (refine wpList_appB S ?_; (clear S; intro va wa hva S)) | go_big_skip | (refine wpList_ld S ?_) | (refine wpList_ld8 S ?_) | (refine wpList_ld0 ?_) | (refine wpList_ldA S ?_) | (refine wpList_st8 S ?_; (clear S; intro ws S)) | (refine wpList_st S ?_; (clear S; intro ws S)) | (refine wpList_box S ?_; (clear S; intro nb wb hnb S)) | (refine wpList_alloc S ?_; (clear S; intro nb wb hnb S)) | (refine wpList_mk8 S ?_; (clear S; intro nb wb hnb S)) | (refine wpList_mk S ?_; (clear S; intro nb wb hnb S)) | (refine wpList_bs S ?_; (clear S; intro nb wb hnb S)) | (refine wpList_stA S ?_; (clear S; intro ws S; simp only [splice, List.take_zero, List.take_succ_cons, List.drop_succ_cons, List.drop_zero, List.drop_nil, List.length_cons, List.length_nil, Nat.reduceAdd, Nat.zero_add, List.nil_append, List.cons_append, List.append_nil] at S)) | (refine wpList_b2sB S ?_) | (refine wpList_b2sR S ?_) | (refine wpList_ldc S ?_))
          go_roundg (gk - 1)
          case measure => have := hg.out; omega
          case rel =>
            have h1 := hq2.out
            have h2 := hsz.out
            have h3 := hsz2.out
            refine ⟨k + 1, (Y2 ++ (entry d).bytes).length, av2, css2 ++ [[.int .i64 (Y2.length : Nat), .slice oa' d.length c']], hidden (by have := hg.out; omega), by go_num, by omega, hidden (by rw [List.length_append]; omega), by rw [List.length_append]; omega, hidden ?_, ?_⟩
            · rw [hsn.out, places_append, places_one, ← h1]
              exact hE2.out.append ⟨⟨⟨oa', c', rfl, hs'.out, hc'⟩, rfl⟩, trivial⟩
            · rw [hcat.out, List.flatten_append]
              exact S.sel (by repeat (first | exact Sel.nil | (apply Sel.cons; (repeat (first | exact Pull.head | apply Pull.tail)))))
        · have hk2 : k = older.length := by omega
          subst hk2
          rw [List.take_length] at hq2 hE2 S
          clear hg hkn hlt ho
          obtain ⟨ao2, ac2, rfl, hac2, _⟩ := S.rowSlice (hp := .tail (.tail .head))
          have hy1 := hidden hE.out.one
          have hfinal := hidden (show ∀ (av ev : Value) (full : Bool) (tl : Nat) (w' : World), full = (laidQ older younger gap spare).full → tl = (laidQ older younger gap spare).tail →
              St w [] w' [.row 5 1 av (q2 + spare) (u8s ((Y ++ List.replicate gap 0) ++ cat (es older)) ++ u8s (List.replicate spare 0)), .row 41 2 ev (older.length + younger.length) (css2.flatten ++ css.flatten)] →
              R (.returned (.tuple #[.agg #[av, .bool full, .int .i64 ((q2 : Int) + (spare : Int)), .int .i64 0, .int .i64 ((q : Int) + (gap : Int)), .int .i64 tl, .int .i64 ((older.length : Int) + (younger.length : Int)), .int .i64 q2], ev])) w' from fun av ev full tl w' h1 h2 S => by
            have e1 := hqs.out
            have e2 := hq2.out
            have hi : (laidQ older younger gap spare).items = places (q + gap) (es older) ++ PY := by rw [← hpy.out, e1]; rfl
            have hA : laidA older younger gap spare = (Y ++ List.replicate gap 0) ++ cat (es older) ++ List.replicate spare 0 := by unfold laidA; rw [hYY.out]
            have c1 : ((laidQ older younger gap spare).cap : Int) = (q2 : Int) + (spare : Int) := by show ((1 + sz (es younger) + gap + sz (es older) + spare : Nat) : Int) = _; omega
            have c2 : ((laidQ older younger gap spare).head : Int) = (q : Int) + (gap : Int) := by show ((1 + sz (es younger) + gap : Nat) : Int) = _; omega
            have c3 : ((laidQ older younger gap spare).count : Int) = (older.length : Int) + (younger.length : Int) := by show (((es older).length + (es younger).length : Nat) : Int) = _; simp [es]
            have c4 : ((laidQ older younger gap spare).right : Int) = q2 := by show ((1 + sz (es younger) + gap + sz (es older) : Nat) : Int) = _; omega
            have hl : (laidQ older younger gap spare).items.length = older.length + younger.length := by rw [hi, ← hpy.out]; simp [es]
            refine hR.out _ _ ⟨av, ev, css2 ++ css, ?_, ?_, ?_⟩
            · rw [c1, c2, c3, c4, h1, h2]
            · rw [hi]; exact hE2.out.append hE.out
            · rw [hl, hA, List.flatten_append]
              have hlen : ((Y ++ List.replicate gap 0) ++ cat (es older) ++ List.replicate spare 0).length = q2 + spare := by
                have := (S.mem.2 _ List.mem_cons_self : World.ownsRow _ 0 _ _ _ _ _).1
                simp at this ⊢
                omega
              rw [hlen, u8s_append (_ ++ cat (es older))]
              exact S)
          by_cases hy0 : younger.length = 0
          · have hn : es younger = [] := by rw [List.eq_nil_of_length_eq_zero hy0]; rfl
            have hf1 := hidden (show false = (laidQ older younger gap spare).full from (Qu.full_plain hn).symm)
            have ht1 := hidden (show q2 = (laidQ older younger gap spare).tail by rw [Qu.tail_plain hn, hq2.out, hqs.out]; rfl)
            have hbb : ((younger.length : Int) == 0) = true := by rw [hy0]; rfl
            have hbc : decide (0 < younger.length) = false := by rw [hy0]; rfl
            replace hy0 := hidden hy0
            replace hn := hidden hn
            go_upto_region 23 with (first | go_big_skip | (refine wpList_appI S Try.underlying3 Try.underlying9 ?_; (clear S; intro va wa hva S; obtain ⟨va1, va2, rfl, hva1⟩ := hva)) | go_big_skip | (refine wpList_ld S ?_) | (refine wpList_ld8 S ?_) | (refine wpList_ld0 ?_) | (refine wpList_ldA S ?_) | (refine wpList_st8 S ?_; (clear S; intro ws S)) | (refine wpList_st S ?_; (clear S; intro ws S)) | (refine wpList_box S ?_; (clear S; intro nb wb hnb S)) | (refine wpList_alloc S ?_; (clear S; intro nb wb hnb S)) | (refine wpList_mk8 S ?_; (clear S; intro nb wb hnb S)) | (refine wpList_mk S ?_; (clear S; intro nb wb hnb S)) | (refine wpList_bs S ?_; (clear S; intro nb wb hnb S)) | (refine wpList_stA S ?_; (clear S; intro ws S; simp only [splice, List.take_zero, List.take_succ_cons, List.drop_succ_cons, List.drop_zero, List.drop_nil, List.length_cons, List.length_nil, Nat.reduceAdd, Nat.zero_add, List.nil_append, List.cons_append, List.append_nil] at S)) | (refine wpList_b2sB S ?_) | (refine wpList_b2sR S ?_) | (refine wpList_ldc S ?_))
            have hsr := S.rowSrcN (v := u11) (size := 2) (n := younger.length) (xs := css.flatten) (by repeat (first | exact Pull.head | apply Pull.tail)) hy1.out
            refine St.regionC S [.blk nb _] 4 [([0, 1, 2], 3)] [] ?_
            clear hsr
            clear S; intro wr Cr S Sc; simp only [walkC, pick, List.getElem?_cons_succ, List.getElem?_cons_zero, List.drop_succ_cons, List.drop_zero]; (repeat (first | (go_big_quiet_step (fail)) | (go_big_quiet_want; (first | refine quiet_ld Sc ?_ | refine quiet_ld8 Sc ?_ | refine quiet_ld0 ?_ | refine quiet_ldA Sc ?_ | refine quiet_b2sB Sc ?_ | refine quiet_b2sR Sc ?_ | refine quiet_ldc Sc ?_); go_big_quiet_on))); refine wpQuiet_nil ?_
            refine wpList_app S (S.rowSrcN (v := u11) (size := 2) (n := younger.length) (xs := css.flatten) (by repeat (first | exact Pull.head | apply Pull.tail)) hy1.out) ?_
            clear S; intro va wa hva S
            refine ⟨(S.sel (by repeat (first | exact Sel.nil | (apply Sel.cons; (repeat (first | exact Pull.head | apply Pull.tail)))))).inSt _, ?_⟩; (repeat (first | (go_big_quiet_step (fail)) | (go_big_quiet_want; (first | refine quiet_ld Sc ?_ | refine quiet_ld8 Sc ?_ | refine quiet_ld0 ?_ | refine quiet_ldA Sc ?_ | refine quiet_b2sB Sc ?_ | refine quiet_b2sR Sc ?_ | refine quiet_ldc Sc ?_); go_big_quiet_on))); refine wpQuiet_nil ?_
            go_wp2_with (first | go_big_skip | go_big_skip | (refine wpList_ld S ?_) | (refine wpList_ld8 S ?_) | (refine wpList_ld0 ?_) | (refine wpList_ldA S ?_) | (refine wpList_st8 S ?_; (clear S; intro ws S)) | (refine wpList_st S ?_; (clear S; intro ws S)) | (refine wpList_box S ?_; (clear S; intro nb wb hnb S)) | (refine wpList_alloc S ?_; (clear S; intro nb wb hnb S)) | (refine wpList_mk8 S ?_; (clear S; intro nb wb hnb S)) | (refine wpList_mk S ?_; (clear S; intro nb wb hnb S)) | (refine wpList_bs S ?_; (clear S; intro nb wb hnb S)) | (refine wpList_stA S ?_; (clear S; intro ws S; simp only [splice, List.take_zero, List.take_succ_cons, List.drop_succ_cons, List.drop_zero, List.drop_nil, List.length_cons, List.length_nil, Nat.reduceAdd, Nat.zero_add, List.nil_append, List.cons_append, List.append_nil] at S)) | (refine wpList_b2sB S ?_) | (refine wpList_b2sR S ?_) | (refine wpList_ldc S ?_))
            refine ret_of (results_ct S) ?_
            exact hfinal.out (.slice va1 (q2 + spare) va2) va false q2 _ hf1.out ht1.out (S.sel (by repeat (first | exact Sel.nil | (apply Sel.cons; (repeat (first | exact Pull.head | apply Pull.tail))))))
          · have hn : es younger ≠ [] := fun h => hy0 (by have := congrArg List.length h; simpa [es] using this)
            have ht1 := hidden (show q = (laidQ older younger gap spare).tail by rw [Qu.tail_wrapped hn, hqs.out]; rfl)
            have hbb : ((younger.length : Int) == 0) = false := by (simp only [beq_eq_false_iff_ne, ne_eq]; omega)
            have hbc : decide (0 < younger.length) = true := by simp; omega
            replace hy0 := hidden hy0
            by_cases hg0 : gap = 0
            · have hf1 := hidden (show true = (laidQ older younger gap spare).full by
                rw [Qu.full_wrapped hn, ← ht1.out, hqs.out, hg0]; simp [laidQ])
              replace hn := hidden hn
              have hbd : ((gap : Int) == 0) = true := by rw [hg0]; rfl
              replace hg0 := hidden hg0
              go_upto_region 23 with (first | go_big_skip | (refine wpList_appI S Try.underlying3 Try.underlying9 ?_; (clear S; intro va wa hva S; obtain ⟨va1, va2, rfl, hva1⟩ := hva)) | go_big_skip | (refine wpList_ld S ?_) | (refine wpList_ld8 S ?_) | (refine wpList_ld0 ?_) | (refine wpList_ldA S ?_) | (refine wpList_st8 S ?_; (clear S; intro ws S)) | (refine wpList_st S ?_; (clear S; intro ws S)) | (refine wpList_box S ?_; (clear S; intro nb wb hnb S)) | (refine wpList_alloc S ?_; (clear S; intro nb wb hnb S)) | (refine wpList_mk8 S ?_; (clear S; intro nb wb hnb S)) | (refine wpList_mk S ?_; (clear S; intro nb wb hnb S)) | (refine wpList_bs S ?_; (clear S; intro nb wb hnb S)) | (refine wpList_stA S ?_; (clear S; intro ws S; simp only [splice, List.take_zero, List.take_succ_cons, List.drop_succ_cons, List.drop_zero, List.drop_nil, List.length_cons, List.length_nil, Nat.reduceAdd, Nat.zero_add, List.nil_append, List.cons_append, List.append_nil] at S)) | (refine wpList_b2sB S ?_) | (refine wpList_b2sR S ?_) | (refine wpList_ldc S ?_))
              have hsr := S.rowSrcN (v := u11) (size := 2) (n := younger.length) (xs := css.flatten) (by repeat (first | exact Pull.head | apply Pull.tail)) hy1.out
              refine St.regionC S [.blk nb _] 4 [([0, 1, 2], 3)] [] ?_
              clear hsr
              clear S; intro wr Cr S Sc; simp only [walkC, pick, List.getElem?_cons_succ, List.getElem?_cons_zero, List.drop_succ_cons, List.drop_zero]; (repeat (first | (go_big_quiet_step (fail)) | (go_big_quiet_want; (first | refine quiet_ld Sc ?_ | refine quiet_ld8 Sc ?_ | refine quiet_ld0 ?_ | refine quiet_ldA Sc ?_ | refine quiet_b2sB Sc ?_ | refine quiet_b2sR Sc ?_ | refine quiet_ldc Sc ?_); go_big_quiet_on))); refine wpQuiet_nil ?_
              refine wpList_app S (S.rowSrcN (v := u11) (size := 2) (n := younger.length) (xs := css.flatten) (by repeat (first | exact Pull.head | apply Pull.tail)) hy1.out) ?_
              clear S; intro va wa hva S
              refine ⟨(S.sel (by repeat (first | exact Sel.nil | (apply Sel.cons; (repeat (first | exact Pull.head | apply Pull.tail)))))).inSt _, ?_⟩; (repeat (first | (go_big_quiet_step (fail)) | (go_big_quiet_want; (first | refine quiet_ld Sc ?_ | refine quiet_ld8 Sc ?_ | refine quiet_ld0 ?_ | refine quiet_ldA Sc ?_ | refine quiet_b2sB Sc ?_ | refine quiet_b2sR Sc ?_ | refine quiet_ldc Sc ?_); go_big_quiet_on))); refine wpQuiet_nil ?_
              go_wp2_with (first | go_big_skip | go_big_skip | (refine wpList_ld S ?_) | (refine wpList_ld8 S ?_) | (refine wpList_ld0 ?_) | (refine wpList_ldA S ?_) | (refine wpList_st8 S ?_; (clear S; intro ws S)) | (refine wpList_st S ?_; (clear S; intro ws S)) | (refine wpList_box S ?_; (clear S; intro nb wb hnb S)) | (refine wpList_alloc S ?_; (clear S; intro nb wb hnb S)) | (refine wpList_mk8 S ?_; (clear S; intro nb wb hnb S)) | (refine wpList_mk S ?_; (clear S; intro nb wb hnb S)) | (refine wpList_bs S ?_; (clear S; intro nb wb hnb S)) | (refine wpList_stA S ?_; (clear S; intro ws S; simp only [splice, List.take_zero, List.take_succ_cons, List.drop_succ_cons, List.drop_zero, List.drop_nil, List.length_cons, List.length_nil, Nat.reduceAdd, Nat.zero_add, List.nil_append, List.cons_append, List.append_nil] at S)) | (refine wpList_b2sB S ?_) | (refine wpList_b2sR S ?_) | (refine wpList_ldc S ?_))
              refine ret_of (results_ct S) ?_
              exact hfinal.out (.slice va1 (q2 + spare) va2) va true q _ hf1.out ht1.out (S.sel (by repeat (first | exact Sel.nil | (apply Sel.cons; (repeat (first | exact Pull.head | apply Pull.tail))))))
            · have hf1 := hidden (show false = (laidQ older younger gap spare).full by
                rw [Qu.full_wrapped hn, ← ht1.out, hqs.out]; simp [laidQ]; omega)
              replace hn := hidden hn
              have hbd : ((gap : Int) == 0) = false := by (simp only [beq_eq_false_iff_ne, ne_eq]; omega)
              replace hg0 := hidden hg0
              go_upto_region 23 with (first | go_big_skip | (refine wpList_appI S Try.underlying3 Try.underlying9 ?_; (clear S; intro va wa hva S; obtain ⟨va1, va2, rfl, hva1⟩ := hva)) | go_big_skip | (refine wpList_ld S ?_) | (refine wpList_ld8 S ?_) | (refine wpList_ld0 ?_) | (refine wpList_ldA S ?_) | (refine wpList_st8 S ?_; (clear S; intro ws S)) | (refine wpList_st S ?_; (clear S; intro ws S)) | (refine wpList_box S ?_; (clear S; intro nb wb hnb S)) | (refine wpList_alloc S ?_; (clear S; intro nb wb hnb S)) | (refine wpList_mk8 S ?_; (clear S; intro nb wb hnb S)) | (refine wpList_mk S ?_; (clear S; intro nb wb hnb S)) | (refine wpList_bs S ?_; (clear S; intro nb wb hnb S)) | (refine wpList_stA S ?_; (clear S; intro ws S; simp only [splice, List.take_zero, List.take_succ_cons, List.drop_succ_cons, List.drop_zero, List.drop_nil, List.length_cons, List.length_nil, Nat.reduceAdd, Nat.zero_add, List.nil_append, List.cons_append, List.append_nil] at S)) | (refine wpList_b2sB S ?_) | (refine wpList_b2sR S ?_) | (refine wpList_ldc S ?_))
              have hsr := S.rowSrcN (v := u11) (size := 2) (n := younger.length) (xs := css.flatten) (by repeat (first | exact Pull.head | apply Pull.tail)) hy1.out
              refine St.regionC S [.blk nb _] 4 [([0, 1, 2], 3)] [] ?_
              clear hsr
              clear S; intro wr Cr S Sc; simp only [walkC, pick, List.getElem?_cons_succ, List.getElem?_cons_zero, List.drop_succ_cons, List.drop_zero]; (repeat (first | (go_big_quiet_step (fail)) | (go_big_quiet_want; (first | refine quiet_ld Sc ?_ | refine quiet_ld8 Sc ?_ | refine quiet_ld0 ?_ | refine quiet_ldA Sc ?_ | refine quiet_b2sB Sc ?_ | refine quiet_b2sR Sc ?_ | refine quiet_ldc Sc ?_); go_big_quiet_on))); refine wpQuiet_nil ?_
              refine wpList_app S (S.rowSrcN (v := u11) (size := 2) (n := younger.length) (xs := css.flatten) (by repeat (first | exact Pull.head | apply Pull.tail)) hy1.out) ?_
              clear S; intro va wa hva S
              refine ⟨(S.sel (by repeat (first | exact Sel.nil | (apply Sel.cons; (repeat (first | exact Pull.head | apply Pull.tail)))))).inSt _, ?_⟩; (repeat (first | (go_big_quiet_step (fail)) | (go_big_quiet_want; (first | refine quiet_ld Sc ?_ | refine quiet_ld8 Sc ?_ | refine quiet_ld0 ?_ | refine quiet_ldA Sc ?_ | refine quiet_b2sB Sc ?_ | refine quiet_b2sR Sc ?_ | refine quiet_ldc Sc ?_); go_big_quiet_on))); refine wpQuiet_nil ?_
              go_wp2_with (first | go_big_skip | go_big_skip | (refine wpList_ld S ?_) | (refine wpList_ld8 S ?_) | (refine wpList_ld0 ?_) | (refine wpList_ldA S ?_) | (refine wpList_st8 S ?_; (clear S; intro ws S)) | (refine wpList_st S ?_; (clear S; intro ws S)) | (refine wpList_box S ?_; (clear S; intro nb wb hnb S)) | (refine wpList_alloc S ?_; (clear S; intro nb wb hnb S)) | (refine wpList_mk8 S ?_; (clear S; intro nb wb hnb S)) | (refine wpList_mk S ?_; (clear S; intro nb wb hnb S)) | (refine wpList_bs S ?_; (clear S; intro nb wb hnb S)) | (refine wpList_stA S ?_; (clear S; intro ws S; simp only [splice, List.take_zero, List.take_succ_cons, List.drop_succ_cons, List.drop_zero, List.drop_nil, List.length_cons, List.length_nil, Nat.reduceAdd, Nat.zero_add, List.nil_append, List.cons_append, List.append_nil] at S)) | (refine wpList_b2sB S ?_) | (refine wpList_b2sR S ?_) | (refine wpList_ldc S ?_))
              refine ret_of (results_ct S) ?_
              exact hfinal.out (.slice va1 (q2 + spare) va2) va false q _ hf1.out ht1.out (S.sel (by repeat (first | exact Sel.nil | (apply Sel.cons; (repeat (first | exact Pull.head | apply Pull.tail))))))
end Go.Proofs.Ytkfkcinkkgdebaa
