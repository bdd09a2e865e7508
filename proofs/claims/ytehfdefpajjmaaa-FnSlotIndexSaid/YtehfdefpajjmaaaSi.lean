/- A hash belongs ahead of the first one in a slot that is not less: for all lists of at most 300 hashes that rise (of a list of more than 2147483647 hashes nothing is asked; of a longer list than 300, its first 300 are looked at). -/
import Derived.Test.YtehfdefpajjmaaaSx
import Derived.Test.YtehfdefpajjmaaaOpen
namespace Go.Proofs.Ytehfdefpajjmaaa
open Go Go.RowKit Go.Vil Go.ChangeShapes Go.WideShapes Go.ChangeAt
set_option linter.unusedSimpArgs false
set_option linter.unusedVariables false

/-- Numbers that came in. -/
theorem open_nums {H : Type} {enc : TypeId × Value → H} {P : Program} {w : World} {base base' : Nat} {spare : Nat → Bool} {held : Bool} {r : Reach} {t e : TypeId} {k : IntKind} {v : Value} {d : DataW H} {ps : List MemPlace} (ht : P.underlying t = some (.slice e)) (he : P.underlying e = some (.int k)) (hc : P.cellsOf e = 1)
    (hval : Value.okWide P w r base' t v) (hd : DataW.Trod enc P w base spare held t v d ps) :
    ∃ (n : Nat) (xs : List Int), Src w 1 v n (xs.map (.int k)) ∧ xs.length = n ∧ (∃ a c, v = .slice a n c ∧ n ≤ maxLen ∧ n ≤ c) := by
  obtain ⟨a0, len, cap, rfl⟩ := okWide_slice ht hval
  obtain ⟨fuel, hf⟩ := hd
  rcases open_ints ht he hc hf with ⟨hcs, hx⟩ | ⟨a, len', cap', zs, hcs, _, hl, hm, hz, hx, hcell, hwz⟩
  · simp [Value.cells] at hcs
    obtain ⟨rfl, rfl, rfl⟩ := hcs
    exact ⟨0, [], Src.nil w 1 0, rfl, none, 0, rfl, by simp [maxLen], Nat.le_refl _⟩
  · simp [Value.cells] at hcs
    obtain ⟨rfl, rfl, rfl⟩ := hcs
    have hlen : len ≤ zs.length := by rw [hz]; split <;> omega
    refine ⟨len, zs.take len, ?_, by simp; omega, some a, cap, rfl, Nat.le_trans hl hm, hl⟩
    refine Src.cells (by simp; omega) (fun u hu => by obtain ⟨z, _, rfl⟩ := List.mem_map.1 hu; rfl) fun j u hu => ?_
    rw [List.getElem?_map, List.getElem?_take] at hu
    split at hu
    · rename_i hj
      have hjz : j < zs.length := by omega
      rw [List.getElem?_eq_getElem hjz] at hu
      simp only [Option.map_some, Option.some.injEq] at hu
      subst hu
      rw [hcell j hjz]
      simp [List.getD, List.getElem?_eq_getElem hjz]
    · simp at hu

theorem src_pre {w : World} {a : Option Addr} {n c : Nat} {cs : List Value} (h : Src w 1 (.slice a n c) n cs) (m : Nat) (hm : m ≤ n) : Src w 1 (.slice a m c) m (cs.take m) := by
  have hl := h.1
  cases a with
  | none =>
    have : cs = [] := (h.2.2 : n = n ∧ cs = []).2
    subst this
    simp at hl
    obtain rfl : m = 0 := by omega
    exact ⟨by simp, by simp, rfl, rfl⟩
  | some ad =>
    refine Src.cells (by simp; omega) (fun u hu => h.2.1 u (List.mem_of_mem_take hu)) fun j u hu => ?_
    rw [List.getElem?_take] at hu
    split at hu
    · exact h.2.2.2 j u hu
    · cases hu

section
variable {P : Program} {ops : Array Oper} {Q : Exit → Act → World → Prop} {rest : List Oper} {o : Oper} {a : Act} {w : World}
/-- x[:h]. -/
theorem wpList_slcH {ty e : TypeId} {z : Value} {size bytes : Nat} {x hi : Operand} {ad : Option Addr} {n c : Nat} {kh : IntKind} {h : Int} {a' : Act} (m : Nat)
    (k : wpList P ops Q rest a' w)
    (hw : Region.wanted o (yielded ops a.tmps) = true := by rfl) (ho : o.op = .slice ty x none (some hi) none := by rfl) (ht : TSlice P ty e := by infer_instance) (he : TElem P e z size bytes := by infer_instance)
    (hx : slot a x = some (.slice ad n c) := by rfl) (hhi : slot a hi = some (.int kh h) := by rfl)
    (hm : h = (m : Int) := by omega) (h2 : m ≤ c := by omega)
    (hput : Put a o.dst (.slice ad m c) a' := by exact put_of (by conv => lhs; simp only [List.set_cons_succ, List.set_cons_zero])) : wpList P ops Q (o :: rest) a w := by
  obtain ⟨inf, hi', hz, hsize, hby, hzs⟩ := he.is
  subst hm
  have h2' : (m : Int) ≤ (c : Int) := by omega
  refine wpList_run hw (v := .slice ad m c) ?_ (hput.is ▸ k)
  simp [execOp, ho, eval_slot hx, eval_slot hhi, Instr.sliceAt, Instr.slice, run_underlying ht.is, sizeOf, typeInfo, hi', Instr.sliceBounds, run_sliceBound, h2']
  intro _
  cases ad <;> simp [Addr.add]
/-- append([]T{}, y...). -/
theorem wpList_app0 {w0 : World} {bs : List Nat} {L F : List Res} (S : St w0 bs w L) {sv : Value} {m : Nat} {news : List Value} (hs : Src w 1 sv m news) {a' : Value → Act} {x y : Operand} {t tx e : TypeId} {z : Value} {bytes : Nat} {v : Value}
    (k : ∀ v' w', (v' = .slice none 0 0 ↔ m = 0 ∧ v = .slice none 0 0) → St w0 bs w' (.row e 1 v' m news :: F) → wpList P ops Q rest (a' v') w')
    (hw : Region.wanted o (yielded ops a.tmps) = true := by rfl) (ho : o.op = .call { callee := .builtin .append, args := #[x, y], argTypes := #[t, tx] } := by rfl)
    (ht : TSlice P t e := by infer_instance) (htx : TRow P tx := by infer_instance) (he : TElem P e z 1 bytes := by infer_instance)
    (hx : slot a x = some v := by rfl) (hy : slot a y = some sv := by rfl)
    (hp : Pull (.row e 1 v 0 (u8s [])) L F := by first | exact Pull.head | exact Pull.tail .head)
    (h63 : m ≤ maxLen := by (unfold maxLen; first | omega | (simp; omega))) (hb : m * bytes ≤ 140737488355328 := by first | omega | (simp; omega))
    (hput : ∀ v', Put a o.dst v' (a' v') := by (intro _; exact put_of (by conv => lhs; simp only [List.set_cons_succ, List.set_cons_zero]))) : wpList P ops Q (o :: rest) a w :=
  wpList_app S hs (fun v' w' h S => k v' w' (by rwa [Nat.zero_add] at h) (by rwa [Nat.zero_add] at S)) hw ho ht htx he hx hy hp (by decide) (by rwa [Nat.zero_add]) (by rwa [Nat.zero_add]) hput
end

def Up (xs : List Int) (i : Nat) : Prop := ∀ (a b : Nat) (x y : Int), a < b → b < i → xs[a]? = some x → xs[b]? = some y → x ≤ y
def But (xs : List Int) (i k : Nat) : Prop := ∀ (a b : Nat) (x y : Int), a < b → b ≤ i → b ≠ k → xs[a]? = some x → xs[b]? = some y → x ≤ y
theorem Up.but {xs : List Int} {i : Nat} (h : Up xs i) : But xs i i := fun a b x y h1 h2 h3 h4 h5 => h a b x y h1 (by omega) h4 h5
theorem But.zero {xs : List Int} {i : Nat} (h : But xs i 0) : Up xs (i + 1) := fun a b x y h1 h2 h3 h4 => h a b x y h1 (by omega) (by omega) h3 h4
theorem But.done {xs : List Int} {i k : Nat} {x y : Int} (h : But xs i (k + 1)) (hx : xs[k + 1]? = some x) (hy : xs[k]? = some y) (hxy : ¬ x < y) : Up xs (i + 1) := by
  intro a b u v h1 h2 h3 h4
  by_cases hb : b = k + 1
  · subst hb
    rw [hx] at h4
    cases h4
    by_cases ha : a = k
    · subst ha; rw [hy] at h3; cases h3; omega
    · have := h a k u y (by omega) (by omega) (by omega) h3 hy; omega
  · exact h a b u v h1 (by omega) hb h3 h4
theorem But.swap {xs : List Int} {i k : Nat} {x y : Int} (h : But xs i (k + 1)) (hi : k + 1 ≤ i) (hx : xs[k + 1]? = some x) (hy : xs[k]? = some y) (hxy : x < y) : But ((xs.set (k + 1) y).set k x) i k := by
  have hk1 : k + 1 < xs.length := (List.getElem?_eq_some_iff.1 hx).1
  have val : ∀ (j : Nat) (u : Int), ((xs.set (k + 1) y).set k x)[j]? = some u → (j = k ∧ u = x) ∨ (j = k + 1 ∧ u = y) ∨ (j ≠ k ∧ j ≠ k + 1 ∧ xs[j]? = some u) := by
    intro j u hu
    rw [List.getElem?_set, List.getElem?_set] at hu
    simp only [List.length_set] at hu
    by_cases e1 : k = j
    · subst e1; rw [if_pos rfl, if_pos (by omega)] at hu; cases hu; exact .inl ⟨rfl, rfl⟩
    · rw [if_neg e1] at hu
      by_cases e2 : k + 1 = j
      · subst e2; rw [if_pos rfl, if_pos hk1] at hu; cases hu; exact .inr (.inl ⟨rfl, rfl⟩)
      · rw [if_neg e2] at hu; exact .inr (.inr ⟨fun h => e1 h.symm, fun h => e2 h.symm, hu⟩)
  intro a b u v h1 h2 h3 h4 h5
  rcases val a u h4 with ⟨rfl, rfl⟩ | ⟨rfl, rfl⟩ | ⟨ha1, ha2, h4'⟩ <;> rcases val b v h5 with ⟨rfl, rfl⟩ | ⟨rfl, rfl⟩ | ⟨hb1, hb2, h5'⟩ <;> try omega
  · have := h (a + 1) b u v (by omega) h2 hb2 hx h5'; omega
  · exact h k b u v (by omega) h2 hb2 hy h5'
  · exact h a k u v (by omega) (by omega) (by omega) h4' hy
  · exact h a b u v h1 h2 hb2 h4' h5'
theorem Up.rises {xs : List Int} (h : Up xs xs.length) : Rises xs := by
  intro i j x y hij hx hy
  by_cases e : i = j
  · subst e; rw [hx] at hy; cases hy; exact Int.le_refl _
  · exact h i j x y (by omega) (List.getElem?_eq_some_iff.1 hy).1 hx hy
theorem LowB.eq {xs : List Int} {h : Int} {r k : Nat} (hr : LowB xs h r) (hk : k ≤ xs.length) (h1 : ∀ (i : Nat) (x : Int), i < k → xs[i]? = some x → x < h) (h2 : k = xs.length ∨ ∃ x, xs[k]? = some x ∧ ¬ x < h) : r = k := by
  rcases Nat.lt_trichotomy r k with hlt | rfl | hgt
  · have := h1 r _ hlt (List.getElem?_eq_getElem (by omega))
    have := hr.2.2 r _ (Nat.le_refl _) (List.getElem?_eq_getElem (by omega))
    omega
  · rfl
  · rcases h2 with rfl | ⟨x, hx, hn⟩
    · have := hr.1; omega
    · exact absurd (hr.2.1 k x hgt hx) hn

theorem lies_app (xs : List Int) (more : List Value) : Lies (xs.map (.int .u16) ++ more) 1 0 xs := by
  intro j x hx
  have hj := (List.getElem?_eq_some_iff.1 hx).1
  rw [Nat.mul_one, Nat.add_zero, List.getElem?_append_left (by simpa using hj), List.getElem?_map, hx]
  rfl
theorem Lies.at {cs : List Value} {xs : List Int} (h : Lies cs 1 0 xs) {j : Nat} {x : Int} (hx : xs[j]? = some x) : cs[j]? = some (.int .u16 x) := by
  have := h j x hx
  simpa using this
theorem Lies.set1 {cs : List Value} {xs : List Int} (h : Lies cs 1 0 xs) (j : Nat) (z : Int) (hj : j < xs.length) (hl : j < cs.length) : Lies (cs.set j (.int .u16 z)) 1 0 (xs.set j z) := by
  have := h.set j z hj (by omega) (by omega)
  simpa using this
theorem two_lie : Lies [.int .u16 1, .int .u16 3] 1 0 [1, 3] := by
  intro j x hx
  match j, hx with
  | 0, hx => simp at hx; subst hx; rfl
  | 1, hx => simp at hx; subst hx; rfl
theorem two_rise : Rises [1, 3] := by
  intro i j x y hij hx hy
  match i, j, hx, hy, hij with
  | 0, 0, hx, hy, _ => simp at hx hy; omega
  | 0, 1, hx, hy, _ => simp at hx hy; omega
  | 1, 1, hx, hy, _ => simp at hx hy; omega
  | 1, 0, _, _, h => omega
theorem two_low : ∀ (i : Nat) (x : Int), i < 1 → ([1, 3] : List Int)[i]? = some x → x < 2 := by
  intro i x hi hx
  obtain rfl : i = 0 := by omega
  simp at hx; omega

set_option maxHeartbeats 3200000 in
set_option maxRecDepth 100000 in
theorem lawSlotA (a : Option Addr) (c n : Nat) (zs : List Int) (h : Int) (w : World) (hl : Src w 1 (.slice a n c) n (zs.map (.int .u16))) (hzl : zs.length = n) (hc : n ≤ c) (hn : ¬ (n : Int) > 2147483647) (hq : (300 : Int) < (n : Int)) :
    Calls Try.prog 8 #[.slice a n c, .int .u16 h] w fun e w' => e = .returned (.bool true) ∧ Below w.heap.size w w' := by
  have S := St.begin w
  have hl := hidden (src_pre hl 300 (by omega))
  obtain ⟨xs, hxs, hxl⟩ : ∃ xs : List Int, Hid ((zs.map (Value.int .u16)).take 300 = xs.map (Value.int .u16)) ∧ xs.length = 300 := ⟨zs.take 300, hidden (by rw [List.map_take]), by simp; omega⟩
  rw [hxs.out] at hl
  clear hxs hzl
  have hxl := hidden hxl
  have hM : 300 ≤ 300 := by omega
  have hM := hidden hM
  go_enter Try.func8, Try.ntmps8
  go_wp2_with (first | (refine wpList_bs0 S ?_; (clear S; intro nb wb hnb S)) | (refine wpList_slcH 300 ?_) | (refine wpList_app0 S (hl.out.on S.chg) ?_ (h63 := by (have := hM.out; unfold maxLen; omega)) (hb := by (have := hM.out; omega)); (clear S; intro va wa hva S; rcases S.ofRow (hp := Pull.head) with ⟨hz, _, _⟩ | ⟨ba, ca, more, rfl, hca, hcm, hxl2, hml, S2⟩; exact absurd (hva.1 hz).2 (by simp); clear S; have S := S2; clear S2)))
  have hl0 := hidden (lies_app xs more)
  have hcl : (xs.map (Value.int .u16) ++ more).length = ca := by rw [hml, Nat.mul_one]
  obtain ⟨cs0, hcs0⟩ : ∃ cs0, xs.map (Value.int .u16) ++ more = cs0 := ⟨_, rfl⟩
  rw [hcs0] at S hl0 hcl
  clear hcs0 hml hxl2 hva
  go_loopg [20] 300 (fun g i wr => ∃ (j : Nat) (cs : List Value) (ys : List Int), j + g = 300 ∧ i = .int .i64 j ∧ cs.length = ca ∧ ys.length = 300 ∧ Hid (Lies cs 1 0 ys) ∧ Hid (Up ys j) ∧ St w [] wr [.blk ba (.cells cs.toArray 35 (0, 0))])
  case atStart => exact ⟨0, cs0, xs, by omega, rfl, hcl, hxl.out, hl0, hidden (fun a b x y h1 h2 => by omega), S.sel (by repeat (first | exact Sel.nil | (apply Sel.cons; (repeat (first | exact Pull.head | apply Pull.tail)))))⟩
  case round =>
    obtain ⟨j, cs, ys, hj, rfl, hcl, hyl, hl, hu, S⟩ := hrel
    by_cases hlt : j < 300
    · obtain ⟨gO, hgO⟩ : ∃ gO, gO + 1 = gk := ⟨gk - 1, by omega⟩
      go_wp2_with (first | ((with_reducible show Code.wp _ (Code.region _ _ true) _ _ _); refine St.regionLast S ?_; (repeat (first | (go_big_quiet_step (fail)) | (go_big_quiet_want; (first | refine quiet_ld S ?_ | refine quiet_ld8 S ?_ | refine quiet_ld0 ?_ | refine quiet_ldA S ?_ | refine quiet_b2sB S ?_ | refine quiet_b2sR S ?_ | refine quiet_ldc S ?_); go_big_quiet_on))); refine wpQuiet_nil ?_; clear S; intro wq S) | (refine wpList_ld S ?_) | (refine wpList_ld8 S ?_) | (refine wpList_ld0 ?_) | (refine wpList_ldA S ?_) | (refine wpList_st8 S ?_; (clear S; intro ws S)) | (refine wpList_st S ?_; (clear S; intro ws S)) | (refine wpList_box S ?_; (clear S; intro nb wb hnb S)) | (refine wpList_alloc S ?_; (clear S; intro nb wb hnb S)) | (refine wpList_mk8 S ?_; (clear S; intro nb wb hnb S)) | (refine wpList_mk S ?_; (clear S; intro nb wb hnb S)) | (refine wpList_bs S ?_; (clear S; intro nb wb hnb S)) | (refine wpList_stA S ?_; (clear S; intro ws S; simp only [splice, List.take_zero, List.take_succ_cons, List.drop_succ_cons, List.drop_zero, List.drop_nil, List.length_cons, List.length_nil, Nat.reduceAdd, Nat.zero_add, List.nil_append, List.cons_append, List.append_nil] at S)) | (refine wpList_b2sB S ?_) | (refine wpList_b2sR S ?_) | (refine wpList_ldc S ?_))
      go_loopg [6] j (fun g k wr => ∃ (cs : List Value) (ys : List Int), k = .int .i64 g ∧ g ≤ j ∧ cs.length = ca ∧ ys.length = 300 ∧ Hid (Lies cs 1 0 ys) ∧ Hid (But ys j g) ∧ St w [] wr [.blk ba (.cells cs.toArray 35 (0, 0))])
      case atStart => exact ⟨cs, ys, rfl, Nat.le_refl _, hcl, hyl, hl, hidden hu.out.but, S⟩
      case round =>
        obtain ⟨cs2, ys2, rfl, hkj, hcl2, hyl2, hl2, hb2, S⟩ := hrel
        rcases gk with _ | k'
        · go_wp2_with (first | ((with_reducible show Code.wp _ (Code.region _ _ true) _ _ _); refine St.regionLast S ?_; (repeat (first | (go_big_quiet_step (fail)) | (go_big_quiet_want; refine quiet_ld S ?_ (hi := by assumption); go_big_quiet_on))); refine wpQuiet_nil ?_; clear S; intro wq S))
          go_roundg gO
          case measure => omega
          case rel => exact ⟨j + 1, cs2, ys2, by omega, rfl, hcl2, hyl2, hl2, hidden hb2.out.zero, S⟩
        · obtain ⟨x, hx⟩ : ∃ x, Hid (ys2[k' + 1]? = some x) := ⟨ys2[k' + 1]'(by omega), hidden (List.getElem?_eq_getElem _)⟩
          obtain ⟨y, hy⟩ : ∃ y, Hid (ys2[k']? = some y) := ⟨ys2[k']'(by omega), hidden (List.getElem?_eq_getElem _)⟩
          have q1 := hl2.out.at hx.out
          have q2 := hl2.out.at hy.out
          by_cases hxy : x < y
          · go_wp2_with (first | ((with_reducible show Code.wp _ (Code.region _ _ true) _ _ _); refine St.regionLast S ?_; (repeat (first | (go_big_quiet_step (fail)) | (go_big_quiet_want; refine quiet_ld S ?_ (hi := by assumption); go_big_quiet_on))); refine wpQuiet_nil ?_; clear S; intro wq S))
            have c1 : wq.cell? ⟨ba, k' + 1, none⟩ = some (.int .u16 x) := (cell_at (S.blk .head)).trans (by simpa using q1)
            have c2 : wq.cell? ⟨ba, k', none⟩ = some (.int .u16 y) := (cell_at (S.blk .head)).trans (by simpa using q2)
            have f1 : wq.frozen? ⟨ba, k' + 1, none⟩ = false := frozen_at (S.blk .head)
            have f2 : wq.frozen? ⟨ba, k', none⟩ = false := frozen_at (S.blk .head)
            have S1 : St w [] (wq.setCell ⟨ba, k' + 1, none⟩ (.int .u16 y)) [.blk ba (.cells (cs2.set (k' + 1) (.int .u16 y)).toArray 35 (0, 0))] := S.setBlk .head (by simp)
            have S3 : St w [] ((wq.setCell ⟨ba, k' + 1, none⟩ (.int .u16 y)).setCell ⟨ba, k', none⟩ (.int .u16 x)) [.blk ba (.cells ((cs2.set (k' + 1) (.int .u16 y)).set k' (.int .u16 x)).toArray 35 (0, 0))] := S1.setBlk .head (by simp)
            have S2 : St w [] (((wq.setCell ⟨ba, k' + 1, none⟩ (.int .u16 y)).setCell ⟨ba, k', none⟩ (.int .u16 x)).drew) [.blk ba (.cells ((cs2.set (k' + 1) (.int .u16 y)).set k' (.int .u16 x)).toArray 35 (0, 0))] := S3.drew
            clear S S1 S3
            go_region
            go_wp2_with fail
            go_roundg k'
            case measure => omega
            case rel => exact ⟨_, (ys2.set (k' + 1) y).set k' x, rfl, by omega, by simp [hcl2], by simp [hyl2], hidden ((hl2.out.set1 (k' + 1) y (by omega) (by omega)).set1 k' x (by simp; omega) (by simp; omega)), hidden (hb2.out.swap (by omega) hx.out hy.out hxy), S2⟩
          · go_wp2_with (first | ((with_reducible show Code.wp _ (Code.region _ _ true) _ _ _); refine St.regionLast S ?_; (repeat (first | (go_big_quiet_step (fail)) | (go_big_quiet_want; refine quiet_ld S ?_ (hi := by assumption); go_big_quiet_on))); refine wpQuiet_nil ?_; clear S; intro wq S))
            go_roundg gO
            case measure => omega
            case rel => exact ⟨j + 1, cs2, ys2, by omega, rfl, hcl2, hyl2, hl2, hidden (hb2.out.done hx.out hy.out (by omega)), S⟩
    · obtain rfl : j = 300 := by omega
      have hri := hidden (show Rises ys from Up.rises (by rw [hyl]; exact hu.out))
      go_wp2_with (first | ((with_reducible show Code.wp _ (Code.region _ _ true) _ _ _); refine St.regionLast S ?_; (repeat (first | (go_big_quiet_step (fail)) | (go_big_quiet_want; (first | refine quiet_ld S ?_ | refine quiet_ld8 S ?_ | refine quiet_ld0 ?_ | refine quiet_ldA S ?_ | refine quiet_b2sB S ?_ | refine quiet_b2sR S ?_ | refine quiet_ldc S ?_); go_big_quiet_on))); refine wpQuiet_nil ?_; clear S; intro wq S) | (refine wpList_ld S ?_) | (refine wpList_ld8 S ?_) | (refine wpList_ld0 ?_) | (refine wpList_ldA S ?_) | (refine wpList_st8 S ?_; (clear S; intro ws S)) | (refine wpList_st S ?_; (clear S; intro ws S)) | (refine wpList_box S ?_; (clear S; intro nb wb hnb S)) | (refine wpList_alloc S ?_; (clear S; intro nb wb hnb S)) | (refine wpList_mk8 S ?_; (clear S; intro nb wb hnb S)) | (refine wpList_mk S ?_; (clear S; intro nb wb hnb S)) | (refine wpList_bs S ?_; (clear S; intro nb wb hnb S)) | (refine wpList_stA S ?_; (clear S; intro ws S; simp only [splice, List.take_zero, List.take_succ_cons, List.drop_succ_cons, List.drop_zero, List.drop_nil, List.length_cons, List.length_nil, Nat.reduceAdd, Nat.zero_add, List.nil_append, List.cons_append, List.append_nil] at S)) | (refine wpList_b2sB S ?_) | (refine wpList_b2sR S ?_) | (refine wpList_ldc S ?_))
      go_loopg [7] 300 (fun g k wr => ∃ kk : Nat, kk + g = 300 ∧ k = .int .i64 kk ∧ Hid (∀ (i : Nat) (x : Int), i < kk → ys[i]? = some x → x < h) ∧ St w [] wr [.blk ba (.cells cs.toArray 35 (0, 0))])
      case atStart => exact ⟨0, by omega, rfl, hidden (fun i x hi => by omega), S⟩
      case round =>
        obtain ⟨kk, hkk, rfl, hlo, S⟩ := hrel
        by_cases hk2 : kk < 300
        · obtain ⟨x, hx⟩ : ∃ x, Hid (ys[kk]? = some x) := ⟨ys[kk]'(by omega), hidden (List.getElem?_eq_getElem _)⟩
          have q1 := hl.out.at hx.out
          by_cases hxh : x < h
          · go_wp2_with (first | ((with_reducible show Code.wp _ (Code.region _ _ true) _ _ _); refine St.regionLast S ?_; (repeat (first | (go_big_quiet_step (fail)) | (go_big_quiet_want; refine quiet_ld S ?_ (hi := by assumption); go_big_quiet_on))); refine wpQuiet_nil ?_; clear S; intro wq S) | (refine wpList_ld S ?_ (hi := by assumption)))
            go_roundg (gk - 1)
            case measure => omega
            case rel => exact ⟨kk + 1, by omega, rfl, hidden (fun i z hi hz => by
              rcases Nat.lt_or_ge i kk with h1 | h1
              · exact hlo.out i z h1 hz
              · obtain rfl : i = kk := by omega
                rw [hx.out] at hz; cases hz; exact hxh), S⟩
          · go_wp2_with (first | ((with_reducible show Code.wp _ (Code.region _ _ true) _ _ _); refine St.regionLast S ?_; (repeat (first | (go_big_quiet_step (fail)) | (go_big_quiet_want; refine quiet_ld S ?_ (hi := by assumption); go_big_quiet_on))); refine wpQuiet_nil ?_; clear S; intro wq S) | (refine wpList_ld S ?_ (hi := by assumption)))
            refine Calls.mono (implIndex ba 300 ca cs ys h _ _ S.sel1 hyl hl.out hri.out hM.out hca) ?_
            rintro e w2 ⟨r, rfl, hr, C⟩
            have S2 := S.call C; clear S C; simp only [List.cons_append, List.nil_append] at S2; have S := S2; clear S2
            have e1 : r = kk := hr.eq (by omega) hlo.out (.inr ⟨x, hx.out, by omega⟩)
            subst e1
            clear hr
            go_wp2_with (first | (refine wpList_bs (size := 1) S ?_; (clear S; intro nb2 wb2 hnb2 S)))
            refine Calls.mono (implIndex nb2 2 2 _ [1, 3] 2 _ _ S.sel1 rfl two_lie two_rise (by omega) (by omega)) ?_
            rintro e w2 ⟨r2, rfl, hr2, C⟩
            have S2 := S.call C; clear S C; simp only [List.cons_append, List.nil_append] at S2; have S := S2; clear S2
            obtain rfl : r2 = 1 := hr2.eq (by simp) two_low (.inr ⟨3, rfl, by omega⟩)
            clear hr2
            go_wp2_with fail
            go_ret
            exact ⟨rfl, S.chg.below⟩
        · go_wp2_with (first | ((with_reducible show Code.wp _ (Code.region _ _ true) _ _ _); refine St.regionLast S ?_; (repeat (first | (go_big_quiet_step (fail)) | (go_big_quiet_want; refine quiet_ld S ?_ (hi := by assumption); go_big_quiet_on))); refine wpQuiet_nil ?_; clear S; intro wq S) | (refine wpList_ld S ?_ (hi := by assumption)))
          refine Calls.mono (implIndex ba 300 ca cs ys h _ _ S.sel1 hyl hl.out hri.out hM.out hca) ?_
          rintro e w2 ⟨r, rfl, hr, C⟩
          have S2 := S.call C; clear S C; simp only [List.cons_append, List.nil_append] at S2; have S := S2; clear S2
          have e1 : r = kk := hr.eq (by omega) hlo.out (.inl (by omega))
          subst e1
          clear hr
          go_wp2_with (first | (refine wpList_bs (size := 1) S ?_; (clear S; intro nb2 wb2 hnb2 S)))
          refine Calls.mono (implIndex nb2 2 2 _ [1, 3] 2 _ _ S.sel1 rfl two_lie two_rise (by omega) (by omega)) ?_
          rintro e w2 ⟨r2, rfl, hr2, C⟩
          have S2 := S.call C; clear S C; simp only [List.cons_append, List.nil_append] at S2; have S := S2; clear S2
          obtain rfl : r2 = 1 := hr2.eq (by simp) two_low (.inr ⟨3, rfl, by omega⟩)
          clear hr2
          go_wp2_with fail
          go_ret
          exact ⟨rfl, S.chg.below⟩

set_option maxHeartbeats 3200000 in
set_option maxRecDepth 100000 in
theorem lawSlotB (a : Option Addr) (c n : Nat) (zs : List Int) (h : Int) (w : World) (hl : Src w 1 (.slice a n c) n (zs.map (.int .u16))) (hzl : zs.length = n) (hc : n ≤ c) (hn : ¬ (n : Int) > 2147483647) (hq : ¬ (300 : Int) < (n : Int)) :
    Calls Try.prog 8 #[.slice a n c, .int .u16 h] w fun e w' => e = .returned (.bool true) ∧ Below w.heap.size w w' := by
  have S := St.begin w
  have hl := hidden (src_pre hl n (by omega))
  obtain ⟨xs, hxs, hxl⟩ : ∃ xs : List Int, Hid ((zs.map (Value.int .u16)).take n = xs.map (Value.int .u16)) ∧ xs.length = n := ⟨zs.take n, hidden (by rw [List.map_take]), by simp; omega⟩
  rw [hxs.out] at hl
  clear hxs hzl
  have hxl := hidden hxl
  have hM : n ≤ 300 := by omega
  have hM := hidden hM
  go_enter Try.func8, Try.ntmps8
  go_wp2_with (first | (refine wpList_bs0 S ?_; (clear S; intro nb wb hnb S)) | (refine wpList_slcH n ?_) | (refine wpList_app0 S (hl.out.on S.chg) ?_ (h63 := by (have := hM.out; unfold maxLen; omega)) (hb := by (have := hM.out; omega)); (clear S; intro va wa hva S; rcases S.ofRow (hp := Pull.head) with ⟨hz, _, _⟩ | ⟨ba, ca, more, rfl, hca, hcm, hxl2, hml, S2⟩; exact absurd (hva.1 hz).2 (by simp); clear S; have S := S2; clear S2)))
  have hl0 := hidden (lies_app xs more)
  have hcl : (xs.map (Value.int .u16) ++ more).length = ca := by rw [hml, Nat.mul_one]
  obtain ⟨cs0, hcs0⟩ : ∃ cs0, xs.map (Value.int .u16) ++ more = cs0 := ⟨_, rfl⟩
  rw [hcs0] at S hl0 hcl
  clear hcs0 hml hxl2 hva
  go_loopg [20] n (fun g i wr => ∃ (j : Nat) (cs : List Value) (ys : List Int), j + g = n ∧ i = .int .i64 j ∧ cs.length = ca ∧ ys.length = n ∧ Hid (Lies cs 1 0 ys) ∧ Hid (Up ys j) ∧ St w [] wr [.blk ba (.cells cs.toArray 35 (0, 0))])
  case atStart => exact ⟨0, cs0, xs, by omega, rfl, hcl, hxl.out, hl0, hidden (fun a b x y h1 h2 => by omega), S.sel (by repeat (first | exact Sel.nil | (apply Sel.cons; (repeat (first | exact Pull.head | apply Pull.tail)))))⟩
  case round =>
    obtain ⟨j, cs, ys, hj, rfl, hcl, hyl, hl, hu, S⟩ := hrel
    by_cases hlt : j < n
    · obtain ⟨gO, hgO⟩ : ∃ gO, gO + 1 = gk := ⟨gk - 1, by omega⟩
      go_wp2_with (first | ((with_reducible show Code.wp _ (Code.region _ _ true) _ _ _); refine St.regionLast S ?_; (repeat (first | (go_big_quiet_step (fail)) | (go_big_quiet_want; (first | refine quiet_ld S ?_ | refine quiet_ld8 S ?_ | refine quiet_ld0 ?_ | refine quiet_ldA S ?_ | refine quiet_b2sB S ?_ | refine quiet_b2sR S ?_ | refine quiet_ldc S ?_); go_big_quiet_on))); refine wpQuiet_nil ?_; clear S; intro wq S) | (refine wpList_ld S ?_) | (refine wpList_ld8 S ?_) | (refine wpList_ld0 ?_) | (refine wpList_ldA S ?_) | (refine wpList_st8 S ?_; (clear S; intro ws S)) | (refine wpList_st S ?_; (clear S; intro ws S)) | (refine wpList_box S ?_; (clear S; intro nb wb hnb S)) | (refine wpList_alloc S ?_; (clear S; intro nb wb hnb S)) | (refine wpList_mk8 S ?_; (clear S; intro nb wb hnb S)) | (refine wpList_mk S ?_; (clear S; intro nb wb hnb S)) | (refine wpList_bs S ?_; (clear S; intro nb wb hnb S)) | (refine wpList_stA S ?_; (clear S; intro ws S; simp only [splice, List.take_zero, List.take_succ_cons, List.drop_succ_cons, List.drop_zero, List.drop_nil, List.length_cons, List.length_nil, Nat.reduceAdd, Nat.zero_add, List.nil_append, List.cons_append, List.append_nil] at S)) | (refine wpList_b2sB S ?_) | (refine wpList_b2sR S ?_) | (refine wpList_ldc S ?_))
      go_loopg [6] j (fun g k wr => ∃ (cs : List Value) (ys : List Int), k = .int .i64 g ∧ g ≤ j ∧ cs.length = ca ∧ ys.length = n ∧ Hid (Lies cs 1 0 ys) ∧ Hid (But ys j g) ∧ St w [] wr [.blk ba (.cells cs.toArray 35 (0, 0))])
      case atStart => exact ⟨cs, ys, rfl, Nat.le_refl _, hcl, hyl, hl, hidden hu.out.but, S⟩
      case round =>
        obtain ⟨cs2, ys2, rfl, hkj, hcl2, hyl2, hl2, hb2, S⟩ := hrel
        rcases gk with _ | k'
        · go_wp2_with (first | ((with_reducible show Code.wp _ (Code.region _ _ true) _ _ _); refine St.regionLast S ?_; (repeat (first | (go_big_quiet_step (fail)) | (go_big_quiet_want; refine quiet_ld S ?_ (hi := by assumption); go_big_quiet_on))); refine wpQuiet_nil ?_; clear S; intro wq S))
          go_roundg gO
          case measure => omega
          case rel => exact ⟨j + 1, cs2, ys2, by omega, rfl, hcl2, hyl2, hl2, hidden hb2.out.zero, S⟩
        · obtain ⟨x, hx⟩ : ∃ x, Hid (ys2[k' + 1]? = some x) := ⟨ys2[k' + 1]'(by omega), hidden (List.getElem?_eq_getElem _)⟩
          obtain ⟨y, hy⟩ : ∃ y, Hid (ys2[k']? = some y) := ⟨ys2[k']'(by omega), hidden (List.getElem?_eq_getElem _)⟩
          have q1 := hl2.out.at hx.out
          have q2 := hl2.out.at hy.out
          by_cases hxy : x < y
          · go_wp2_with (first | ((with_reducible show Code.wp _ (Code.region _ _ true) _ _ _); refine St.regionLast S ?_; (repeat (first | (go_big_quiet_step (fail)) | (go_big_quiet_want; refine quiet_ld S ?_ (hi := by assumption); go_big_quiet_on))); refine wpQuiet_nil ?_; clear S; intro wq S))
            have c1 : wq.cell? ⟨ba, k' + 1, none⟩ = some (.int .u16 x) := (cell_at (S.blk .head)).trans (by simpa using q1)
            have c2 : wq.cell? ⟨ba, k', none⟩ = some (.int .u16 y) := (cell_at (S.blk .head)).trans (by simpa using q2)
            have f1 : wq.frozen? ⟨ba, k' + 1, none⟩ = false := frozen_at (S.blk .head)
            have f2 : wq.frozen? ⟨ba, k', none⟩ = false := frozen_at (S.blk .head)
            have S1 : St w [] (wq.setCell ⟨ba, k' + 1, none⟩ (.int .u16 y)) [.blk ba (.cells (cs2.set (k' + 1) (.int .u16 y)).toArray 35 (0, 0))] := S.setBlk .head (by simp)
            have S3 : St w [] ((wq.setCell ⟨ba, k' + 1, none⟩ (.int .u16 y)).setCell ⟨ba, k', none⟩ (.int .u16 x)) [.blk ba (.cells ((cs2.set (k' + 1) (.int .u16 y)).set k' (.int .u16 x)).toArray 35 (0, 0))] := S1.setBlk .head (by simp)
            have S2 : St w [] (((wq.setCell ⟨ba, k' + 1, none⟩ (.int .u16 y)).setCell ⟨ba, k', none⟩ (.int .u16 x)).drew) [.blk ba (.cells ((cs2.set (k' + 1) (.int .u16 y)).set k' (.int .u16 x)).toArray 35 (0, 0))] := S3.drew
            clear S S1 S3
            go_region
            go_wp2_with fail
            go_roundg k'
            case measure => omega
            case rel => exact ⟨_, (ys2.set (k' + 1) y).set k' x, rfl, by omega, by simp [hcl2], by simp [hyl2], hidden ((hl2.out.set1 (k' + 1) y (by omega) (by omega)).set1 k' x (by simp; omega) (by simp; omega)), hidden (hb2.out.swap (by omega) hx.out hy.out hxy), S2⟩
          · go_wp2_with (first | ((with_reducible show Code.wp _ (Code.region _ _ true) _ _ _); refine St.regionLast S ?_; (repeat (first | (go_big_quiet_step (fail)) | (go_big_quiet_want; refine quiet_ld S ?_ (hi := by assumption); go_big_quiet_on))); refine wpQuiet_nil ?_; clear S; intro wq S))
            go_roundg gO
            case measure => omega
            case rel => exact ⟨j + 1, cs2, ys2, by omega, rfl, hcl2, hyl2, hl2, hidden (hb2.out.done hx.out hy.out (by omega)), S⟩
    · obtain rfl : n = j := by omega
      have hri := hidden (show Rises ys from Up.rises (by rw [hyl]; exact hu.out))
      go_wp2_with (first | ((with_reducible show Code.wp _ (Code.region _ _ true) _ _ _); refine St.regionLast S ?_; (repeat (first | (go_big_quiet_step (fail)) | (go_big_quiet_want; (first | refine quiet_ld S ?_ | refine quiet_ld8 S ?_ | refine quiet_ld0 ?_ | refine quiet_ldA S ?_ | refine quiet_b2sB S ?_ | refine quiet_b2sR S ?_ | refine quiet_ldc S ?_); go_big_quiet_on))); refine wpQuiet_nil ?_; clear S; intro wq S) | (refine wpList_ld S ?_) | (refine wpList_ld8 S ?_) | (refine wpList_ld0 ?_) | (refine wpList_ldA S ?_) | (refine wpList_st8 S ?_; (clear S; intro ws S)) | (refine wpList_st S ?_; (clear S; intro ws S)) | (refine wpList_box S ?_; (clear S; intro nb wb hnb S)) | (refine wpList_alloc S ?_; (clear S; intro nb wb hnb S)) | (refine wpList_mk8 S ?_; (clear S; intro nb wb hnb S)) | (refine wpList_mk S ?_; (clear S; intro nb wb hnb S)) | (refine wpList_bs S ?_; (clear S; intro nb wb hnb S)) | (refine wpList_stA S ?_; (clear S; intro ws S; simp only [splice, List.take_zero, List.take_succ_cons, List.drop_succ_cons, List.drop_zero, List.drop_nil, List.length_cons, List.length_nil, Nat.reduceAdd, Nat.zero_add, List.nil_append, List.cons_append, List.append_nil] at S)) | (refine wpList_b2sB S ?_) | (refine wpList_b2sR S ?_) | (refine wpList_ldc S ?_))
      go_loopg [7] n (fun g k wr => ∃ kk : Nat, kk + g = n ∧ k = .int .i64 kk ∧ Hid (∀ (i : Nat) (x : Int), i < kk → ys[i]? = some x → x < h) ∧ St w [] wr [.blk ba (.cells cs.toArray 35 (0, 0))])
      case atStart => exact ⟨0, by omega, rfl, hidden (fun i x hi => by omega), S⟩
      case round =>
        obtain ⟨kk, hkk, rfl, hlo, S⟩ := hrel
        by_cases hk2 : kk < n
        · obtain ⟨x, hx⟩ : ∃ x, Hid (ys[kk]? = some x) := ⟨ys[kk]'(by omega), hidden (List.getElem?_eq_getElem _)⟩
          have q1 := hl.out.at hx.out
          by_cases hxh : x < h
          · go_wp2_with (first | ((with_reducible show Code.wp _ (Code.region _ _ true) _ _ _); refine St.regionLast S ?_; (repeat (first | (go_big_quiet_step (fail)) | (go_big_quiet_want; refine quiet_ld S ?_ (hi := by assumption); go_big_quiet_on))); refine wpQuiet_nil ?_; clear S; intro wq S) | (refine wpList_ld S ?_ (hi := by assumption)))
            go_roundg (gk - 1)
            case measure => omega
            case rel => exact ⟨kk + 1, by omega, rfl, hidden (fun i z hi hz => by
              rcases Nat.lt_or_ge i kk with h1 | h1
              · exact hlo.out i z h1 hz
              · obtain rfl : i = kk := by omega
                rw [hx.out] at hz; cases hz; exact hxh), S⟩
          · go_wp2_with (first | ((with_reducible show Code.wp _ (Code.region _ _ true) _ _ _); refine St.regionLast S ?_; (repeat (first | (go_big_quiet_step (fail)) | (go_big_quiet_want; refine quiet_ld S ?_ (hi := by assumption); go_big_quiet_on))); refine wpQuiet_nil ?_; clear S; intro wq S) | (refine wpList_ld S ?_ (hi := by assumption)))
            refine Calls.mono (implIndex ba n ca cs ys h _ _ S.sel1 hyl hl.out hri.out hM.out hca) ?_
            rintro e w2 ⟨r, rfl, hr, C⟩
            have S2 := S.call C; clear S C; simp only [List.cons_append, List.nil_append] at S2; have S := S2; clear S2
            have e1 : r = kk := hr.eq (by omega) hlo.out (.inr ⟨x, hx.out, by omega⟩)
            subst e1
            clear hr
            go_wp2_with (first | (refine wpList_bs (size := 1) S ?_; (clear S; intro nb2 wb2 hnb2 S)))
            refine Calls.mono (implIndex nb2 2 2 _ [1, 3] 2 _ _ S.sel1 rfl two_lie two_rise (by omega) (by omega)) ?_
            rintro e w2 ⟨r2, rfl, hr2, C⟩
            have S2 := S.call C; clear S C; simp only [List.cons_append, List.nil_append] at S2; have S := S2; clear S2
            obtain rfl : r2 = 1 := hr2.eq (by simp) two_low (.inr ⟨3, rfl, by omega⟩)
            clear hr2
            go_wp2_with fail
            go_ret
            exact ⟨rfl, S.chg.below⟩
        · go_wp2_with (first | ((with_reducible show Code.wp _ (Code.region _ _ true) _ _ _); refine St.regionLast S ?_; (repeat (first | (go_big_quiet_step (fail)) | (go_big_quiet_want; refine quiet_ld S ?_ (hi := by assumption); go_big_quiet_on))); refine wpQuiet_nil ?_; clear S; intro wq S) | (refine wpList_ld S ?_ (hi := by assumption)))
          refine Calls.mono (implIndex ba n ca cs ys h _ _ S.sel1 hyl hl.out hri.out hM.out hca) ?_
          rintro e w2 ⟨r, rfl, hr, C⟩
          have S2 := S.call C; clear S C; simp only [List.cons_append, List.nil_append] at S2; have S := S2; clear S2
          have e1 : r = kk := hr.eq (by omega) hlo.out (.inl (by omega))
          subst e1
          clear hr
          go_wp2_with (first | (refine wpList_bs (size := 1) S ?_; (clear S; intro nb2 wb2 hnb2 S)))
          refine Calls.mono (implIndex nb2 2 2 _ [1, 3] 2 _ _ S.sel1 rfl two_lie two_rise (by omega) (by omega)) ?_
          rintro e w2 ⟨r2, rfl, hr2, C⟩
          have S2 := S.call C; clear S C; simp only [List.cons_append, List.nil_append] at S2; have S := S2; clear S2
          obtain rfl : r2 = 1 := hr2.eq (by simp) two_low (.inr ⟨3, rfl, by omega⟩)
          clear hr2
          go_wp2_with fail
          go_ret
          exact ⟨rfl, S.chg.below⟩

theorem lawSlot (v : Value) (n : Nat) (zs : List Int) (h : Int) (w : World) (hl : Src w 1 v n (zs.map (.int .u16))) (hzl : zs.length = n) (hv : ∃ a c, v = .slice a n c ∧ n ≤ maxLen ∧ n ≤ c) (hh : (Lit.int .u16 h).wf = true) :
    Calls Try.prog 8 #[v, .int .u16 h] w fun e w' => e = .returned (.bool true) ∧ Below w.heap.size w w' := by
  obtain ⟨a, c, rfl, hm, hc⟩ := hv
  clear hh
  by_cases hn : (n : Int) > 2147483647
  · clear hl
    go_enter Try.func8, Try.ntmps8
    go_wp2_with fail
    go_ret
    exact ⟨rfl, Below.refl _ _⟩
  · by_cases hq : (300 : Int) < (n : Int)
    · exact lawSlotA a c n zs h w hl hzl hc hn hq
    · exact lawSlotB a c n zs h w hl hzl hc hn hq
end Go.Proofs.Ytehfdefpajjmaaa
