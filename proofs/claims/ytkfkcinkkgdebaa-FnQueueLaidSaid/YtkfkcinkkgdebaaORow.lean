/- Slices that begin anywhere in a block of their own: append, x[l:]. -/
import Derived.Test.YtkfkcinkkgdebaaArr
namespace Go.Vil
open Go Go.RowKit
set_option linter.unusedSimpArgs false
set_option linter.unusedVariables false

theorem hasRow.cells {w : World} {e : TypeId} {size n cap g o : Nat} {xs : List Value} (h : hasRow w e size (.slice (some ⟨g, o, none⟩) n cap) n xs) : ∀ j u, xs[j]? = some u → w.cell? ((⟨g, o, none⟩ : Addr).add j) = some u := by
  intro j u hu
  rcases h.2 with ⟨h1, _⟩ | ⟨g', o', cap', cur, h1, hg, h2, h3, h4, h5⟩
  · cases h1
  · cases h1
    rw [Addr.add_lit, cell_at hg]
    rw [← h5, List.getElem?_take] at hu
    split at hu
    · rw [List.getElem?_drop] at hu; simpa using hu
    · cases hu
theorem Src.orow {w : World} {size : Nat} {e : TypeId} {v : Value} {n : Nat} {xs : List Value} (h : hasRow w e size v n xs) (h1 : ∀ u ∈ xs, u.oneCell' = true) : Src w size v n xs := by
  rcases h.2 with ⟨rfl, rfl⟩ | ⟨g, o, cap, cur, rfl, hg, h2, h3, h4, h5⟩
  · have : xs = [] := List.eq_nil_of_length_eq_zero (by simpa using h.1)
    subst this; exact Src.nil w size 0
  · exact Src.cells h.1 h1 h.cells
theorem hasRow.of_own {w : World} {e : TypeId} {size : Nat} {v : Value} {n : Nat} {xs : List Value} (h : w.ownsRow 0 e size v n xs) : hasRow w e size v n xs := by
  refine ⟨h.1, ?_⟩
  rcases h.2 with ⟨rfl, rfl⟩ | ⟨g, cap, cur, rfl, _, hg, h1, h2, h3, h4⟩
  · exact .inl ⟨rfl, rfl⟩
  · exact .inr ⟨g, 0, cap, cur, rfl, hg, h1, h2, by omega, by rw [List.drop_zero]; exact h4⟩

theorem run_append_orow {P : Program} {w : World} {t tx ty e : TypeId} {z : Value} {size bytes : Nat} [ht : TSlice P t e] [hx : TRow P tx] [he : TElem P e z size bytes] (hsz : 0 < size) {v : Value} {n : Nat} {xs : List Value} (hown : hasRow w e size v n xs)
    {sv : Value} {m : Nat} {news : List Value} (hs : Src w size sv m news) (h63 : n + m ≤ maxLen) (hbytes : (n + m) * bytes ≤ 140737488355328) :
    ∃ v' w', (Builtin.append_ #[t, tx] ty #[v, sv]).run P w = .ok v' w' ∧ hasRow w' e size v' (n + m) (xs ++ news) ∧ w.grownBy w' v.ownBlock ∧ (∀ b, v'.ownBlock = some b → v.ownBlock = some b ∨ w.heap.size ≤ b) ∧ (v' = .slice none 0 0 ↔ n + m = 0 ∧ v = .slice none 0 0) := by
  rcases hown.2 with ⟨rfl, rfl⟩ | ⟨g, o, cap, cur, rfl, hg, hnc, hcm, hcs, htake⟩
  · have hx0 : xs = [] := List.eq_nil_of_length_eq_zero (by simpa using hown.1)
    subst hx0
    obtain ⟨v', w', h1, h2, h3, h4, h5⟩ := run_append_row (P := P) (w := w) (t := t) (tx := tx) (ty := ty) hsz (World.ownsRow_nil w 0 e size) hs h63 hbytes
    exact ⟨v', w', h1, hasRow.of_own h2, h3, h4, h5⟩
  obtain ⟨i, hi, hz, hsize, hby, hzs⟩ := he.is
  obtain ⟨d, hd, hdi⟩ := hx.is
  subst hsize hby
  have hsmall : n + m ≤ 9223372036854775807 := by simp only [maxLen] at h63; omega
  have hlen : (xs ++ news).length = (n + m) * i.size := by rw [List.length_append, hown.1, hs.1, Nat.add_mul]
  have hnl : (Builtin.lenOf sv).run P w = .ok m w := hs.lenOf (w' := w) rfl
  have hzero : (match d with | .int _ => true | _ => false) = false := by
    cases d <;> first | rfl | exact absurd rfl (hdi _)
  have hnf : ∀ w', (∀ ad x, w.cell? ad = some x → w'.cell? ad = some x) → (Builtin.firstCells i.size m sv).run P w' = .ok news.toArray w' := fun w' hc => by
    have := hs.first (P := P) hc m (Nat.le_refl _)
    rwa [List.take_of_length_le (by rw [hs.1]; exact Nat.le_refl _)] at this
  have hn1 := hnf w (fun _ _ h => h)
  have hn2 := hnf w.drew (fun _ _ h => h)
  by_cases hroom : n + m ≤ cap
  · have hnm : (n + m) * i.size ≤ cap * i.size := Nat.mul_le_mul_right _ hroom
    rw [Nat.add_mul] at hnm
    have hnl2 : news.length = m * i.size := hs.1
    have hfit : o + n * i.size + news.length ≤ cur.size := by omega
    have hst := run_storeCells_at P g (o + n * i.size) e news 0 cur w hg (by simpa using hfit) hs.2.1
    simp only [Nat.add_zero] at hst
    refine ⟨.slice (some ⟨g, o, none⟩) (n + m) cap, w.setRow g (cur.toList.take (o + n * i.size) ++ news ++ cur.toList.drop (o + n * i.size + news.length)).toArray, ?_, ⟨hlen, .inr ⟨g, o, cap, _, rfl, setRow_heap w g cur _ e _ hg, hroom, hcm, ?_, ?_⟩⟩,
      ⟨rfl, rfl, rfl, by simp, fun k _ hk => setRow_other w g k _ (fun e => hk (by simp [Value.ownBlock, e]))⟩, fun b hb => .inl hb, by simp⟩
    · simp [Builtin.append_, run_underlying ht.is, run_underlying hd, sizeOf, typeInfo, hi, hnl, hroom, hn1, hzero, Addr.add_lit, hst]
    · simp only [List.size_toArray, List.length_append, List.length_take, List.length_drop, Array.length_toList]
      omega
    · have hol : o ≤ (cur.toList.take (o + n * i.size)).length := by simp; omega
      show ((cur.toList.take (o + n * i.size) ++ news ++ cur.toList.drop (o + n * i.size + news.length)).drop o).take ((n + m) * i.size) = xs ++ news
      rw [List.append_assoc, List.drop_append_of_le_length hol, List.drop_take, show o + n * i.size - o = n * i.size by omega, htake, ← List.append_assoc, ← hlen]
      exact List.take_left
  · have holds : ∀ j u, xs[j]? = some u → w.cell? ((⟨g, o, none⟩ : Addr).add j) = some u := hown.cells
    have hold := run_firstCells_some (P := P) w.drew i.size n ⟨g, o, none⟩ n cap xs hown.1 (by simpa using holds)
    have hnr : ¬ (n + m ≤ cap) := hroom
    have h63' : ¬ (9223372036854775807 < ((n : Int) + (m : Int))) := by omega
    have h48' : ¬ (281474976710656 < Builtin.nextslicecap (n + m) cap * i.bytes) := by have := growslice_fits (bytes := i.bytes) (show cap < n + m by omega) hbytes; omega
    have hge := grownCap_ge w (n + m) cap e
    have hcm2 : grownCap w (n + m) cap e ≤ maxLen := grownCap_le_maxLen w (n + m) cap e h63
    have hgr : hasRow (w.drew.alloc (.cells (xs.toArray ++ news.toArray ++ Builtin.zeroCells z.cells (grownCap w (n + m) cap e - (n + m))) e)) e i.size (.slice (some ⟨w.heap.size, 0, none⟩) (n + m) (grownCap w (n + m) cap e)) (n + m) (xs ++ news) := by
      refine ⟨hlen, .inr ⟨w.heap.size, 0, _, _, rfl, heap_alloc_new w.drew _, hge, hcm2, ?_, ?_⟩⟩
      · simp only [Array.size_append, List.size_toArray, size_zeroCells, hzs, hown.1, hs.1, ← Nat.add_mul, Nat.zero_add]
        exact Nat.mul_le_mul_right _ (by omega)
      · simp only [Array.toList_append, List.append_assoc, List.drop_zero]
        rw [← List.append_assoc, ← hlen]
        exact List.take_left
    refine ⟨_, _, ?_, hgr, ⟨rfl, rfl, rfl, by simp, fun k hk _ => Below.heap_alloc w.drew _ k hk⟩, fun b hb => by simp only [Value.ownBlock, Option.some.injEq] at hb; subst hb; exact .inr (Nat.le_refl _), by simp⟩
    simp [Builtin.append_, run_underlying ht.is, run_underlying hd, sizeOf, typeInfo, zeroValue, hi, hz, hnl, hnr, h63', h48', hzero, Question.forced, hn2, hold, newRow, grownCap]
    congr 2
    apply Array.ext'
    simp

section
variable {P : Program} {ops : Array Oper} {Q : Exit → Act → World → Prop} {rest : List Oper} {o : Oper} {a : Act} {w w' : World}
/-- append(x, y...): x a slice of the call's own, from wherever on. -/
theorem wpList_appOR {w0 : World} {bs : List Nat} {L F : List Res} (S : St w0 bs w L) {sv : Value} {m : Nat} {news : List Value} {size : Nat} (hs : Src w size sv m news) {a' : Value → Act} {x y : Operand} {t tx e : TypeId} {z : Value} {bytes n : Nat} {v : Value} {xs : List Value}
    (k : ∀ v' w', (∃ oa c, v' = .slice oa (n + m) c ∧ n + m ≤ c) → St w0 bs w' (.orow e size v' (n + m) (xs ++ news) :: F) → wpList P ops Q rest (a' v') w')
    (hw : Region.wanted o (yielded ops a.tmps) = true := by rfl) (ho : o.op = .call { callee := .builtin .append, args := #[x, y], argTypes := #[t, tx] } := by rfl)
    (ht : TSlice P t e := by infer_instance) (htx : TRow P tx := by infer_instance) (he : TElem P e z size bytes := by infer_instance)
    (hx : slot a x = some v := by rfl) (hy : slot a y = some sv := by rfl)
    (hp : Pull (.orow e size v n xs) L F := by repeat (first | exact Pull.head | apply Pull.tail)) (hsz : 0 < size := by decide)
    (h63 : n + m ≤ maxLen := by (unfold maxLen; first | omega | (simp; omega))) (hb : (n + m) * bytes ≤ 140737488355328 := by first | omega | (simp; omega))
    (hput : ∀ v', Put a o.dst v' (a' v') := by (intro _; exact put_of (by conv => lhs; simp only [List.set_cons_succ, List.set_cons_zero]))) : wpList P ops Q (o :: rest) a w := by
  have hown : hasRow w e size v n xs := S.mem.2 _ hp.mem
  obtain ⟨v', w', hr, h1, h2, h3, h4⟩ := run_append_orow (P := P) (w := w) (t := t) (tx := tx) (ty := o.type) hsz hown hs h63 hb
  have S' : St w0 bs w' (.orow e size v' (n + m) (xs ++ news) :: F) := (S.perm hp.perm).set .head (Chg.grown h2) h1 h3
  have hsh : ∃ oa c, v' = .slice oa (n + m) c ∧ n + m ≤ c := by
    rcases h1.2 with ⟨h5, h6⟩ | ⟨g, o, cap, cur, h5, _, h6, _⟩
    · exact ⟨none, 0, by rw [h5, h6], by omega⟩
    · exact ⟨_, _, h5, h6⟩
  refine wpList_run hw (w' := w') (v := v') ?_ (by rw [(hput _).is]; exact k _ _ hsh S')
  simp [execOp, ho, resolve, invoke, builtin, eval_slot hx, eval_slot hy, hr]
/-- append(x, y...): y a block that is known whole. -/
theorem wpList_appORB {w0 : World} {bs : List Nat} {L F F' : List Res} (S : St w0 bs w L) {b m c : Nat} {cs : List Value} {T : TypeId} {fr : Nat × Nat} {size : Nat} {a' : Value → Act} {x y : Operand} {t tx e : TypeId} {z : Value} {bytes n : Nat} {v : Value} {xs : List Value}
    (k : ∀ v' w', (∃ oa c, v' = .slice oa (n + m) c ∧ n + m ≤ c) → St w0 bs w' (.orow e size v' (n + m) (xs ++ cs) :: F) → wpList P ops Q rest (a' v') w')
    (hw : Region.wanted o (yielded ops a.tmps) = true := by rfl) (ho : o.op = .call { callee := .builtin .append, args := #[x, y], argTypes := #[t, tx] } := by rfl)
    (ht : TSlice P t e := by infer_instance) (htx : TRow P tx := by infer_instance) (he : TElem P e z size bytes := by infer_instance)
    (hx : slot a x = some v := by rfl) (hy : slot a y = some (.slice (some ⟨b, 0, none⟩) m c) := by rfl)
    (hp : Pull (.orow e size v n xs) L F := by repeat (first | exact Pull.head | apply Pull.tail)) (hp' : Pull (.blk b (.cells cs.toArray T fr)) L F' := by repeat (first | exact Pull.head | apply Pull.tail)) (hl : cs.length = m * size := by rfl) (h1 : oneCells cs = true := by rfl) (hsz : 0 < size := by decide)
    (h63 : n + m ≤ maxLen := by (unfold maxLen; first | omega | (simp; omega))) (hb : (n + m) * bytes ≤ 140737488355328 := by first | omega | (simp; omega))
    (hput : ∀ v', Put a o.dst v' (a' v') := by (intro _; exact put_of (by conv => lhs; simp only [List.set_cons_succ, List.set_cons_zero]))) : wpList P ops Q (o :: rest) a w :=
  wpList_appOR S (S.src size hp' hl (oneCells_spec h1)) k hw ho ht htx he hx hy hp hsz h63 hb hput
/-- x[l:] of such a slice. -/
theorem wpList_slcOR {w0 : World} {bs : List Nat} {L F : List Res} (S : St w0 bs w L) {ty e : TypeId} {z : Value} {size bytes n : Nat} {v : Value} {xs : List Value} {x lo : Operand} {kl : IntKind} {l : Int} {a' : Value → Act} (lN : Nat)
    (k : ∀ v' w', (∃ oa c, v' = .slice oa (n - lN) c ∧ n - lN ≤ c) → St w0 bs w' (.orow e size v' (n - lN) (xs.drop (lN * size)) :: F) → wpList P ops Q rest (a' v') w')
    (hw : Region.wanted o (yielded ops a.tmps) = true := by rfl) (ho : o.op = .slice ty x (some lo) none none := by rfl) (ht : TSlice P ty e := by infer_instance) (he : TElem P e z size bytes := by infer_instance)
    (hx : slot a x = some v := by rfl) (hlo : slot a lo = some (.int kl l) := by rfl)
    (hp : Pull (.orow e size v n xs) L F := by repeat (first | exact Pull.head | apply Pull.tail))
    (hl : l.toNat = lN := by omega) (h0 : 0 ≤ l := by omega) (h1 : lN ≤ n := by omega) (h2 : 0 < n := by omega)
    (hput : ∀ v', Put a o.dst v' (a' v') := by (intro _; exact put_of (by conv => lhs; simp only [List.set_cons_succ, List.set_cons_zero]))) : wpList P ops Q (o :: rest) a w := by
  have hown : hasRow w e size v n xs := S.mem.2 _ hp.mem
  rcases hown.2 with ⟨_, h3⟩ | ⟨g, of, cap, cur, rfl, hg, h3, h4, h5, h6⟩
  · omega
  have hcs : lN * size + (cap - lN) * size = cap * size := by rw [← Nat.add_mul]; congr 1; omega
  have hns : n * size ≤ cap * size := Nat.mul_le_mul_right _ h3
  have hnl : n * size - lN * size = (n - lN) * size := (Nat.sub_mul n lN size).symm
  have hle2 : lN * size ≤ n * size := Nat.mul_le_mul_right _ h1
  have hr : ∃ v', (execOp a.eval o).run P w = .ok (.value v') w ∧ (∃ oa c, v' = .slice oa (n - lN) c ∧ n - lN ≤ c) ∧ hasRow w e size v' (n - lN) (xs.drop (lN * size)) ∧ v'.ownBlock = some g := by
    have hrun := run_slcT (P := P) (w := w) (o := o) (a := a) (size := size) x lo ho (eval_slot hx) (eval_slot hlo) h0 (by omega)
    rw [hl] at hrun
    unfold cutAt at hrun
    by_cases hc : cap = lN
    · rw [if_pos hc] at hrun
      refine ⟨_, hrun, ⟨_, _, rfl, by omega⟩, ⟨by rw [List.length_drop, hown.1, hnl], .inr ⟨g, of, _, cur, rfl, hg, by omega, by omega, by omega, ?_⟩⟩, rfl⟩
      have hz : (n - lN) * size = 0 := by rw [show n - lN = 0 by omega, Nat.zero_mul]
      rw [hz, List.take_zero, List.drop_eq_nil_of_le (by rw [hown.1, ← hc]; exact hns)]
    · rw [if_neg hc, Addr.add_lit] at hrun
      refine ⟨_, hrun, ⟨_, _, rfl, by omega⟩, ⟨by rw [List.length_drop, hown.1, hnl], .inr ⟨g, of + lN * size, _, cur, rfl, hg, by omega, by omega, by omega, ?_⟩⟩, rfl⟩
      rw [← h6, List.drop_take, List.drop_drop, hnl]
  obtain ⟨v', hrun, hsh, hrow, hfoot⟩ := hr
  have S' : St w0 bs w (.orow e size v' (n - lN) (xs.drop (lN * size)) :: F) := by
    have S2 := S.perm hp.perm
    refine ⟨⟨?_, fun r hr => ?_⟩, S2.chg, fun r hr b hb => ?_⟩
    · have := S2.mem.1
      rw [List.filterMap_cons, show (Res.orow e size v' (n - lN) (xs.drop (lN * size))).foot = some g from hfoot]
      rw [List.filterMap_cons] at this
      exact this
    · cases hr with
      | head => exact hrow
      | tail _ hr => exact S2.mem.2 r (List.mem_cons_of_mem _ hr)
    · cases hr with
      | head => exact S2.org _ List.mem_cons_self b (by rw [show (Res.orow e size v' (n - lN) (xs.drop (lN * size))).foot = some g from hfoot] at hb; exact hb)
      | tail _ hr => exact S2.org r (List.mem_cons_of_mem _ hr) b hb
  exact wpList_run hw hrun ((hput _).is ▸ k v' w hsh S')
/-- The slice that is nil. -/
theorem St.nilORow {w0 : World} {bs : List Nat} {L : List Res} (S : St w0 bs w L) (e : TypeId) (size : Nat) : St w0 bs w (.orow e size (.slice none 0 0) 0 [] :: L) :=
  S.add ⟨rfl, rfl, rfl, Nat.le_refl _, fun _ _ _ => rfl⟩ ⟨by simp, .inl ⟨rfl, rfl⟩⟩ (by simp [Res.foot, Value.ownBlock])
theorem St.orowSrc {w0 : World} {bs : List Nat} {L F : List Res} (S : St w0 bs w L) {e : TypeId} {v : Value} {n size : Nat} {xs : List Value} (hp : Pull (.orow e size v n xs) L F) (h1 : ∀ u ∈ xs, u.oneCell' = true) : Src w size v n xs :=
  Src.orow (S.mem.2 _ hp.mem) h1
theorem St.orowShape {w0 : World} {bs : List Nat} {L F : List Res} (S : St w0 bs w L) {e : TypeId} {v : Value} {n size : Nat} {xs : List Value} (hp : Pull (.orow e size v n xs) L F) : ∃ oa c, v = .slice oa n c ∧ n ≤ c := by
  rcases (S.mem.2 _ hp.mem : hasRow w e size v n xs).2 with ⟨h5, h6⟩ | ⟨g, o, cap, cur, h5, _, h6, _⟩
  · exact ⟨none, 0, by rw [h5, h6], by omega⟩
  · exact ⟨_, _, h5, h6⟩
/-- A load of a struct that was there ahead of all, in a region that draws. -/
theorem quiet_ldAc {w0 : World} {L : List Res} (S : St w0 [] w L) {K : Act → Prop} {a' : Act} {ty : TypeId} {x : Operand} {ad : Addr} {n : Nat} {cs : List Value}
    (k : K a') (hl : cs.length = n) (hc : ∀ j v, cs[j]? = some v → w0.cell? (ad.add j) = some v)
    (ho : o.op = .load ty x := by rfl) (hT0 : TAgg P ty n := by infer_instance) (ha : slot a x = some (.pointer (some ad)) := by rfl)
    (hput : Put a o.dst (.agg cs.toArray) a' := by exact put_of (by conv => lhs; simp only [List.set_cons_succ, List.set_cons_zero])) : o.quiet P a (fun w' => ∃ p : StW w w0 [] L, w' = p.w) K :=
  quiet_run (fun _ hS => have S := S.of hS; run_ldA ty x ho (eval_slot ha) hl fun j v hv => S.chg.cell (hc j v hv) (by simp)) (hput.is ▸ k)
/-- A load of the first element of such a slice. -/
theorem wpList_ldO0 {w0 : World} {bs : List Nat} {L F : List Res} (S : St w0 bs w L) {a' : Act} {ty e : TypeId} {x : Operand} {ad : Addr} {n c size : Nat} {xs cs : List Value}
    (k : wpList P ops Q rest a' w) (hcs : cs.length = size) (hx : ∃ more, xs = cs ++ more) (ha : slot a x = some (.pointer (some ad)))
    (hw : Region.wanted o (yielded ops a.tmps) = true := by rfl) (ho : o.op = .load ty x := by rfl) (hT0 : TAgg P ty size := by infer_instance)
    (hp : Pull (.orow e size (.slice (some ad) n c) n xs) L F := by repeat (first | exact Pull.head | apply Pull.tail))
    (hput : Put a o.dst (.agg cs.toArray) a' := by exact put_of (by conv => lhs; simp only [List.set_cons_succ, List.set_cons_zero])) : wpList P ops Q (o :: rest) a w := by
  obtain ⟨g, of, hg⟩ : ∃ g of, ad = ⟨g, of, none⟩ := by
    rcases (S.mem.2 _ hp.mem : hasRow w e size (.slice (some ad) n c) n xs).2 with ⟨h5, _⟩ | ⟨g, of, cap, cur, h5, _⟩
    · cases h5
    · cases h5; exact ⟨g, of, rfl⟩
  subst hg
  have hcell := hasRow.cells (S.mem.2 _ hp.mem : hasRow w e size (.slice (some ⟨g, of, none⟩) n c) n xs)
  obtain ⟨more, rfl⟩ := hx
  exact wpList_run hw (run_ldA ty x ho (eval_slot ha) hcs fun j v hv => hcell j v (by rw [List.getElem?_append_left (List.getElem?_eq_some_iff.1 hv).1]; exact hv)) (hput.is ▸ k)
end
end Go.Vil
