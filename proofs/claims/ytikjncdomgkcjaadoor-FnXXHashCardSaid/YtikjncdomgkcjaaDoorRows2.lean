/- Laws of slices: literals, append, copy, conversions, over any program. -/
import Derived.Test.YtikjncdomgkcjaaDoorDraw
import Derived.Test.YtikjncdomgkcjaaDoorPlain
namespace Go.Vil
open Go Go.RowKit
set_option linter.unusedSimpArgs false
set_option linter.unusedVariables false

theorem retI {k : IntKind} {a b : Int} (h : a = b) : Ending.returned (.int k a) = .returned (.int k b) := by rw [h]
theorem retB {a b : Bool} (h : a = b) : Ending.returned (.bool a) = .returned (.bool b) := by rw [h]
theorem hidden {p : Prop} (h : p) : Hid p := h

/-! ### Slices written out -/
theorem foldl_set (off : Nat) : ∀ (l : List Value) (k : Nat) (cs : Array Value), off + k + l.length ≤ cs.size →
    ((l.zipIdx k).foldl (fun (cs : Array Value) (x : Value × Nat) => cs.setIfInBounds (off + x.2) x.1) cs).toList = splice cs.toList (off + k) l
  | [], k, cs, _ => by simp [splice_nil]
  | v :: l, k, cs, h => by
    simp only [List.zipIdx_cons, List.foldl_cons]
    rw [foldl_set off l (k + 1) _ (by simp at h ⊢; omega)]
    simp only [Array.toList_setIfInBounds]
    rw [set_one _ _ _ (by simp at h ⊢; omega)]
    have := splice_splice cs.toList (off + k) [v] l (by simp at h ⊢; omega)
    simpa [Nat.add_assoc] using this

theorem flat_length (size : Nat) : ∀ (vs : List Value), (∀ v ∈ vs, v.cells.size = size) → (vs.flatMap fun v => v.cells.toList).length = vs.length * size
  | [], _ => by simp
  | v :: vs, h => by
    have h1 := h v List.mem_cons_self
    have h2 := flat_length size vs (fun x hx => h x (List.mem_cons_of_mem _ hx))
    rw [List.flatMap_cons, List.length_append, h2, List.length_cons, Nat.add_mul]
    simp [h1]; omega

theorem fill_full (size : Nat) : ∀ (vs : List Value) (k : Nat) (cur : Array Value), (∀ v ∈ vs, v.cells.size = size) → k * size + vs.length * size ≤ cur.size →
    Instr.fill (fun i => some (i * size, size)) cur ((vs.zipIdx k).map fun x => (x.2, x.1)) = some (splice cur.toList (k * size) (vs.flatMap fun v => v.cells.toList)).toArray
  | [], k, cur, _, _ => by simp [Instr.fill, splice_nil]
  | v :: vs, k, cur, hv, h => by
    have h1 := hv v List.mem_cons_self
    have hk : (k + 1) * size = k * size + size := by rw [Nat.add_mul]; simp
    have hvs : (vs.length + 1) * size = vs.length * size + size := by rw [Nat.add_mul]; simp
    simp only [List.length_cons, hvs] at h
    have hf := foldl_set (k * size) v.cells.toList 0 cur (by simp [h1]; omega)
    simp only [Nat.add_zero] at hf
    have hz : v.cells.zipIdx.foldl (fun cs x => cs.setIfInBounds (k * size + x.2) x.1) cur = (splice cur.toList (k * size) v.cells.toList).toArray := by
      apply Array.ext'
      rw [← hf, ← Array.foldl_toList]
      simp
    have hl := flat_length size vs (fun x hx => hv x (List.mem_cons_of_mem _ hx))
    have hs := splice_splice cur.toList (k * size) v.cells.toList (vs.flatMap fun v => v.cells.toList) (by simp only [Array.length_toList, h1, hl]; omega)
    have hlen : (splice cur.toList (k * size) v.cells.toList).length = cur.size := by rw [splice_length _ _ _ (by simp [h1]; omega)]; simp
    have ih := fill_full size vs (k + 1) (splice cur.toList (k * size) v.cells.toList).toArray (fun x hx => hv x (List.mem_cons_of_mem _ hx)) (by
      simp only [List.size_toArray, hlen]
      omega)
    simp only [List.zipIdx_cons, List.map_cons, Instr.fill, h1]
    have hc : (decide (size ≠ size) || decide (k * size + size > cur.size)) = false := by simp; omega
    rw [hc]
    simp only [Bool.false_eq_true, if_false, hz, ih]
    simp only [hk]
    rw [show k * size + size = k * size + v.cells.toList.length by simp [h1], hs]
    simp

/-- The values of some operands. -/
def slots (a : Act) : List (Nat × Operand) → Option (List Value)
  | [] => some []
  | (_, x) :: l => match slot a x, slots a l with
    | some v, some vs => some (v :: vs)
    | _, _ => none
def countUp : Nat → List (Nat × Operand) → Bool
  | _, [] => true
  | k, (i, _) :: l => i == k && countUp (k + 1) l
theorem slots_eq {a : Act} : ∀ {l : List (Nat × Operand)} {k : Nat} {vs : List Value}, slots a l = some vs → countUp k l = true → l.map (fun (i, x) => (i, a.eval x)) = (vs.zipIdx k).map fun x => (x.2, x.1)
  | [], k, vs, h, _ => by simp only [slots, Option.some.injEq] at h; subst h; rfl
  | (i, x) :: l, k, vs, h, hc => by
    simp only [slots] at h
    simp only [countUp, Bool.and_eq_true, beq_iff_eq] at hc
    cases hx : slot a x with
    | none => simp [hx] at h
    | some v =>
      cases hl : slots a l with
      | none => simp [hx, hl] at h
      | some us =>
        simp only [hx, hl, Option.some.injEq] at h
        subst h
        have := slots_eq hl hc.2
        simp only [List.map_cons, List.zipIdx_cons, this, eval_slot hx, hc.1]

def allSize (size : Nat) : List Value → Bool
  | [] => true
  | v :: l => v.cells.size == size && allSize size l
theorem allSize_spec {size : Nat} : ∀ {l : List Value}, allSize size l = true → ∀ v ∈ l, v.cells.size = size
  | [], _, v, h => by cases h
  | u :: l, hs, v, h => by
    simp only [allSize, Bool.and_eq_true, beq_iff_eq] at hs
    cases h with
    | head => exact hs.1
    | tail _ h => exact allSize_spec hs.2 v h

theorem splice_all {α : Type} (l xs : List α) (h : xs.length = l.length) : splice l 0 xs = xs := by
  simp [splice, h]

section
variable {P : Program} {ops : Array Oper} {Q : Exit → Act → World → Prop} {rest : List Oper} {o : Oper} {a : Act} {w w' : World}

/-- []T{x, y, ..}. -/
theorem wpList_bs {w0 : World} {bs : List Nat} {L : List Res} (S : St w0 bs w L) {a' : Nat → Act} {ty e : TypeId} {len : Nat} {parts : List (Nat × Operand)} {z : Value} {size bytes : Nat} {vs cs : List Value}
    (k : ∀ n w', w0.heap.size ≤ n → St w0 bs w' (.blk n (.cells cs.toArray e (0, 0)) :: L) → wpList P ops Q rest (a' n) w')
    (hw : Region.wanted o (yielded ops a.tmps) = true := by rfl) (ho : o.op = .buildSlice ty len parts.toArray := by rfl) (ht : TSlice P ty e := by infer_instance) (he : TElem P e z size bytes := by infer_instance)
    (hv : slots a parts = some vs := by rfl) (hc : countUp 0 parts = true := by rfl) (hn : vs.length = len := by rfl) (hs : allSize size vs = true := by rfl) (hcs : vs.flatMap (fun v => v.cells.toList) = cs := by conv => lhs; simp only [List.flatMap_cons, List.flatMap_nil, Value.cells, List.cons_append, List.nil_append, List.append_nil]) (hb : len * size ≤ 16777216 := by decide)
    (hput : ∀ n, Put a o.dst (.slice (some ⟨n, 0, none⟩) len len) (a' n) := by (intro _; exact put_of (by conv => lhs; simp only [List.set_cons_succ, List.set_cons_zero]))) : wpList P ops Q (o :: rest) a w := by
  refine wpList_run hw (w' := w.alloc (.cells cs.toArray e)) (v := .slice (some ⟨w.heap.size, 0, none⟩) len len) ?_ (by rw [(hput _).is]; exact k _ _ S.chg.size (S.alloc _))
  obtain ⟨i, hi, hz, hsz, hby, hzs⟩ := he.is
  have hcl : cs.length = len * size := by rw [← hcs, flat_length size vs (allSize_spec hs), hn]
  have hp : (parts.toArray.map fun (i, x) => (i, a.eval x)).toList = (vs.zipIdx 0).map fun x => (x.2, x.1) := by
    rw [← slots_eq hv hc]; simp
  have hfill : ∀ cur : Array Value, cur.size = len * size → Instr.fill (fun i => some (i * size, size)) cur ((vs.zipIdx 0).map fun x => (x.2, x.1)) = some cs.toArray := by
    intro cur hcur
    rw [fill_full size vs 0 cur (allSize_spec hs) (by rw [hn, hcur]; omega), hcs]
    simp only [Nat.zero_mul]
    rw [splice_all _ _ (by simp [hcl, hcur])]
  have hb' : ¬ (16777216 < len * size) := by omega
  subst hsz
  by_cases h0 : len * i.size = 0
  · simp [execOp, ho, Instr.buildSlice, run_underlying ht.is, sizeOf, typeInfo, hi, h0, newRow] at hp ⊢
    rw [hp, hfill _ (by simp [h0])]
    simp
  · simp [execOp, ho, Instr.buildSlice, run_underlying ht.is, sizeOf, typeInfo, hi, hb', zeroValue, hz, h0, newRow] at hp ⊢
    rw [hp, hfill _ (by simp)]
    simp

/-! ### Sources of appends and copies -/
/-- A slice or a string that reads as cells: n elements. -/
def Src (w : World) (size : Nat) (v : Value) (n : Nat) (xs : List Value) : Prop :=
  xs.length = n * size ∧ (∀ u ∈ xs, u.oneCell' = true) ∧
  match v with
  | .slice (some ad) m _ => m = n ∧ ∀ j u, xs[j]? = some u → w.cell? (ad.add j) = some u
  | .slice none m _ => m = n ∧ xs = []
  | .string s => size = 1 ∧ xs = u8s s.data.toList
  | _ => False

theorem Src.string (w : World) (s : ByteArray) : Src w 1 (.string s) s.size (u8s s.data.toList) := ⟨by simp, u8s_one _, rfl, rfl⟩
theorem Src.nil (w : World) (size c : Nat) : Src w size (.slice none 0 c) 0 [] := ⟨by simp, by simp, rfl, rfl⟩
theorem Src.cells {w : World} {size n c : Nat} {ad : Addr} {xs : List Value} (hl : xs.length = n * size) (h1 : ∀ u ∈ xs, u.oneCell' = true) (h : ∀ j u, xs[j]? = some u → w.cell? (ad.add j) = some u) : Src w size (.slice (some ad) n c) n xs := ⟨hl, h1, rfl, h⟩

theorem Src.lenOf {size : Nat} {v : Value} {n : Nat} {xs : List Value} (h : Src w size v n xs) (hs : v = v) : (Builtin.lenOf v).run P w' = .ok n w' := by
  obtain ⟨hl, _, hm⟩ := h
  match v, hm with
  | .slice (some ad) m c, ⟨e, _⟩ => subst e; simp [Builtin.lenOf]
  | .slice none m c, ⟨e, _⟩ => subst e; simp [Builtin.lenOf]
  | .string s, ⟨e, hx⟩ =>
    subst e hx
    have : s.size = n := by simpa using hl
    simp [Builtin.lenOf, this]

theorem Src.first {size : Nat} {v : Value} {n : Nat} {xs : List Value} (h : Src w size v n xs) (hc : ∀ ad x, w.cell? ad = some x → w'.cell? ad = some x) (k : Nat) (hk : k ≤ n) : (Builtin.firstCells size k v).run P w' = .ok (xs.take (k * size)).toArray w' := by
  obtain ⟨hl, _, hm⟩ := h
  have hks : k * size ≤ n * size := Nat.mul_le_mul_right _ hk
  match v, hm with
  | .slice (some ad) m c, ⟨e, hx⟩ =>
    have := run_loadCells_list (P := P) w' ad (xs.take (k * size)) (fun j u hu => by
      rw [List.getElem?_take] at hu
      split at hu
      · exact hc _ _ (hx j u hu)
      · cases hu)
    rw [List.length_take, show min (k * size) xs.length = k * size by omega] at this
    simp [Builtin.firstCells, this]
  | .slice none m c, ⟨e, hx⟩ => subst hx; simp [Builtin.firstCells]
  | .string s, ⟨e, hx⟩ =>
    subst e hx
    simp only [Builtin.firstCells, Sem.run_pure]
    congr 1
    apply Array.ext'
    have hsz : s.size = n := by simpa using hl
    simp only [Nat.mul_one, u8s, Array.toList_map]
    rw [← List.map_take]
    congr 1
    simp [ByteArray.data_extract]

/-! ### Append to a row that the call owns -/
theorem run_append_row {t tx ty e : TypeId} {z : Value} {size bytes : Nat} [ht : TSlice P t e] [hx : TRow P tx] [he : TElem P e z size bytes] (hsz : 0 < size) {v : Value} {n : Nat} {xs : List Value} (hown : w.ownsRow 0 e size v n xs)
    {sv : Value} {m : Nat} {news : List Value} (hs : Src w size sv m news) (h63 : n + m ≤ maxLen) (hbytes : (n + m) * bytes ≤ 140737488355328) :
    ∃ v' w', (Builtin.append_ #[t, tx] ty #[v, sv]).run P w = .ok v' w' ∧ w'.ownsRow 0 e size v' (n + m) (xs ++ news) ∧ w.grownBy w' v.ownBlock ∧ (∀ b, v'.ownBlock = some b → v.ownBlock = some b ∨ w.heap.size ≤ b) ∧ (v' = .slice none 0 0 ↔ n + m = 0 ∧ v = .slice none 0 0) := by
  obtain ⟨i, hi, hz, hsize, hby, hzs⟩ := he.is
  obtain ⟨d, hd, hdi⟩ := hx.is
  subst hsize hby
  have hsmall : n + m ≤ 9223372036854775807 := by simp only [maxLen] at h63; omega
  have hlen : (xs ++ news).length = (n + m) * i.size := by rw [List.length_append, hown.1, hs.1, Nat.add_mul]
  have hnl : (Builtin.lenOf sv).run P w = .ok m w := hs.lenOf (w' := w) rfl
  have hzero : (match d with | .int _ => true | _ => false) = false := by
    cases d <;> first | rfl | exact absurd rfl (hdi _)
  have hnf : ∀ w', (∀ ad x, w.cell? ad = some x → w'.cell? ad = some x) → (Builtin.firstCells i.size m sv).run P w' = .ok news.toArray w' := fun w' hc => by
    have := hs.first (P := P) hc m (Nat.le_refl _)
    rwa [List.take_of_length_le (by rw [hs.1]; exact Nat.le_refl _)] at this
  have hn1 := hnf w (fun _ _ h => h)
  have hn2 := hnf w.drew (fun _ _ h => h)
  have grown : ∀ (old : Nat), old < n + m → ∀ (row : Option Nat),
      (w.drew.alloc (.cells (xs.toArray ++ news.toArray ++ Builtin.zeroCells z.cells (grownCap w (n + m) old e - (n + m))) e)).ownsRow 0 e i.size
        (.slice (some ⟨w.heap.size, 0, none⟩) (n + m) (grownCap w (n + m) old e)) (n + m) (xs ++ news) ∧
      w.grownBy (w.drew.alloc (.cells (xs.toArray ++ news.toArray ++ Builtin.zeroCells z.cells (grownCap w (n + m) old e - (n + m))) e)) row := by
    intro old ho row
    have hge := grownCap_ge w (n + m) old e
    have hcm : grownCap w (n + m) old e ≤ maxLen := grownCap_le_maxLen w (n + m) old e h63
    refine ⟨⟨hlen, .inr ⟨w.heap.size, _, _, rfl, Nat.zero_le _, heap_alloc_new w.drew _, hge, hcm, ?_, ?_⟩⟩, ⟨rfl, rfl, rfl, by simp, fun k hk _ => Below.heap_alloc w.drew _ k hk⟩⟩
    · simp only [Array.size_append, List.size_toArray, size_zeroCells, hzs, hown.1, hs.1, ← Nat.add_mul]
      congr 1
      omega
    · simp only [Array.toList_append, List.append_assoc]
      rw [← List.append_assoc, ← hlen]
      exact List.take_left
  rcases hown.2 with ⟨rfl, rfl⟩ | ⟨g, cap, cur, rfl, hbg, hg, hnc, hcm, hcs, htake⟩
  · have hx0 : xs = [] := List.eq_nil_of_length_eq_zero (by simpa using hown.1)
    subst hx0
    by_cases hm : m = 0
    · subst hm
      have hn : news = [] := List.eq_nil_of_length_eq_zero (by simpa using hs.1)
      subst hn
      refine ⟨.slice none 0 0, w, ?_, World.ownsRow_nil w 0 e i.size, ⟨rfl, rfl, rfl, Nat.le_refl _, fun _ _ _ => rfl⟩, by simp [Value.ownBlock], by simp⟩
      simp [Builtin.append_, run_underlying ht.is, run_underlying hd, sizeOf, typeInfo, hi, hnl, hn1, hzero]
    · have hm0 : ¬ m = 0 := hm
      have h63' : ¬ (9223372036854775807 < (m : Int)) := by omega
      have h48' : ¬ (281474976710656 < Builtin.nextslicecap m 0 * i.bytes) := by rw [nextslicecap_zero (by omega)]; simp only [Nat.zero_add] at hbytes; omega
      have hgr := grown 0 (by omega) (Value.ownBlock (.slice none 0 0))
      simp only [Nat.zero_add, List.nil_append] at hgr
      refine ⟨_, _, ?_, by simpa using hgr.1, by simpa using hgr.2, fun b hb => by simp only [Value.ownBlock, Option.some.injEq] at hb; subst hb; exact .inr (Nat.le_refl _), by simp [hm0]⟩
      simp [Builtin.append_, run_underlying ht.is, run_underlying hd, sizeOf, typeInfo, zeroValue, hi, hz, hnl, hm0, h63', h48', hzero, Question.forced, run_firstCells_none, hn2, newRow, grownCap]
  · by_cases hroom : n + m ≤ cap
    · have hfit : n * i.size + news.length ≤ cur.size := by rw [hs.1, hcs, ← Nat.add_mul]; exact Nat.mul_le_mul_right _ hroom
      have hst := run_storeCells_at P g (n * i.size) e news 0 cur w hg (by simpa using hfit) hs.2.1
      simp only [Nat.add_zero] at hst
      refine ⟨.slice (some ⟨g, 0, none⟩) (n + m) cap, w.setRow g (cur.toList.take (n * i.size) ++ news ++ cur.toList.drop (n * i.size + news.length)).toArray, ?_, ⟨hlen, .inr ⟨g, cap, _, rfl, hbg, setRow_heap w g cur _ e _ hg, hroom, hcm, ?_, ?_⟩⟩,
        ⟨rfl, rfl, rfl, by simp, fun k _ hk => setRow_other w g k _ (fun e => hk (by simp [Value.ownBlock, e]))⟩, fun b hb => .inl hb, by simp⟩
      · simp [Builtin.append_, run_underlying ht.is, run_underlying hd, sizeOf, typeInfo, hi, hnl, hroom, hn1, hzero, Addr.add_lit, hst]
      · simp only [List.size_toArray, List.length_append, List.length_take, List.length_drop, Array.length_toList]
        omega
      · rw [htake, ← hlen]
        exact List.take_left
    · have holds : ∀ j u, xs[j]? = some u → w.cell? ((⟨g, 0, none⟩ : Addr).add j) = some u := hown.cells (g := g) rfl
      have hold := run_firstCells_some (P := P) w.drew i.size n ⟨g, 0, none⟩ n cap xs hown.1 (by simpa using holds)
      have hnr : ¬ (n + m ≤ cap) := hroom
      have h63' : ¬ (9223372036854775807 < ((n : Int) + (m : Int))) := by omega
      have h48' : ¬ (281474976710656 < Builtin.nextslicecap (n + m) cap * i.bytes) := by have := growslice_fits (bytes := i.bytes) (show cap < n + m by omega) hbytes; omega
      have hgr := grown cap (by omega) (Value.ownBlock (.slice (some ⟨g, 0, none⟩) n cap))
      refine ⟨_, _, ?_, hgr.1, hgr.2, fun b hb => by simp only [Value.ownBlock, Option.some.injEq] at hb; subst hb; exact .inr (Nat.le_refl _), by simp⟩
      simp [Builtin.append_, run_underlying ht.is, run_underlying hd, sizeOf, typeInfo, zeroValue, hi, hz, hnl, hnr, h63', h48', hzero, Question.forced, hn2, hold, newRow, grownCap]
      congr 2
      apply Array.ext'
      simp


/-- append(x, y...): x a row of the call's own. -/
theorem wpList_app {w0 : World} {bs : List Nat} {L F : List Res} (S : St w0 bs w L) {sv : Value} {m : Nat} {news : List Value} {size : Nat} (hs : Src w size sv m news) {a' : Value → Act} {x y : Operand} {t tx e : TypeId} {z : Value} {bytes n : Nat} {v : Value} {xs : List Value}
    (k : ∀ v' w', (v' = .slice none 0 0 ↔ n + m = 0 ∧ v = .slice none 0 0) → St w0 bs w' (.row e size v' (n + m) (xs ++ news) :: F) → wpList P ops Q rest (a' v') w')
    (hw : Region.wanted o (yielded ops a.tmps) = true := by rfl) (ho : o.op = .call { callee := .builtin .append, args := #[x, y], argTypes := #[t, tx] } := by rfl)
    (ht : TSlice P t e := by infer_instance) (htx : TRow P tx := by infer_instance) (he : TElem P e z size bytes := by infer_instance)
    (hx : slot a x = some v := by rfl) (hy : slot a y = some sv := by rfl)
    (hp : Pull (.row e size v n xs) L F := by repeat (first | exact Pull.head | apply Pull.tail)) (hsz : 0 < size := by decide)
    (h63 : n + m ≤ maxLen := by (unfold maxLen; first | omega | (simp; omega))) (hb : (n + m) * bytes ≤ 140737488355328 := by first | omega | (simp; omega))
    (hput : ∀ v', Put a o.dst v' (a' v') := by (intro _; exact put_of (by conv => lhs; simp only [List.set_cons_succ, List.set_cons_zero]))) : wpList P ops Q (o :: rest) a w := by
  have hown : w.ownsRow 0 e size v n xs := S.mem.2 _ hp.mem
  obtain ⟨v', w', hr, h1, h2, h3, h4⟩ := run_append_row (P := P) (w := w) (t := t) (tx := tx) (ty := o.type) hsz hown hs h63 hb
  have S' : St w0 bs w' (.row e size v' (n + m) (xs ++ news) :: F) := (S.perm hp.perm).set .head (Chg.grown h2) h1 h3
  refine wpList_run hw (w' := w') (v := v') ?_ (by rw [(hput _).is]; exact k _ _ h4 S')
  simp [execOp, ho, resolve, invoke, builtin, eval_slot hx, eval_slot hy, hr]

/-- What a block that is known whole is as a source. -/
theorem St.src {w0 : World} {bs : List Nat} {L F : List Res} (S : St w0 bs w L) {b m c : Nat} {cs : List Value} {T : TypeId} {fr : Nat × Nat} (size : Nat) (hp : Pull (.blk b (.cells cs.toArray T fr)) L F) (hl : cs.length = m * size) (h1 : ∀ u ∈ cs, u.oneCell' = true) :
    Src w size (.slice (some ⟨b, 0, none⟩) m c) m cs :=
  Src.cells hl h1 fun j u hu => by rw [Addr.add_lit, cell_at (S.blk hp)]; simpa using hu
/-- A part of a block of bytes as a source. -/
theorem St.src8 {w0 : World} {bs : List Nat} {L F : List Res} (S : St w0 bs w L) {b o m c : Nat} {l : List UInt8} {T : TypeId} {fr : Nat × Nat} (hp : Pull (.blk b (.cells (u8s l).toArray T fr)) L F) (hl : o + m ≤ l.length) :
    Src w 1 (.slice (some ⟨b, o, none⟩) m c) m (u8s ((l.drop o).take m)) :=
  Src.cells (by simp; omega) (u8s_one _) fun j u hu => by
    rw [Addr.add_lit, cell_at (S.blk hp)]
    rw [u8s_take, List.getElem?_take] at hu
    split at hu
    · rw [u8s_drop, List.getElem?_drop] at hu; simpa using hu
    · cases hu

def oneCells : List Value → Bool
  | [] => true
  | v :: l => v.oneCell' && oneCells l
theorem oneCells_spec : ∀ {l : List Value}, oneCells l = true → ∀ u ∈ l, u.oneCell' = true
  | [], _, v, h => by cases h
  | u :: l, hs, v, h => by
    simp only [oneCells, Bool.and_eq_true] at hs
    cases h with
    | head => exact hs.1
    | tail _ h => exact oneCells_spec hs.2 v h

/-- append(x, y...): y a block that is known whole (a literal: 'append(x, a, b)'). -/
theorem wpList_appB {w0 : World} {bs : List Nat} {L F F' : List Res} (S : St w0 bs w L) {b m c : Nat} {cs : List Value} {T : TypeId} {fr : Nat × Nat} {size : Nat} {a' : Value → Act} {x y : Operand} {t tx e : TypeId} {z : Value} {bytes n : Nat} {v : Value} {xs : List Value}
    (k : ∀ v' w', (v' = .slice none 0 0 ↔ n + m = 0 ∧ v = .slice none 0 0) → St w0 bs w' (.row e size v' (n + m) (xs ++ cs) :: F) → wpList P ops Q rest (a' v') w')
    (hw : Region.wanted o (yielded ops a.tmps) = true := by rfl) (ho : o.op = .call { callee := .builtin .append, args := #[x, y], argTypes := #[t, tx] } := by rfl)
    (ht : TSlice P t e := by infer_instance) (htx : TRow P tx := by infer_instance) (he : TElem P e z size bytes := by infer_instance)
    (hx : slot a x = some v := by rfl) (hy : slot a y = some (.slice (some ⟨b, 0, none⟩) m c) := by rfl)
    (hp : Pull (.row e size v n xs) L F := by repeat (first | exact Pull.head | apply Pull.tail)) (hp' : Pull (.blk b (.cells cs.toArray T fr)) L F' := by repeat (first | exact Pull.head | apply Pull.tail)) (hl : cs.length = m * size := by rfl) (h1 : oneCells cs = true := by rfl) (hsz : 0 < size := by decide)
    (h63 : n + m ≤ maxLen := by (unfold maxLen; first | omega | (simp; omega))) (hb : (n + m) * bytes ≤ 140737488355328 := by first | omega | (simp; omega))
    (hput : ∀ v', Put a o.dst v' (a' v') := by (intro _; exact put_of (by conv => lhs; simp only [List.set_cons_succ, List.set_cons_zero]))) : wpList P ops Q (o :: rest) a w :=
  wpList_app S (S.src size hp' hl (oneCells_spec h1)) k hw ho ht htx he hx hy hp hsz h63 hb hput
theorem St.src8w {w0 : World} {bs : List Nat} {L F : List Res} (S : St w0 bs w L) {b m c : Nat} {l : List UInt8} {T : TypeId} {fr : Nat × Nat} (hp : Pull (.blk b (.cells (u8s l).toArray T fr)) L F) (hl : l.length = m) :
    Src w 1 (.slice (some ⟨b, 0, none⟩) m c) m (u8s l) :=
  S.src 1 hp (by simp [hl]) (u8s_one _)
/-- append(x, y...): y a block of bytes that is known whole. -/
theorem wpList_app8 {w0 : World} {bs : List Nat} {L F F' : List Res} (S : St w0 bs w L) {b m c : Nat} {l : List UInt8} {T : TypeId} {fr : Nat × Nat} {a' : Value → Act} {x y : Operand} {t tx e : TypeId} {z : Value} {bytes n : Nat} {v : Value} {xs : List Value}
    (k : ∀ v' w', (v' = .slice none 0 0 ↔ n + m = 0 ∧ v = .slice none 0 0) → St w0 bs w' (.row e 1 v' (n + m) (xs ++ u8s l) :: F) → wpList P ops Q rest (a' v') w')
    (hw : Region.wanted o (yielded ops a.tmps) = true := by rfl) (ho : o.op = .call { callee := .builtin .append, args := #[x, y], argTypes := #[t, tx] } := by rfl)
    (ht : TSlice P t e := by infer_instance) (htx : TRow P tx := by infer_instance) (he : TElem P e z 1 bytes := by infer_instance)
    (hx : slot a x = some v := by rfl) (hy : slot a y = some (.slice (some ⟨b, 0, none⟩) m c) := by rfl)
    (hp : Pull (.row e 1 v n xs) L F := by repeat (first | exact Pull.head | apply Pull.tail)) (hp' : Pull (.blk b (.cells (u8s l).toArray T fr)) L F' := by repeat (first | exact Pull.head | apply Pull.tail)) (hl : l.length = m := by (first | rfl | (simp; done) | omega))
    (h63 : n + m ≤ maxLen := by (unfold maxLen; first | omega | (simp; omega))) (hb : (n + m) * bytes ≤ 140737488355328 := by first | omega | (simp; omega))
    (hput : ∀ v', Put a o.dst v' (a' v') := by (intro _; exact put_of (by conv => lhs; simp only [List.set_cons_succ, List.set_cons_zero]))) : wpList P ops Q (o :: rest) a w :=
  wpList_app S (S.src8w hp' hl) k hw ho ht htx he hx hy hp (by decide) h63 hb hput
/-- append(x, s...): s a string. -/
theorem wpList_appS {w0 : World} {bs : List Nat} {L F : List Res} (S : St w0 bs w L) {s : ByteArray} {a' : Value → Act} {x y : Operand} {t tx e : TypeId} {z : Value} {bytes n : Nat} {v : Value} {xs : List Value}
    (k : ∀ v' w', (v' = .slice none 0 0 ↔ n + s.size = 0 ∧ v = .slice none 0 0) → St w0 bs w' (.row e 1 v' (n + s.size) (xs ++ u8s s.data.toList) :: F) → wpList P ops Q rest (a' v') w')
    (hw : Region.wanted o (yielded ops a.tmps) = true := by rfl) (ho : o.op = .call { callee := .builtin .append, args := #[x, y], argTypes := #[t, tx] } := by rfl)
    (ht : TSlice P t e := by infer_instance) (htx : TRow P tx := by infer_instance) (he : TElem P e z 1 bytes := by infer_instance)
    (hx : slot a x = some v := by rfl) (hy : slot a y = some (.string s) := by rfl)
    (hp : Pull (.row e 1 v n xs) L F := by repeat (first | exact Pull.head | apply Pull.tail))
    (h63 : n + s.size ≤ maxLen := by (unfold maxLen; first | omega | (simp; omega))) (hb : (n + s.size) * bytes ≤ 140737488355328 := by first | omega | (simp; omega))
    (hput : ∀ v', Put a o.dst v' (a' v') := by (intro _; exact put_of (by conv => lhs; simp only [List.set_cons_succ, List.set_cons_zero]))) : wpList P ops Q (o :: rest) a w :=
  wpList_app S (Src.string w s) k hw ho ht htx he hx hy hp (by decide) h63 hb hput
/-- append(x, y...): y a row of the call's own, the two apart. -/
theorem Src.row {size : Nat} {e : TypeId} {v : Value} {n : Nat} {xs : List Value} (h : w.ownsRow 0 e size v n xs) (h1 : ∀ u ∈ xs, u.oneCell' = true) : Src w size v n xs := by
  rcases h.2 with ⟨rfl, rfl⟩ | ⟨g, cap, cur, rfl, _, hg, _, _, _, ht⟩
  · have : xs = [] := List.eq_nil_of_length_eq_zero (by simpa using h.1)
    subst this; exact Src.nil w size 0
  · exact Src.cells h.1 h1 fun j u hu => h.cells (g := g) rfl j u hu

/-! ### From one way of saying to another -/
/-- A block that is known, as a row. -/
theorem St.toRow {w0 : World} {bs : List Nat} {L F : List Res} (S : St w0 bs w L) {b n cap : Nat} {cs : List Value} {e : TypeId} (size : Nat) (hp : Pull (.blk b (.cells cs.toArray e (0, 0))) L F) (hl : cs.length = cap * size) (hn : n ≤ cap) (hc : cap ≤ maxLen) :
    St w0 bs w (.row e size (.slice (some ⟨b, 0, none⟩) n cap) n (cs.take (n * size)) :: F) := by
  have hb := S.blk hp
  have S' := S.perm hp.perm
  refine ⟨⟨S'.mem.1, fun r hr => ?_⟩, S'.chg, fun r hr x hx => ?_⟩
  · cases hr with
    | head => exact ⟨by rw [List.length_take, hl]; exact Nat.min_eq_left (Nat.mul_le_mul_right _ hn), .inr ⟨b, cap, cs.toArray, rfl, Nat.zero_le _, hb, hn, hc, by simpa using hl, by simp⟩⟩
    | tail _ hr => exact S'.mem.2 r (List.mem_cons_of_mem _ hr)
  · cases hr with
    | head => exact S'.org (.blk b _) List.mem_cons_self x hx
    | tail _ hr => exact S'.org r (List.mem_cons_of_mem _ hr) x hx
/-- A block of bytes, as a row. -/
theorem St.toRow8 {w0 : World} {bs : List Nat} {L F : List Res} (S : St w0 bs w L) {b n : Nat} {l : List UInt8} {e : TypeId} (hp : Pull (.blk b (.cells (u8s l).toArray e (0, 0))) L F) (hl : l.length = n) (hc : n ≤ maxLen) :
    St w0 bs w (.row e 1 (.slice (some ⟨b, 0, none⟩) n n) n (u8s l) :: F) := by
  have := S.toRow 1 (n := n) (cap := n) hp (by simp [hl]) (Nat.le_refl _) hc
  rwa [List.take_of_length_le (by simp [hl])] at this
/-- The row that is nil. -/
theorem St.nilRow {w0 : World} {bs : List Nat} {L : List Res} (S : St w0 bs w L) (e : TypeId) (size : Nat) : St w0 bs w (.row e size (.slice none 0 0) 0 [] :: L) :=
  S.add ⟨rfl, rfl, rfl, Nat.le_refl _, fun _ _ _ => rfl⟩ (World.ownsRow_nil w 0 e size) (by simp [Res.foot, Value.ownBlock])
/-- A row that isn't nil is a block. -/
theorem St.ofRow {w0 : World} {bs : List Nat} {L F : List Res} (S : St w0 bs w L) {e : TypeId} {size n : Nat} {v : Value} {xs : List Value} (hp : Pull (.row e size v n xs) L F) :
    (v = .slice none 0 0 ∧ n = 0 ∧ xs = []) ∨ ∃ b cap more, v = .slice (some ⟨b, 0, none⟩) n cap ∧ n ≤ cap ∧ cap ≤ maxLen ∧ xs.length = n * size ∧ (xs ++ more).length = cap * size ∧ St w0 bs w (.blk b (.cells (xs ++ more).toArray e (0, 0)) :: F) := by
  have S' := S.perm hp.perm
  have hown : w.ownsRow 0 e size v n xs := S.mem.2 _ hp.mem
  rcases hown.2 with ⟨rfl, rfl⟩ | ⟨g, cap, cur, rfl, _, hg, hnc, hcm, hcs, ht⟩
  · exact .inl ⟨rfl, rfl, List.eq_nil_of_length_eq_zero (by simpa using hown.1)⟩
  · have e : xs ++ cur.toList.drop (n * size) = cur.toList := by rw [← ht]; exact List.take_append_drop ..
    refine .inr ⟨g, cap, cur.toList.drop (n * size), rfl, hnc, hcm, hown.1, by rw [e]; simpa using hcs, ⟨⟨S'.mem.1, fun r hr => ?_⟩, S'.chg, fun r hr x hx => ?_⟩⟩
    · cases hr with
      | head => rw [e]; simpa [Res.holds] using hg
      | tail _ hr => exact S'.mem.2 r (List.mem_cons_of_mem _ hr)
    · cases hr with
      | head => exact S'.org (.row _ _ _ _ _) List.mem_cons_self x hx
      | tail _ hr => exact S'.org r (List.mem_cons_of_mem _ hr) x hx


/-! ### copy -/
theorem run_copy {dT sT ty e : TypeId} {z : Value} {size bytes : Nat} [ht : TSlice P dT e] [he : TElem P e z size bytes] {b i dLen dCap m : Nat} {cur : List Value} {T : TypeId} {sv : Value} {xs : List Value} (hg : w.heap[b]? = some (.cells cur.toArray T (0, 0)))
    (hs : Src w size sv m xs) (hfit : i + dLen * size ≤ cur.length) :
    (Builtin.copy_ #[dT, sT] ty #[.slice (some ⟨b, i, none⟩) dLen dCap, sv]).run P w = .ok (goInt (Nat.min m dLen)) (w.setRow b (splice cur i (xs.take (Nat.min m dLen * size))).toArray) := by
  obtain ⟨inf, hi, hz, hsize, hby, hzs⟩ := he.is
  subst hsize
  have hk : Nat.min m dLen ≤ m := Nat.min_le_left _ _
  have hk2 : Nat.min m dLen * inf.size ≤ dLen * inf.size := Nat.mul_le_mul_right _ (Nat.min_le_right _ _)
  have hk1 : Nat.min m dLen * inf.size ≤ m * inf.size := Nat.mul_le_mul_right _ hk
  have hl := hs.lenOf (P := P) (w' := w) rfl
  have hf := hs.first (P := P) (w' := w) (fun _ _ h => h) (Nat.min m dLen) hk
  have hlen : (xs.take (Nat.min m dLen * inf.size)).length = Nat.min m dLen * inf.size := by rw [List.length_take, hs.1]; omega
  have hst := run_storeCells_at P b i T (xs.take (Nat.min m dLen * inf.size)) 0 cur.toArray w hg (by rw [hlen]; simp; omega) (fun u hu => hs.2.1 u (List.mem_of_mem_take hu))
  simp only [Nat.add_zero] at hst
  simp [Builtin.copy_, run_underlying ht.is, sizeOf, typeInfo, hi, hl, hf, hst, splice]

/-- copy(d[..], s): d a block that is known; to whom the number goes. -/
theorem wpList_copy {w0 : World} {bs : List Nat} {L L' : List Res} (S : St w0 bs w L) {sv : Value} {m : Nat} {xs : List Value} {size : Nat} (hs : Src w size sv m xs) {x y : Operand} {t tx e : TypeId} {z : Value} {bytes : Nat} {b i dLen dCap : Nat} {cur : List Value} {T : TypeId} {a' : Act}
    (k : ∀ w', St w0 bs w' L' → wpList P ops Q rest a' w')
    (hw : Region.wanted o (yielded ops a.tmps) = true := by rfl) (ho : o.op = .call { callee := .builtin .copy, args := #[x, y], argTypes := #[t, tx] } := by rfl)
    (ht : TSlice P t e := by infer_instance) (he : TElem P e z size bytes := by infer_instance)
    (hx : slot a x = some (.slice (some ⟨b, i, none⟩) dLen dCap) := by rfl) (hy : slot a y = some sv := by rfl)
    (hA : At (.blk b (.cells cur.toArray T (0, 0))) (.blk b (.cells (splice cur i (xs.take (Nat.min m dLen * size))).toArray T (0, 0))) L L' := by repeat (first | exact At.head | apply At.tail))
    (hfit : i + dLen * size ≤ cur.length := by (first | omega | (simp; omega)))
    (hput : Put a o.dst (goInt (Nat.min m dLen)) a' := by exact put_of (by conv => lhs; simp only [List.set_cons_succ, List.set_cons_zero])) : wpList P ops Q (o :: rest) a w := by
  have hg : w.heap[b]? = some (.cells cur.toArray T (0, 0)) := S.mem.2 _ hA.mem
  have hr := run_copy (P := P) (w := w) (dT := t) (sT := tx) (ty := o.type) (dCap := dCap) hg hs hfit
  refine wpList_run hw (w' := w.setRow b (splice cur i (xs.take (Nat.min m dLen * size))).toArray) (v := goInt (Nat.min m dLen)) ?_ (by
    rw [hput.is]
    exact k _ (S.set hA ⟨rfl, rfl, rfl, by simp, fun k _ hn => setRow_other w b k _ (by simpa [Res.foot] using hn)⟩ (setRow_heap w b _ _ T _ hg) (by simp [Res.foot])))
  simp [execOp, ho, resolve, invoke, builtin, eval_slot hx, eval_slot hy, hr]

theorem u8s_splice (l : List UInt8) (i : Nat) (xs : List UInt8) : u8s (splice l i xs) = splice (u8s l) i (u8s xs) := by
  simp [splice, u8s, List.map_take, List.map_drop]

/-- copy of bytes. -/
theorem wpList_copy8 {w0 : World} {bs : List Nat} {L L' : List Res} (S : St w0 bs w L) {sv : Value} {src : List UInt8} {n : Nat} (hs : Src w 1 sv n (u8s src)) {x y : Operand} {t tx e : TypeId} {z : Value} {bytes : Nat} {b i dLen dCap : Nat} {l : List UInt8} {T : TypeId} {a' : Act}
    (k : ∀ w', St w0 bs w' L' → wpList P ops Q rest a' w')
    (hw : Region.wanted o (yielded ops a.tmps) = true := by rfl) (ho : o.op = .call { callee := .builtin .copy, args := #[x, y], argTypes := #[t, tx] } := by rfl)
    (ht : TSlice P t e := by infer_instance) (he : TElem P e z 1 bytes := by infer_instance)
    (hx : slot a x = some (.slice (some ⟨b, i, none⟩) dLen dCap) := by rfl) (hy : slot a y = some sv := by rfl)
    (hA : At (.blk b (.cells (u8s l).toArray T (0, 0))) (.blk b (.cells (u8s (splice l i (src.take (Nat.min src.length dLen)))).toArray T (0, 0))) L L' := by repeat (first | exact At.head | apply At.tail))
    (hfit : i + dLen ≤ l.length := by (first | omega | (simp; omega)))
    (hput : Put a o.dst (goInt (Nat.min src.length dLen)) a' := by exact put_of (by conv => lhs; simp only [List.set_cons_succ, List.set_cons_zero])) : wpList P ops Q (o :: rest) a w := by
  have hn : n = src.length := by have := hs.1; simp at this; exact this.symm
  subst hn
  exact wpList_copy S hs k hw ho ht he hx hy (by
    have h := hA
    rw [u8s_splice, u8s_take] at h
    simpa using h) (by simpa using hfit) hput

/-! ### Bytes as a string -/
class TU8 (P : Program) (t : TypeId) : Prop where
  is : P.underlying t = some (.int .u8)
class TStr (P : Program) (t : TypeId) : Prop where
  is : P.underlying t = some .string

theorem push_all : ∀ (l : List UInt8) (s : ByteArray), (l.map fun c : UInt8 => (c.toNat : Int)).foldl (fun r n => r.push (UInt8.ofNat n.toNat)) s = ⟨s.data ++ l.toArray⟩
  | [], s => by simp
  | c :: l, s => by
    simp only [List.map_cons, List.foldl_cons, push_all l, Int.toNat_natCast]
    apply ByteArray.ext
    simp

theorem run_b2s {src dst e : TypeId} [h1 : TSlice P src e] [h2 : TU8 P e] [h3 : TStr P dst] {v : Value} {n : Nat} {l : List UInt8} (hs : Src w 1 v n (u8s l)) (x : Operand) (ho : o.op = .convert src dst x) (hx : a.eval x = v) (hv : ∀ s, v ≠ .string s) :
    (execOp a.eval o).run P w = .ok (.value (.string ⟨l.toArray⟩)) w := by
  have hm := hs.2.2
  have hl := hs.1
  simp only [length_u8s, Nat.mul_one] at hl
  match v, hm, hv with
  | .slice none m c, ⟨e1, e2⟩, _ =>
    have : l = [] := by simpa [u8s] using e2
    subst this
    simp [execOp, ho, hx, run_convert_bytes_string w src dst e none m c h1.is h2.is h3.is, Conv.bytesToString]
    rfl
  | .slice (some ad) m c, ⟨e1, e2⟩, _ =>
    have h := run_loadCells_list (P := P) w ad (u8s l) e2
    rw [length_u8s, hl, ← e1] at h
    have := run_bytesToString (P := P) w ad m c (l.map fun c : UInt8 => (c.toNat : Int)) (by rw [h]; simp [u8s])
    simp only [push_all] at this
    simp [execOp, ho, hx, run_convert_bytes_string w src dst e (some ad) m c h1.is h2.is h3.is, this]
  | .string s, _, hv => exact absurd rfl (hv s)
theorem wpList_b2s {v : Value} {n : Nat} {l : List UInt8} (hs : Src w 1 v n (u8s l)) {src dst e : TypeId} {x : Operand} {a' : Act}
    (k : wpList P ops Q rest a' w)
    (hw : Region.wanted o (yielded ops a.tmps) = true := by rfl) (ho : o.op = .convert src dst x := by rfl) (h1 : TSlice P src e := by infer_instance) (h2 : TU8 P e := by infer_instance) (h3 : TStr P dst := by infer_instance)
    (hx : slot a x = some v := by rfl) (hv : ∀ s, v ≠ .string s := by (intro _ h; cases h)) (hput : Put a o.dst (.string ⟨l.toArray⟩) a' := by exact put_of (by conv => lhs; simp only [List.set_cons_succ, List.set_cons_zero])) : wpList P ops Q (o :: rest) a w :=
  wpList_run hw (run_b2s hs x ho (eval_slot hx) hv) (hput.is ▸ k)
theorem quiet_b2s {C : World → Prop} {K : Act → Prop} {v : Value} {n : Nat} {l : List UInt8} (hs : ∀ w, C w → Src w 1 v n (u8s l)) {src dst e : TypeId} {x : Operand} {a' : Act}
    (k : K a')
    (ho : o.op = .convert src dst x := by rfl) (h1 : TSlice P src e := by infer_instance) (h2 : TU8 P e := by infer_instance) (h3 : TStr P dst := by infer_instance)
    (hx : slot a x = some v := by rfl) (hv : ∀ s, v ≠ .string s := by (intro _ h; cases h)) (hput : Put a o.dst (.string ⟨l.toArray⟩) a' := by exact put_of (by conv => lhs; simp only [List.set_cons_succ, List.set_cons_zero])) : o.quiet P a C K :=
  quiet_run (fun w hw => run_b2s (hs w hw) x ho (eval_slot hx) hv) (hput.is ▸ k)

/-- Bytes of a row, of a block, as a string. -/
theorem wpList_b2sR {w0 : World} {bs : List Nat} {L F : List Res} (S : St w0 bs w L) {v : Value} {n : Nat} {l : List UInt8} {src dst e e' : TypeId} {x : Operand} {a' : Act}
    (k : wpList P ops Q rest a' w)
    (hw : Region.wanted o (yielded ops a.tmps) = true := by rfl) (ho : o.op = .convert src dst x := by rfl) (h1 : TSlice P src e := by infer_instance) (h2 : TU8 P e := by infer_instance) (h3 : TStr P dst := by infer_instance)
    (hx : slot a x = some v := by rfl) (hp : Pull (.row e' 1 v n (u8s l)) L F := by repeat (first | exact Pull.head | apply Pull.tail)) (hput : Put a o.dst (.string ⟨l.toArray⟩) a' := by exact put_of (by conv => lhs; simp only [List.set_cons_succ, List.set_cons_zero])) : wpList P ops Q (o :: rest) a w := by
  have hown : w.ownsRow 0 e' 1 v n (u8s l) := S.mem.2 _ hp.mem
  exact wpList_b2s (Src.row hown (u8s_one _)) k hw ho h1 h2 h3 hx (by rcases hown.2 with ⟨rfl, _⟩ | ⟨_, _, _, rfl, _⟩ <;> (intro _ h; cases h)) hput
theorem quiet_b2sR {w0 : World} {bs : List Nat} {L F : List Res} (S : St w0 bs w L) {K : Act → Prop} {v : Value} {n : Nat} {l : List UInt8} {src dst e e' : TypeId} {x : Operand} {a' : Act}
    (k : K a')
    (ho : o.op = .convert src dst x := by rfl) (h1 : TSlice P src e := by infer_instance) (h2 : TU8 P e := by infer_instance) (h3 : TStr P dst := by infer_instance)
    (hx : slot a x = some v := by rfl) (hp : Pull (.row e' 1 v n (u8s l)) L F := by repeat (first | exact Pull.head | apply Pull.tail)) (hput : Put a o.dst (.string ⟨l.toArray⟩) a' := by exact put_of (by conv => lhs; simp only [List.set_cons_succ, List.set_cons_zero])) : o.quiet P a (fun w' => ∃ p : StW w w0 bs L, w' = p.w) K := by
  have hown : ∀ w', (∃ p : StW w w0 bs L, w' = p.w) → w'.ownsRow 0 e' 1 v n (u8s l) := fun w' hw' => (S.of hw').mem.2 _ hp.mem
  exact quiet_b2s (fun w' hw' => Src.row (hown w' hw') (u8s_one _)) k ho h1 h2 h3 hx (by rcases (hown w S.inSt').2 with ⟨rfl, _⟩ | ⟨_, _, _, rfl, _⟩ <;> (intro _ h; cases h)) hput
theorem wpList_b2sB {w0 : World} {bs : List Nat} {L F : List Res} (S : St w0 bs w L) {b m c : Nat} {l : List UInt8} {T : TypeId} {fr : Nat × Nat} {src dst e : TypeId} {x : Operand} {a' : Act}
    (k : wpList P ops Q rest a' w)
    (hw : Region.wanted o (yielded ops a.tmps) = true := by rfl) (ho : o.op = .convert src dst x := by rfl) (h1 : TSlice P src e := by infer_instance) (h2 : TU8 P e := by infer_instance) (h3 : TStr P dst := by infer_instance)
    (hx : slot a x = some (.slice (some ⟨b, 0, none⟩) m c) := by rfl) (hp : Pull (.blk b (.cells (u8s l).toArray T fr)) L F := by repeat (first | exact Pull.head | apply Pull.tail)) (hl : l.length = m := by (first | rfl | (simp; done) | omega))
    (hput : Put a o.dst (.string ⟨l.toArray⟩) a' := by exact put_of (by conv => lhs; simp only [List.set_cons_succ, List.set_cons_zero])) : wpList P ops Q (o :: rest) a w :=
  wpList_b2s (S.src8w hp hl) k hw ho h1 h2 h3 hx (by intro _ h; cases h) hput
theorem quiet_b2sB {w0 : World} {bs : List Nat} {L F : List Res} (S : St w0 bs w L) {K : Act → Prop} {b m c : Nat} {l : List UInt8} {T : TypeId} {fr : Nat × Nat} {src dst e : TypeId} {x : Operand} {a' : Act}
    (k : K a')
    (ho : o.op = .convert src dst x := by rfl) (h1 : TSlice P src e := by infer_instance) (h2 : TU8 P e := by infer_instance) (h3 : TStr P dst := by infer_instance)
    (hx : slot a x = some (.slice (some ⟨b, 0, none⟩) m c) := by rfl) (hp : Pull (.blk b (.cells (u8s l).toArray T fr)) L F := by repeat (first | exact Pull.head | apply Pull.tail)) (hl : l.length = m := by (first | rfl | (simp; done) | omega))
    (hput : Put a o.dst (.string ⟨l.toArray⟩) a' := by exact put_of (by conv => lhs; simp only [List.set_cons_succ, List.set_cons_zero])) : o.quiet P a (fun w' => ∃ p : StW w w0 bs L, w' = p.w) K :=
  quiet_b2s (fun w' hw' => (S.of hw').src8w hp hl) k ho h1 h2 h3 hx (by intro _ h; cases h) hput

/-! ### A struct or an array stored -/
theorem run_stA {ty : TypeId} {n : Nat} [h1 : TAgg P ty n] (x y : Operand) (ho : o.op = .store ty x y) {b i : Nat} (ha : a.eval x = .pointer (some ⟨b, i, none⟩)) {cs : List Value} (hv : a.eval y = .agg cs.toArray) (hl : cs.length = n) (h1c : ∀ u ∈ cs, u.oneCell' = true)
    {cur : List Value} {T : TypeId} (hg : w.heap[b]? = some (.cells cur.toArray T (0, 0))) (hfit : i + n ≤ cur.length) :
    (execOp a.eval o).run P w = .ok .skip (w.setRow b (splice cur i cs).toArray) := by
  have hst := run_storeCells_at P b i T cs 0 cur.toArray w hg (by simp; omega) h1c
  simp only [Nat.add_zero] at hst
  simp [execOp, ho, ha, hv, Instr.storeAt, Instr.sureAddr, storeVar, h1.size, hl, Value.cells, hst, splice]
theorem wpList_stA {w0 : World} {bs : List Nat} {L L' : List Res} (S : St w0 bs w L) {ty : TypeId} {n : Nat} {x y : Operand} {b i : Nat} {cs cur : List Value} {T : TypeId}
    (k : ∀ w', St w0 bs w' L' → wpList P ops Q rest a w')
    (hw : Region.wanted o (yielded ops a.tmps) = true := by rfl) (ho : o.op = .store ty x y := by rfl) (hd : o.dst = none := by rfl) (h1 : TAgg P ty n := by infer_instance)
    (ha : slot a x = some (.pointer (some ⟨b, i, none⟩)) := by rfl) (hv : slot a y = some (.agg cs.toArray) := by rfl) (hl : cs.length = n := by rfl) (h1c : oneCells cs = true := by rfl)
    (hA : At (.blk b (.cells cur.toArray T (0, 0))) (.blk b (.cells (splice cur i cs).toArray T (0, 0))) L L' := by repeat (first | exact At.head | apply At.tail))
    (hfit : i + n ≤ cur.length := by (first | decide | omega | (simp; done) | (simp; omega))) : wpList P ops Q (o :: rest) a w := by
  have hg : w.heap[b]? = some (.cells cur.toArray T (0, 0)) := S.mem.2 _ hA.mem
  refine wpList_run_skip hw (run_stA x y ho (eval_slot ha) (eval_slot hv) hl (oneCells_spec h1c) hg hfit) (by
    rw [hd]
    exact k _ (S.set hA ⟨rfl, rfl, rfl, by simp, fun k _ hn => setRow_other w b k _ (by simpa [Res.foot] using hn)⟩ (setRow_heap w b _ _ T _ hg) (by simp [Res.foot])))

end
end Go.Vil
