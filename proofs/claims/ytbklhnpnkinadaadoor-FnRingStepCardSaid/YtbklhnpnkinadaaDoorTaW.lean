/- A ring to which bytes were written alone: where they lie. A ring out of its parts, beside its tape. -/
import Derived.Test.YtbklhnpnkinadaaDoorTaP
set_option linter.unusedVariables false
namespace Go.Vil
namespace Ri
theorem puts_mod (l : List UInt8) : ∀ {r : Ri}, 1 ≤ r.size → r.ix = r.e % r.size → (r.puts l).ix = (r.puts l).e % r.size := by
  induction l with
  | nil => exact fun _ h => h
  | cons c l ih =>
    intro r h1 h
    have hs := put_size r c
    have hp : (r.put c).ix = (r.put c).e % (r.put c).size := by
      rw [hs]
      show (if r.ix + 1 = r.size then 0 else r.ix + 1) = (r.e + 1) % r.size
      have hm := mod_next (i := r.e % r.size) (k := 0) (n := r.size) (Nat.mod_lt _ (by omega))
      rw [Nat.add_zero, Nat.mod_add_mod, Nat.zero_add] at hm
      rw [h, ← hm]
      have hlt := Nat.mod_lt r.e (show 0 < r.size by omega)
      refine (Nat.mod_eq_of_lt ?_).symm
      split <;> omega
    have h2 := ih (r := r.put c) (by omega) hp
    rw [hs] at h2
    exact h2
/-- A ring to which was written alone. -/
structure Wrote (r : Ri) (N : Nat) : Prop where
  size : r.size = N
  ix : r.ix = r.e % N
  b : r.b = r.e - N
theorem Wrote.puts {r : Ri} {size : Nat} (h : r.Wrote size) (h1 : 1 ≤ size) (l : List UInt8) : (r.puts l).Wrote size := by
  obtain ⟨h2, h3, h4⟩ := h
  refine ⟨by rw [puts_size]; exact h2, ?_, ?_⟩
  · have := puts_mod l (r := r) (by omega) (by rw [h2]; exact h3)
    rw [h2] at this
    exact this
  · rw [puts_b l r (by omega), puts_e, h2]; omega
theorem Wrote.base {r : Ri} {size : Nat} (h : r.Wrote size) {W : List UInt8} (hW : r.Has W) : ∀ i, i < W.length → r.data[(r.b + i) % size]? = W[i]? := by
  intro i hi
  have h1 := hW.get i hi
  obtain ⟨h2, h3, h4⟩ := h
  have h5 := hW.pos
  have hl : r.len = r.e - r.b := rfl
  have h6 := hW.fit
  rw [← h1, h2]
  congr 1
  by_cases hf : r.len < r.size
  · rw [show r.base = 0 from if_pos hf, show r.b = 0 by omega]
  · rw [show r.base = r.ix from if_neg hf, h3, Nat.mod_add_mod]
    have : r.e = size + r.b := by omega
    rw [this, Nat.add_assoc, Nat.add_mod_left]
theorem win_has {r : Ri} (h1 : 1 ≤ r.size) (h2 : r.b ≤ r.e) (h3 : r.len ≤ r.size) (h4 : r.ix < r.size) (h5 : r.len < r.size → r.ix = r.len) : r.Has r.win := by
  refine ⟨h1, h2, win_length r, h3, h4, h5, fun k hk => ?_⟩
  rw [win_length] at hk
  have hm : r.at' k < r.data.length := Nat.mod_lt _ (by omega)
  unfold win
  rw [List.getElem?_map, List.getElem?_range hk]
  show r.data[r.at' k]? = some (r.data.getD (r.at' k) 0)
  rw [List.getElem?_eq_getElem hm, List.getD, List.getElem?_eq_getElem hm]; rfl
end Ri
namespace Ta
open Ri
theorem puts_b (l : List (UInt8 × Bool)) : ∀ (t : Ta), t.e - t.b ≤ t.size → (t.puts l).b = max t.b (t.e + l.length - t.size) := by
  induction l with
  | nil =>
    intro t h
    show t.b = max t.b (t.e + 0 - t.size)
    omega
  | cons x l ih =>
    intro t h
    have h1 := ih (t.put x.1 x.2) (by show t.e + 1 - max t.b (t.e + 1 - t.size) ≤ t.size; omega)
    refine h1.trans ?_
    show max (max t.b (t.e + 1 - t.size)) (t.e + 1 + l.length - t.size) = _
    rw [List.length_cons]
    omega
/-- The tape that a ring is. -/
def of' (r : Ri) : Ta := (fresh r.size r.b).puts (r.win.map fun c => (c, true))
theorem of_beside {r : Ri} {W : List UInt8} (h : r.Has W) : (of' r).Beside r W := by
  have hw := has_win h
  have hl := h.len
  have hln : r.len = r.e - r.b := rfl
  have h1 := h.pos
  have h2 := h.le
  have h3 := h.fit
  have hb : (of' r).b = r.b := by
    unfold of'
    rw [puts_b _ _ (by simp [fresh]), List.length_map, hw, hl]
    show max r.b (r.b + r.len - r.size) = r.b
    omega
  refine ⟨puts_fine _ (fresh_fine _ _ h1), h, puts_size _ _, hb, ?_, ?_⟩
  · unfold of'
    rw [puts_e, List.length_map, hw, hl]
    show r.b + r.len = r.e
    omega
  · intro i hi _
    rw [hb]
    unfold of'
    rw [puts_bytes, puts_o, hw]
    show ([] ++ _)[r.b - r.b + i]? = _
    rw [Nat.sub_self, Nat.zero_add, List.nil_append, List.map_map]
    show (W.map fun c => c)[i]? = _
    rw [List.map_id']
/-- All that is on a tape is known. -/
def AllKnown (t : Ta) : Prop := ∀ i, i < t.known.length → t.known[i]? = some true
theorem AllKnown.puts {t : Ta} (h : t.AllKnown) (l : List UInt8) : (t.puts (l.map fun c => (c, true))).AllKnown := by
  intro i hi
  rw [puts_known] at hi ⊢
  by_cases hlt : i < t.known.length
  · rw [List.getElem?_append_left hlt]; exact h i hlt
  · rw [List.getElem?_append_right (by omega), List.getElem?_map, List.getElem?_map]
    rw [List.length_append, List.length_map, List.length_map] at hi
    rw [List.getElem?_eq_getElem (show i - t.known.length < l.length by omega)]
    rfl
/-- Bytes that were written alone. -/
theorem did_wrote {size : Nat} (h1 : 1 ≤ size) {t : Ta} {l : List (ROp × TAns)} (h : Did (fresh size 0) l t) (hk : ∀ x ∈ l, x.1.kind = 0) :
    t.size = size ∧ t.AllKnown ∧ ((Ri.fresh size 0).endR (l.map (·.1))).Wrote size := by
  induction h with
  | nil =>
    refine ⟨rfl, fun i hi => by simp [fresh] at hi, ⟨List.length_replicate, ?_, ?_⟩⟩
    · show 0 = 0 % size
      rw [Nat.zero_mod]
    · show 0 = 0 - size
      omega
  | @snoc l t op h hn ih =>
    obtain ⟨i1, i2, i3⟩ := ih fun x hx => hk x (List.mem_append_left _ hx)
    have h0 : op.kind = 0 := hk _ (List.mem_append_right _ (List.mem_singleton.2 rfl))
    obtain ⟨k, xs, off, len⟩ := op
    simp only at h0
    subst h0
    rw [List.map_append, Ri.endR_append]
    rw [Ta.step0]
    show _ ∧ _ ∧ Ri.Wrote (Ri.step (Ri.endR (Ri.fresh size 0) (l.map (·.1))) ⟨0, xs, off, len⟩).1 size
    have hs := i3.size
    rw [Ri.step0, show (Ri.endR (Ri.fresh size 0) (l.map (·.1))).data.length = size from hs, i1]
    by_cases hc : xs.length ≤ size
    · rw [if_pos hc, if_pos hc]
      exact ⟨(puts_size _ _).trans i1, i2.puts xs, i3.puts h1 xs⟩
    · rw [if_neg hc, if_neg hc]
      exact ⟨i1, i2, i3⟩
theorem near_write (t : Ta) (p : List UInt8) (h : p.length ≤ 300) : t.Near ⟨0, p, 0, 0⟩ :=
  ⟨⟨by simp, by simp, by simp, by simp, rfl⟩, h, by simp, by simp; omega⟩
theorem legal_dump {r : Ri} {W : List UInt8} (h : r.Has W) (he : r.e ≤ 1125899906842624) (hs : r.size ≤ 1048576) : r.Legal ⟨9, [], 0, 0⟩ :=
  ⟨by rw [has_win h]; exact h, he, hs, by simp, by simp, by simp, by simp, by simp, by simp, by simp⟩
/-- What a dump has, where the tape has it. -/
theorem dump_reads {size : Nat} {t : Ta} {r : Ri} {W : List UInt8} (h : t.Beside r W) (hs : t.size = size) (hk : t.AllKnown) (hw : r.Wrote size) (n : Nat) : ∀ i, i < (t.readB t.b n).length → r.data[(t.b + i) % size]? = (t.readB t.b n)[i]? := by
  intro i hi
  have h1 := h.fine.ob
  have h2 := h.fine.be
  have h3 := h.fine.len
  have h4 := h.fine.klen
  have hW := beside_len h
  unfold readB at hi ⊢
  rw [List.length_take, List.length_drop] at hi
  have hrn : t.readN t.b n = min ((n : Int)).toNat ((t.e : Int) - t.b).toNat := rfl
  have e1 : ((t.b : Int) - t.o).toNat = t.b - t.o := by omega
  have hb := hw.base h.has i (by omega)
  rw [List.getElem?_take, if_pos (by omega), List.getElem?_drop, e1, h.b, hb, ← h.b]
  exact (h.get i (by omega) (hk _ (by omega))).symm
end Ta
end Go.Vil
