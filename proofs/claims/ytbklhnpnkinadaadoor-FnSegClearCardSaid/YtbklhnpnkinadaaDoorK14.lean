/- Package-level variables that are listed, and behind a change that leaves old blocks alone. · A slice of elements within a struct that came in. · Scripts of a segment that came in. · The rows of the laws of looks, of a later clock, of a clearing. -/
import Derived.Test.YtbklhnpnkinadaaDoorK10
import Derived.Test.YtbklhnpnkinadaaDoorK11
import Derived.Test.YtbklhnpnkinadaaDoorK12
import Derived.Test.YtbklhnpnkinadaaDoorK13
import Derived.LaidMore
import Derived.LaidLaws
import Derived.Stop.LaidErr
import Derived.Below
import Derived.Lib.SmallJoins
section
namespace Go.Vil
open Go Go.RowKit Go.ChangeShapes
theorem var_below {P : Program} {W W' : World} {n : String} {cs : Array Value} (h : W.var? P n = some cs) (bel : Below W.heap.size W W') : W'.var? P n = some cs := by
  unfold World.var? at h ⊢
  cases hg : P.globalNamed n with
  | none => simp [hg] at h
  | some g =>
    simp only [hg, Option.bind_some] at h ⊢
    have hlt : g < W.heap.size := by
      rcases Nat.lt_or_ge g W.heap.size with h' | h'
      · exact h'
      · simp [Array.getElem?_eq_none h'] at h
    rw [bel.block g hlt]
    exact h
theorem trod_u64 {H : Type} {enc : TypeId × Value → H} {P : Program} {w : World} {base : Nat} {sp : Nat → Bool} {held : Bool} {t : TypeId} {k : Int} (ht : P.underlying t = some (.int .u64)) (hk : (Lit.int .u64 k).wf = true) :
    DataW.trod enc P w base sp held 1 t [.int .u64 k] = some (.lit (.int .u64 k), []) := by simp [DataW.trod, ht, hk]
/-- A listed number. -/
theorem laid_u64 {P : Program} {n : String} {k : Int} {r : List (String × DataW Unit)} {W : World} {g : Nat} {ti : TypeId} (h : laidMet P ((n, .lit (.int .u64 k)) :: r) W)
    (hg : P.globalNamed n = some g) (ht : (P.globals[g]?).map (·.type) = some ti) (hi : P.underlying ti = some (.int .u64)) : W.var? P n = some #[.int .u64 k] := by
  obtain ⟨ps, ⟨g0, t0, cs0, f0, p0, q0, hg0, ht0, hv0, hd0, _, e0⟩, _, _⟩ := h
  obtain rfl := Option.some.inj (hg.symm.trans hg0)
  obtain rfl := Option.some.inj (ht.symm.trans ht0)
  obtain ⟨l0⟩ := cs0
  obtain ⟨m, h1, h2, _⟩ := DataW.trod_int hi hd0
  simp only at h1
  subst h1
  simp only [Prod.mk.injEq, DataW.lit.injEq, Lit.int.injEq, true_and] at h2
  obtain ⟨rfl, _⟩ := h2
  exact hv0
end Go.Vil
end
section
namespace Go.Vil
open Go Go.RowKit Go.ChangeShapes Go.WideShapes Go.ChangeAt Go.Deep
set_option linter.unusedVariables false

section
variable {H : Type} {enc : TypeId × Value → H} {P : Program} {w : World} {base : Nat} {spare : Nat → Bool} {held : Bool}
theorem open_arrC {α : Type} [Inhabited α] {R : World → α → List Value → Prop} {size : Nat} {fuel : Nat} {t e : TypeId} {v : Value} {x : DataW H × List MemPlace} (ht : P.underlying t = some (.slice e)) (hc : P.cellsOf e = size) (hsz : 0 < size)
    (hel : ∀ (fuel : Nat) (cs : List Value) (x : DataW H × List MemPlace), cs.length = size → DataW.trod enc P w base spare held fuel e cs = some x → ∃ a, R w a cs)
    (hone : ∀ a cs, R w a cs → ∀ u ∈ cs, u.oneCell' = true)
    (hf : DataW.trod enc P w base spare held fuel t [v] = some x) : ∃ xs : List α, Arr R size w v xs := by
  rcases open_slice ht hf with ⟨hcs, hx⟩ | ⟨a, len, cap, m, n, D, Pl, hcs, hb, hl, hm, hmm, hx, hall⟩
  · simp at hcs
    subst hcs
    exact ⟨[], Arr.nil R size w⟩
  · simp at hcs
    subst hcs
    have hlm : len ≤ m := by rw [hmm]; split <;> omega
    obtain ⟨g, hg⟩ := choose_lt (α := List Value) (n := len) (p := fun i cs => cs.length = size ∧ (∀ j, j < size → w.cell? ((a.add (i * size)).add j) = cs[j]?) ∧ ∃ x, R w x cs) (fun i hi => by
      obtain ⟨cs', h1, h2⟩ := hall i (by omega)
      rw [hc] at h1
      obtain ⟨_, h3, h4⟩ := World.cells?_some h1
      exact ⟨cs', h3, h4, hel n cs' _ h3 h2⟩)
    obtain ⟨f, hff⟩ := choose_lt (α := α) (n := len) (p := fun i x => R w x (g i)) (fun i hi => (hg i hi).2.2)
    have hlen : ((List.range len).map f).length = len := by simp
    have hsizes : ∀ cs ∈ (List.range len).map g, cs.length = size := by
      intro cs hcs
      obtain ⟨i, hi, rfl⟩ := List.mem_map.1 hcs
      exact (hg i (List.mem_range.1 hi)).1
    have hflat : ((List.range len).map g).flatten.length = len * size := by rw [flat_len hsizes]; simp
    refine ⟨(List.range len).map f, some a, cap, (List.range len).map g, by rw [hlen], by rw [hlen]; exact hl, each_of_index len f g fun i hi => ⟨hff i hi, (hg i hi).1⟩, ?_⟩
    rw [hlen]
    refine Src.cells hflat (fun u hu => ?_) fun j u hu => ?_
    · obtain ⟨cs, hcs, hu⟩ := List.mem_flatten.1 hu
      obtain ⟨i, hi, rfl⟩ := List.mem_map.1 hcs
      exact hone _ _ (hff i (List.mem_range.1 hi)) u hu
    · have hj := (List.getElem?_eq_some_iff.1 hu).1
      rw [hflat] at hj
      have hq : j / size < len := (Nat.div_lt_iff_lt_mul hsz).2 hj
      have hr : j % size < size := Nat.mod_lt _ hsz
      have hjj : j / size * size + j % size = j := by rw [Nat.mul_comm]; exact Nat.div_add_mod j size
      have hget : ((List.range len).map g)[j / size]? = some (g (j / size)) := by rw [List.getElem?_map, List.getElem?_range hq]; rfl
      have h5 := flat_get hsizes (j / size) _ (j % size) hget hr
      rw [hjj, hu] at h5
      have h6 := (hg (j / size) hq).2.1 (j % size) hr
      rw [Go.Deep.add_add, hjj] at h6
      rw [h6, ← h5]
end
end Go.Vil
end
section
section
namespace Go.Proofs.YtbklhnpnkinadaaDoor
open Go Go.RowKit Go.ChangeShapes Go.WideShapes Go.ChangeAt Go.Deep Go.Vil
set_option linter.unusedVariables false
set_option linter.unusedSimpArgs false
set_option maxRecDepth 100000

instance : Inhabited SOp := ⟨⟨0, [], [], 0, 0, 0, false, false, 0⟩⟩
theorem trod_flag {H : Type} {enc : TypeId × Value → H} {w : World} {base : Nat} {spare : Nat → Bool} {held : Bool} {fuel : Nat} {cs : List Value} {t : TypeId} {x : DataW H × List MemPlace} (ht : Tryd.prog.underlying t = some .bool)
    (h : DataW.trod enc Tryd.prog w base spare held fuel t cs = some x) : ∃ b, cs = [.bool b] := by
  cases fuel with
  | zero => simp [DataW.trod] at h
  | succ n =>
    unfold DataW.trod at h
    rw [ht] at h
    split at h <;> simp_all
theorem u32_of {z : Int} (h : (Lit.int .u32 z).wf = true) : ∃ n : Nat, z = n ∧ n < 4294967296 := by
  simp [Lit.wf, IntKind.min, IntKind.max, IntKind.signed, IntKind.bits] at h
  exact ⟨z.toNat, by omega, by omega⟩
theorem u64_of {z : Int} (h : (Lit.int .u64 z).wf = true) : ∃ n : Nat, z = n ∧ n < 18446744073709551616 := by
  simp [Lit.wf, IntKind.min, IntKind.max, IntKind.signed, IntKind.bits] at h
  exact ⟨z.toNat, by omega, by omega⟩
theorem fop_of {H : Type} {enc : TypeId × Value → H} {w : World} {base : Nat} {spare : Nat → Bool} {held : Bool} {fuel : Nat} {cs : List Value} {x : DataW H × List MemPlace} (hl : cs.length = 10)
    (hx : DataW.trod enc Tryd.prog w base spare held fuel 66 cs = some x) : ∃ op, FInV w op cs := by
  have k1 : Tryd.prog.cellsOf 3 = 1 := by kernel_rfl
  have k2 : Tryd.prog.cellsOf 22 = 1 := by kernel_rfl
  have k3 : Tryd.prog.cellsOf 63 = 1 := by kernel_rfl
  have k4 : Tryd.prog.cellsOf 64 = 1 := by kernel_rfl
  have k5 : Tryd.prog.cellsOf 4 = 1 := by kernel_rfl
  have k6 : Tryd.prog.cellsOf 45 = 1 := by kernel_rfl
  match cs, hl with
  | [c0, c1, c2, c3, c4, c5, c6, c7, c8, c9], _ =>
    obtain ⟨xs, n, _, _, _, hlen, hf⟩ := DataW.trod_struct Tryd.underlying66 hx
    have hlen2 : xs.length = 10 := hlen
    clear hx hlen
    match xs, hlen2 with
    | [y0, y1, y2, y3, y4, y5, y6, y7, y8, y9], _ =>
      have t0 : DataW.trod enc Tryd.prog w base spare held n 3 (([c0, c1, c2, c3, c4, c5, c6, c7, c8, c9].drop 0).take (Tryd.prog.cellsOf 3)) = some y0 := hf 0 _ rfl
      have t1 : DataW.trod enc Tryd.prog w base spare held n 22 (([c0, c1, c2, c3, c4, c5, c6, c7, c8, c9].drop 1).take (Tryd.prog.cellsOf 22)) = some y1 := hf 1 _ rfl
      have t2 : DataW.trod enc Tryd.prog w base spare held n 22 (([c0, c1, c2, c3, c4, c5, c6, c7, c8, c9].drop 2).take (Tryd.prog.cellsOf 22)) = some y2 := hf 2 _ rfl
      have t3 : DataW.trod enc Tryd.prog w base spare held n 3 (([c0, c1, c2, c3, c4, c5, c6, c7, c8, c9].drop 3).take (Tryd.prog.cellsOf 3)) = some y3 := hf 3 _ rfl
      have t4 : DataW.trod enc Tryd.prog w base spare held n 63 (([c0, c1, c2, c3, c4, c5, c6, c7, c8, c9].drop 4).take (Tryd.prog.cellsOf 63)) = some y4 := hf 4 _ rfl
      have t5 : DataW.trod enc Tryd.prog w base spare held n 64 (([c0, c1, c2, c3, c4, c5, c6, c7, c8, c9].drop 5).take (Tryd.prog.cellsOf 64)) = some y5 := hf 5 _ rfl
      have t6 : DataW.trod enc Tryd.prog w base spare held n 4 (([c0, c1, c2, c3, c4, c5, c6, c7, c8, c9].drop 6).take (Tryd.prog.cellsOf 4)) = some y6 := hf 6 _ rfl
      have t7 : DataW.trod enc Tryd.prog w base spare held n 4 (([c0, c1, c2, c3, c4, c5, c6, c7, c8, c9].drop 7).take (Tryd.prog.cellsOf 4)) = some y7 := hf 7 _ rfl
      have t8 : DataW.trod enc Tryd.prog w base spare held n 3 (([c0, c1, c2, c3, c4, c5, c6, c7, c8, c9].drop 8).take (Tryd.prog.cellsOf 3)) = some y8 := hf 8 _ rfl
      have t9 : DataW.trod enc Tryd.prog w base spare held n 45 (([c0, c1, c2, c3, c4, c5, c6, c7, c8, c9].drop 9).take (Tryd.prog.cellsOf 45)) = some y9 := hf 9 _ rfl
      clear hf
      simp only [k1, k2, k3, k4, k5, k6, List.drop, List.take, List.getElem?_cons_zero, List.getElem?_cons_succ] at t0 t1 t2 t3 t4 t5 t6 t7 t8 t9
      obtain ⟨z0, e0, _, _⟩ := DataW.trod_int Tryd.underlying3 t0
      obtain ⟨m1, l1, s1, g1, a1, d1, e1, _, w1⟩ := open_bytesC Tryd.underlying22 Tryd.underlying5 (by kernel_rfl) t1
      obtain ⟨m2, l2, s2, g2, a2, d2, e2, _, w2⟩ := open_bytesC Tryd.underlying22 Tryd.underlying5 (by kernel_rfl) t2
      obtain ⟨z3, e3, _, _⟩ := DataW.trod_int Tryd.underlying3 t3
      obtain ⟨z4, e4, _, f4⟩ := DataW.trod_int Tryd.underlying63 t4
      obtain ⟨z5, e5, _, f5⟩ := DataW.trod_int Tryd.underlying64 t5
      obtain ⟨z6, e6⟩ := trod_flag Tryd.underlying4 t6
      obtain ⟨z7, e7⟩ := trod_flag Tryd.underlying4 t7
      obtain ⟨z8, e8, _, _⟩ := DataW.trod_int Tryd.underlying3 t8
      obtain ⟨kss, h9⟩ := open_arrC (R := BytesV) (size := 1) Tryd.underlying45 (e := 22) (by kernel_rfl) (by decide) (by
        intro fuel cs x hl hx
        match cs, hl with
        | [c0], _ =>
          obtain ⟨m, l, h1, h2, a, c, h3, h4, h5⟩ := open_bytesC Tryd.underlying22 Tryd.underlying5 (by kernel_rfl) hx
          subst h3 h2
          exact ⟨l, a, c, rfl, h1, h5⟩) (fun a cs h => BytesV.one h) t9
      simp only [List.cons.injEq, and_true] at e0 e3 e4 e5 e6 e7 e8
      obtain ⟨n4, rfl, h4⟩ := u32_of f4
      obtain ⟨n5, rfl, h5⟩ := u64_of f5
      subst e0 e1 e2 e3 e4 e5 e6 e7 e8
      exact ⟨⟨z0, l1, l2, z3, n4, n5, z6, z7, z8⟩, a1, m1, d1, a2, m2, d2, c9, kss, rfl, s1, w1, s2, w2, h9, h4, h5⟩
theorem FInV.one {w : World} {op : SOp} {cs : List Value} (h : FInV w op cs) : ∀ u ∈ cs, u.oneCell' = true := by
  obtain ⟨ka, kn, kc, va, vn, vc, kv, kss, rfl, _, _, _, _, h9, _⟩ := h
  obtain ⟨oa, c, rfl, _⟩ := h9.shape
  intro u hu
  simp at hu
  rcases hu with rfl | rfl | rfl | rfl | rfl | rfl | rfl | rfl | rfl | rfl <;> rfl
/-- A script of operations that came in. -/
theorem open_fops {H : Type} {enc : TypeId × Value → H} {w : World} {base base' : Nat} {spare : Nat → Bool} {held : Bool} {r : Reach} {v : Value} {d : DataW H} {ps : List MemPlace}
    (hval : Value.okWide Tryd.prog w r base' 60 v) (hd : DataW.Trod enc Tryd.prog w base spare held 60 v d ps) : ∃ ops : List SOp, Arr FInV 10 w v ops :=
  open_arr Tryd.underlying60 (e := 66) (by kernel_rfl) (by decide) (fun _ _ _ hl hx => fop_of hl hx) (fun _ _ h => FInV.one h) hval hd
end Go.Proofs.YtbklhnpnkinadaaDoor
end
end
section
namespace Go.Proofs.YtbklhnpnkinadaaDoor
open Go Go.RowKit Go.ChangeShapes Go.WideShapes Go.ChangeAt Go.Vil
set_option linter.unusedVariables false
set_option maxRecDepth 100000
theorem serrs_of {W : World} {t4 t5 : TypeId} {x4 x5 : Addr} (hp : W.cell? ⟨5, 0, none⟩ = some (.int .u64 11400714785074694791))
    (h4 : W.cell? ⟨3, 0, none⟩ = some (.iface t4 (.pointer (some x4)))) (h5 : W.cell? ⟨4, 0, none⟩ = some (.iface t5 (.pointer (some x5)))) :
    SErrs W [] (.iface t5 (.pointer (some x5))) (.iface t4 (.pointer (some x4))) := ⟨⟨h5, by simp⟩, ⟨h4, by simp⟩, ⟨hp, by simp⟩, ⟨_, _, rfl⟩, ⟨_, _, rfl⟩⟩
theorem rowSegPeeks {H : Type} {enc : TypeId × Value → H} {base base' : Nat} {spare : Nat → Bool} {held : Bool} {r : Reach} {d : DataW H} {ps : List MemPlace} {X0 X2 : Prop} {t0 t2 t3 t4 t5 : TypeId} {x0 x2 x3 x4 x5 : Addr} (a0 : Int) (v : Value) (W : World) (_ : X0)
    (hval : Value.okWide Tryd.prog W r base' 60 v) (hd : DataW.Trod enc Tryd.prog W base spare held 60 v d ps) (_ : X2)
    (_ : W.cell? ⟨1, 0, none⟩ = some (.iface t0 (.pointer (some x0)))) (hp : W.cell? ⟨5, 0, none⟩ = some (.int .u64 11400714785074694791)) (_ : W.cell? ⟨0, 0, none⟩ = some (.iface t2 (.pointer (some x2))))
    (_ : W.cell? ⟨2, 0, none⟩ = some (.iface t3 (.pointer (some x3)))) (h4 : W.cell? ⟨3, 0, none⟩ = some (.iface t4 (.pointer (some x4)))) (h5 : W.cell? ⟨4, 0, none⟩ = some (.iface t5 (.pointer (some x5)))) :
    Calls Tryd.prog 8 #[.int .i64 a0, v] W fun e w' => e = .returned (.bool true) ∧ Below W.heap.size W w' := by
  obtain ⟨ops, h⟩ := open_fops hval hd
  exact Calls.mono (lawSegPeeks a0 v ops _ _ W h (serrs_of hp h4 h5)) fun e w' ⟨h1, h2⟩ => ⟨h1, h2.below⟩
theorem rowSegClock {H : Type} {enc : TypeId × Value → H} {base base' : Nat} {spare : Nat → Bool} {held : Bool} {r : Reach} {d : DataW H} {ps : List MemPlace} {X0 X2 : Prop} {t0 t2 t3 t4 t5 : TypeId} {x0 x2 x3 x4 x5 : Addr} (a0 : Int) (v : Value) (a2 : Int) (W : World) (_ : X0)
    (hval : Value.okWide Tryd.prog W r base' 60 v) (hd : DataW.Trod enc Tryd.prog W base spare held 60 v d ps) (_ : X2) (w2 : (Lit.int .u32 a2).wf = true)
    (_ : W.cell? ⟨1, 0, none⟩ = some (.iface t0 (.pointer (some x0)))) (hp : W.cell? ⟨5, 0, none⟩ = some (.int .u64 11400714785074694791)) (_ : W.cell? ⟨0, 0, none⟩ = some (.iface t2 (.pointer (some x2))))
    (_ : W.cell? ⟨2, 0, none⟩ = some (.iface t3 (.pointer (some x3)))) (h4 : W.cell? ⟨3, 0, none⟩ = some (.iface t4 (.pointer (some x4)))) (h5 : W.cell? ⟨4, 0, none⟩ = some (.iface t5 (.pointer (some x5)))) :
    Calls Tryd.prog 7 #[.int .i64 a0, v, .int .u32 a2] W fun e w' => e = .returned (.bool true) ∧ Below W.heap.size W w' := by
  obtain ⟨ops, h⟩ := open_fops hval hd
  obtain ⟨n, rfl, hn⟩ := u32_of w2
  exact Calls.mono (lawSegClock a0 v n ops _ _ W h (serrs_of hp h4 h5) hn) fun e w' ⟨h1, h2⟩ => ⟨h1, h2.below⟩
theorem rowSegClear {H : Type} {enc : TypeId × Value → H} {base base' : Nat} {spare : Nat → Bool} {held : Bool} {r : Reach} {d d2 : DataW H} {ps ps2 : List MemPlace} {X0 X2 X3 : Prop} {t0 t2 t3 t4 t5 : TypeId} {x0 x2 x3 x4 x5 : Addr} (a0 : Int) (v v2 : Value) (W : World) (_ : X0)
    (hval : Value.okWide Tryd.prog W r base' 60 v) (hd : DataW.Trod enc Tryd.prog W base spare held 60 v d ps) (_ : X2)
    (hval2 : Value.okWide Tryd.prog W r base' 60 v2) (hd2 : DataW.Trod enc Tryd.prog W base spare held 60 v2 d2 ps2) (_ : X3)
    (_ : W.cell? ⟨1, 0, none⟩ = some (.iface t0 (.pointer (some x0)))) (hp : W.cell? ⟨5, 0, none⟩ = some (.int .u64 11400714785074694791)) (_ : W.cell? ⟨0, 0, none⟩ = some (.iface t2 (.pointer (some x2))))
    (_ : W.cell? ⟨2, 0, none⟩ = some (.iface t3 (.pointer (some x3)))) (h4 : W.cell? ⟨3, 0, none⟩ = some (.iface t4 (.pointer (some x4)))) (h5 : W.cell? ⟨4, 0, none⟩ = some (.iface t5 (.pointer (some x5)))) :
    Calls Tryd.prog 6 #[.int .i64 a0, v, v2] W fun e w' => e = .returned (.bool true) ∧ Below W.heap.size W w' := by
  obtain ⟨ops, h⟩ := open_fops hval hd
  obtain ⟨opz, hz⟩ := open_fops hval2 hd2
  exact Calls.mono (lawSegClear a0 v v2 ops opz _ _ W h hz (serrs_of hp h4 h5)) fun e w' ⟨h1, h2⟩ => ⟨h1, h2.below⟩
end Go.Proofs.YtbklhnpnkinadaaDoor
end
