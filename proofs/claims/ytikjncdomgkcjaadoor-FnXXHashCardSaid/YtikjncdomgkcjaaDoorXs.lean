/- The hash XXH64 by the library. -/
import Derived.Test.YtikjncdomgkcjaaDoorXp
import Derived.Test.YtikjncdomgkcjaaDoorSlc
import Derived.Deep.CutRange
namespace Go.Proofs.YtikjncdomgkcjaaDoor
open Go Go.RowKit Go.Vil
set_option linter.unusedSimpArgs false
set_option linter.unusedVariables false

section
variable {P : Program} {ops : Array Oper} {Q : Exit → Act → World → Prop} {rest : List Oper} {o : Oper} {a : Act} {w w' : World}
theorem run_slc3 {ty e : TypeId} {z : Value} {size bytes : Nat} [ht : TSlice P ty e] [he : TElem P e z size bytes] (x lo hi mx : Operand) (ho : o.op = .slice ty x (some lo) (some hi) (some mx)) {ad : Addr} {n c : Nat} (hx : a.eval x = .slice (some ad) n c) {kl kh km : IntKind} {l h m : Int} (hlo : a.eval lo = .int kl l) (hhi : a.eval hi = .int kh h) (hmx : a.eval mx = .int km m)
    (h0 : 0 ≤ l) (h1 : l ≤ h) (h2 : h ≤ m) (h3 : m ≤ c) : (execOp a.eval o).run P w = .ok (.value (.slice (some (cutAt ad l.toNat m.toNat size)) (h.toNat - l.toNat) (m.toNat - l.toNat))) w := by
  obtain ⟨inf, hi, hz, hsize, hby, hzs⟩ := he.is
  subst hsize
  have eh : (h.toNat : Int) = h := Int.toNat_of_nonneg (by omega)
  have em : (m.toNat : Int) = m := Int.toNat_of_nonneg (by omega)
  simp [execOp, ho, hx, hlo, hhi, hmx, Instr.sliceAt, Instr.slice, run_underlying ht.is, sizeOf, typeInfo, hi, Instr.sliceBounds, run_sliceBound, h0, h1, h2, h3, eh, em, (by omega : 0 ≤ h), (by omega : 0 ≤ m), cutAt]
  split <;> simp
/-- x[l:h:m]. -/
theorem wpList_slc3 {ty e : TypeId} {z : Value} {size bytes : Nat} {x lo hi mx : Operand} {ad : Addr} {n c : Nat} {kl kh km : IntKind} {l h mm : Int} {a' : Act} (ln m cn : Nat)
    (k : wpList P ops Q rest a' w)
    (hw : Region.wanted o (yielded ops a.tmps) = true := by rfl) (ho : o.op = .slice ty x (some lo) (some hi) (some mx) := by rfl) (ht : TSlice P ty e := by infer_instance) (he : TElem P e z size bytes := by infer_instance)
    (hx : slot a x = some (.slice (some ad) n c) := by rfl) (hlo : slot a lo = some (.int kl l) := by rfl) (hhi : slot a hi = some (.int kh h) := by rfl) (hmx : slot a mx = some (.int km mm) := by rfl)
    (hl : l.toNat = ln := by omega) (hm : h.toNat = ln + m := by omega) (hcn : mm.toNat = cn := by omega) (h0 : 0 ≤ l := by omega) (h1 : l ≤ h := by omega) (h2 : h ≤ mm := by omega) (h3 : mm ≤ c := by omega)
    (hput : Put a o.dst (.slice (some (cutAt ad ln cn size)) m (cn - ln)) a' := by exact put_of (by conv => lhs; simp only [List.set_cons_succ, List.set_cons_zero])) : wpList P ops Q (o :: rest) a w := by
  have := run_slc3 (P := P) (w := w) (o := o) (a := a) x lo hi mx ho (eval_slot hx) (eval_slot hlo) (eval_slot hhi) (eval_slot hmx) h0 h1 h2 h3
  rw [hl, hm, hcn, Nat.add_sub_cancel_left] at this
  exact wpList_run hw this (hput.is ▸ k)
end

set_option maxHeartbeats 1600000 in
set_option maxRecDepth 100000 in
theorem sum64 (v : Value) (n : Nat) (l : List UInt8) (w : World) (hs : Src w 1 v n (u8s l)) (hv : ∃ a c, v = .slice a n c ∧ n ≤ maxLen ∧ n ≤ c) (hp : w.cell? ⟨0, 0, none⟩ = some (.int .u64 11400714785074694791)) (hsm : (n : Int) ≤ 4294967296) :
    Calls Tryd.prog 11 #[v] w fun e w' => e = .returned (.int .u64 (xx l)) ∧ St w [] w' [] := by
  have S := St.begin w
  obtain ⟨a, c, rfl, hm, hc⟩ := hv
  unfold maxLen at hm
  have hs := hidden hs
  go_enter Tryd.func11, Tryd.ntmps11
  go_upto_if 15 with fail
  go_cut [0, 4] from 5 (fun b h w' => ∃ (a : Option Addr) (n' c' : Nat) (l' : List UInt8) (z : Int), b = .slice a n' c' ∧ h = .int .u64 z ∧ n' ≤ n ∧ n' ≤ c' ∧ Hid (Src w 1 (.slice a n' c') n' (u8s l')) ∧ Hid ((z, l') = if 32 ≤ l.length then (merged (begun l), (begun l).2.2.2.2) else (2870177450012600261, l)) ∧ St w [] w' [])
  case first =>
    by_cases h32 : 32 ≤ n
    · have h32' : ¬ ((n : Int) < 32) := by omega
      obtain ⟨a, rfl⟩ : ∃ x, a = some x := by
        cases a with
        | some x => exact ⟨x, rfl⟩
        | none =>
          have h1 := (hs.out.2.2 : n = n ∧ u8s l = []).2
          have h2 := hs.out.len8
          simp [u8s] at h1; subst h1; simp at h2; omega
      go_wp2_with (first | (refine wpList_ldc S ?_))
      go_loopg [0, 5, 6, 7, 8] n (fun g b v1 v2 v3 v4 wr => ∃ (ad : Addr) (n' c' : Nat) (l' : List UInt8) (z1 z2 z3 z4 : Int), b = .slice (some ad) n' c' ∧ v1 = .int .u64 z1 ∧ v2 = .int .u64 z2 ∧ v3 = .int .u64 z3 ∧ v4 = .int .u64 z4 ∧ n' ≤ g ∧ n' ≤ n ∧ n' ≤ c' ∧ Hid (Src w 1 (.slice (some ad) n' c') n' (u8s l')) ∧ Hid (U64 z1 ∧ U64 z2 ∧ U64 z3 ∧ U64 z4) ∧ Hid (lanes z1 z2 z3 z4 l' = begun l) ∧ St w [] wr [])
      case atStart => exact ⟨a, n, c, l, _, _, _, _, rfl, rfl, rfl, rfl, rfl, Nat.le_refl _, Nat.le_refl _, hc, hs, hidden ⟨wrap_u64' _, by unfold U64; omega, by unfold U64; omega, wrap_u64' _⟩, hidden rfl, S⟩
      case round =>
        obtain ⟨ad, n', c', l', z1, z2, z3, z4, rfl, rfl, rfl, rfl, rfl, hg, hn', hc', hs', hU, hla, S⟩ := hrel
        by_cases hlt : 32 ≤ n'
        · have hlt' : ¬ ((n' : Int) < 32) := by omega
          go_wp2_with (first | (refine wpList_slc3 0 8 n' ?_) | (refine wpList_slc3 8 8 n' ?_) | (refine wpList_slc3 16 8 n' ?_) | (refine wpList_slc3 24 8 n' ?_) | (refine wpList_slc3 32 (n' - 32) n' ?_))
          refine Calls.mono (xxu64 _ 8 _ _ _ (((show Src w 1 (.slice (some ad) n' n') n' (u8s l') from hs'.out).cut 0 8 _ (by omega) (Nat.le_refl _)).on S.chg) (by omega) (by unfold maxLen; omega)) ?_
          rintro e w2 ⟨rfl, C⟩
          have S2 := S.call C; clear S C; simp only [List.cons_append, List.nil_append] at S2; have S := S2; clear S2
          rw [List.take_take, Nat.min_self]
          go_wp2_with fail
          refine Calls.mono (round _ _ _) ?_
          rintro e w2 ⟨rfl, C⟩
          have S2 := S.call C; clear S C; simp only [List.cons_append, List.nil_append] at S2; have S := S2; clear S2
          go_wp2_with (first | (refine wpList_slc3 0 8 n' ?_) | (refine wpList_slc3 8 8 n' ?_) | (refine wpList_slc3 16 8 n' ?_) | (refine wpList_slc3 24 8 n' ?_) | (refine wpList_slc3 32 (n' - 32) n' ?_))
          refine Calls.mono (xxu64 _ 8 _ _ _ (((show Src w 1 (.slice (some ad) n' n') n' (u8s l') from hs'.out).cut 8 8 _ (by omega) (Nat.le_refl _)).on S.chg) (by omega) (by unfold maxLen; omega)) ?_
          rintro e w2 ⟨rfl, C⟩
          have S2 := S.call C; clear S C; simp only [List.cons_append, List.nil_append] at S2; have S := S2; clear S2
          rw [List.take_take, Nat.min_self]
          go_wp2_with fail
          refine Calls.mono (round _ _ _) ?_
          rintro e w2 ⟨rfl, C⟩
          have S2 := S.call C; clear S C; simp only [List.cons_append, List.nil_append] at S2; have S := S2; clear S2
          go_wp2_with (first | (refine wpList_slc3 0 8 n' ?_) | (refine wpList_slc3 8 8 n' ?_) | (refine wpList_slc3 16 8 n' ?_) | (refine wpList_slc3 24 8 n' ?_) | (refine wpList_slc3 32 (n' - 32) n' ?_))
          refine Calls.mono (xxu64 _ 8 _ _ _ (((show Src w 1 (.slice (some ad) n' n') n' (u8s l') from hs'.out).cut 16 8 _ (by omega) (Nat.le_refl _)).on S.chg) (by omega) (by unfold maxLen; omega)) ?_
          rintro e w2 ⟨rfl, C⟩
          have S2 := S.call C; clear S C; simp only [List.cons_append, List.nil_append] at S2; have S := S2; clear S2
          rw [List.take_take, Nat.min_self]
          go_wp2_with fail
          refine Calls.mono (round _ _ _) ?_
          rintro e w2 ⟨rfl, C⟩
          have S2 := S.call C; clear S C; simp only [List.cons_append, List.nil_append] at S2; have S := S2; clear S2
          go_wp2_with (first | (refine wpList_slc3 0 8 n' ?_) | (refine wpList_slc3 8 8 n' ?_) | (refine wpList_slc3 16 8 n' ?_) | (refine wpList_slc3 24 8 n' ?_) | (refine wpList_slc3 32 (n' - 32) n' ?_))
          refine Calls.mono (xxu64 _ 8 _ _ _ (((show Src w 1 (.slice (some ad) n' n') n' (u8s l') from hs'.out).cut 24 8 _ (by omega) (Nat.le_refl _)).on S.chg) (by omega) (by unfold maxLen; omega)) ?_
          rintro e w2 ⟨rfl, C⟩
          have S2 := S.call C; clear S C; simp only [List.cons_append, List.nil_append] at S2; have S := S2; clear S2
          rw [List.take_take, Nat.min_self]
          go_wp2_with fail
          refine Calls.mono (round _ _ _) ?_
          rintro e w2 ⟨rfl, C⟩
          have S2 := S.call C; clear S C; simp only [List.cons_append, List.nil_append] at S2; have S := S2; clear S2
          go_wp2_with (first | (refine wpList_slc3 0 8 n' ?_) | (refine wpList_slc3 8 8 n' ?_) | (refine wpList_slc3 16 8 n' ?_) | (refine wpList_slc3 24 8 n' ?_) | (refine wpList_slc3 32 (n' - 32) n' ?_))
          have hll := hs'.out.len8
          rw [lanes_more _ _ _ _ _ (by omega)] at hla
          have hs2 := hidden ((show Src w 1 (.slice (some ad) n' n') n' (u8s l') from hs'.out).cut 32 (n' - 32) (n' - 32) (by omega) (Nat.le_refl _))
          rw [List.take_of_length_le (by simp; omega)] at hs2
          go_roundg (gk - 1)
          case measure => omega
          case rel => exact ⟨_, _, _, _, _, _, _, _, rfl, rfl, rfl, rfl, rfl, by omega, by omega, Nat.le_refl _, hs2, hidden ⟨rnd_u64 _ _, rnd_u64 _ _, rnd_u64 _ _, rnd_u64 _ _⟩, hla, S⟩
        · have hlt' : (n' : Int) < 32 := by omega
          go_wp2_with fail
          refine Calls.mono (rol1 z1 _ hU.out.1) ?_
          rintro e w2 ⟨rfl, C⟩
          have S2 := S.call C; clear S C; simp only [List.cons_append, List.nil_append] at S2; have S := S2; clear S2
          go_wp2_with fail
          refine Calls.mono (rol7 z2 _ hU.out.2.1) ?_
          rintro e w2 ⟨rfl, C⟩
          have S2 := S.call C; clear S C; simp only [List.cons_append, List.nil_append] at S2; have S := S2; clear S2
          go_wp2_with fail
          refine Calls.mono (rol12 z3 _ hU.out.2.2.1) ?_
          rintro e w2 ⟨rfl, C⟩
          have S2 := S.call C; clear S C; simp only [List.cons_append, List.nil_append] at S2; have S := S2; clear S2
          go_wp2_with fail
          refine Calls.mono (rol18 z4 _ hU.out.2.2.2) ?_
          rintro e w2 ⟨rfl, C⟩
          have S2 := S.call C; clear S C; simp only [List.cons_append, List.nil_append] at S2; have S := S2; clear S2
          go_wp2_with fail
          refine Calls.mono (merge _ _ _) ?_
          rintro e w2 ⟨rfl, C⟩
          have S2 := S.call C; clear S C; simp only [List.cons_append, List.nil_append] at S2; have S := S2; clear S2
          go_wp2_with fail
          refine Calls.mono (merge _ _ _) ?_
          rintro e w2 ⟨rfl, C⟩
          have S2 := S.call C; clear S C; simp only [List.cons_append, List.nil_append] at S2; have S := S2; clear S2
          go_wp2_with fail
          refine Calls.mono (merge _ _ _) ?_
          rintro e w2 ⟨rfl, C⟩
          have S2 := S.call C; clear S C; simp only [List.cons_append, List.nil_append] at S2; have S := S2; clear S2
          go_wp2_with fail
          refine Calls.mono (merge _ _ _) ?_
          rintro e w2 ⟨rfl, C⟩
          have S2 := S.call C; clear S C; simp only [List.cons_append, List.nil_append] at S2; have S := S2; clear S2
          go_wp2_with fail
          go_meet
          have hb := hla.out
          rw [lanes_end _ _ _ _ _ (by have := hs'.out.len8; omega)] at hb
          exact ⟨some ad, n', c', l', merged (z1, z2, z3, z4, l'), rfl, rfl, hn', hc', hs', hidden (by rw [if_pos (by have := hs.out.len8; omega), ← hb]), S⟩
    · have h32' : (n : Int) < 32 := by omega
      go_wp2_with fail
      go_meet
      exact ⟨a, n, c, l, _, rfl, rfl, Nat.le_refl _, hc, hs, hidden (by rw [if_neg (by have := hs.out.len8; omega)]), S⟩
  case rest =>
    obtain ⟨a', n', c', l', z, hb, hh, hn', hc', hs', hz, S⟩ := hcut
    subst hb hh
    have hll := hidden hs'.out.len8
    go_wp2_with fail
    go_loopg [4, 9] n' (fun g h i wr => ∃ (j : Nat) (h' : Int), j + g = n' ∧ i = .int .i64 j ∧ h = .int .u64 h' ∧ Hid (eights h' (l'.drop j) = eights (IntKind.u64.wrap (z + n)) l') ∧ Hid (U64 h') ∧ St w [] wr [])
    case atStart => exact ⟨0, _, by omega, rfl, rfl, hidden rfl, hidden (wrap_u64' _), S⟩
    case round =>
      obtain ⟨j, h', hj, rfl, rfl, he, hu, S⟩ := hrel
      by_cases hlt : (j : Int) + 8 ≤ n'
      · obtain ⟨ad, rfl⟩ : ∃ x, a' = some x := by
          cases a' with
          | some x => exact ⟨x, rfl⟩
          | none =>
            have h1 := (hs'.out.2.2 : n' = n' ∧ u8s l' = []).2
            have h2 := hll.out
            simp [u8s] at h1; subst h1; simp at h2; omega
        go_wp2_with (first | (refine wpList_slc3 j 8 n' ?_))
        refine Calls.mono (xxu64 _ 8 _ _ _ (((show Src w 1 (.slice (some ad) n' n') n' (u8s l') from hs'.out).cut j 8 _ (by omega) (Nat.le_refl _)).on S.chg) (by omega) (by unfold maxLen; omega)) ?_
        rintro e w2 ⟨rfl, C⟩
        have S2 := S.call C; clear S C; simp only [List.cons_append, List.nil_append] at S2; have S := S2; clear S2
        rw [List.take_take, Nat.min_self]
        go_wp2_with fail
        refine Calls.mono (round _ _ _) ?_
        rintro e w2 ⟨rfl, C⟩
        have S2 := S.call C; clear S C; simp only [List.cons_append, List.nil_append] at S2; have S := S2; clear S2
        go_wp2_with fail
        refine Calls.mono (rol27 _ _ (xor_u64 _ _ hu.out (rnd_u64 _ _))) ?_
        rintro e w2 ⟨rfl, C⟩
        have S2 := S.call C; clear S C; simp only [List.cons_append, List.nil_append] at S2; have S := S2; clear S2
        go_wp2_with fail
        have he := he.out
        rw [eights_more _ _ (by have := hll.out; simp; omega)] at he
        go_roundg (gk - 8)
        case measure => omega
        case rel => exact ⟨j + 8, _, by omega, rfl, rfl, hidden (by rw [← he, List.drop_drop]; rfl), hidden (wrap_u64' _), S⟩
      · have he2 := hidden (he.out.symm.trans (eights_end h' (l'.drop j) (by have := hll.out; simp; omega)))
        by_cases h4 : (j : Int) + 4 ≤ n'
        · obtain ⟨ad, rfl⟩ : ∃ x, a' = some x := by
            cases a' with
            | some x => exact ⟨x, rfl⟩
            | none =>
              have h1 := (hs'.out.2.2 : n' = n' ∧ u8s l' = []).2
              have h2 := hll.out
              simp [u8s] at h1; subst h1; simp at h2; omega
          go_wp2_with (first | (refine wpList_slc3 j 4 n' ?_))
          refine Calls.mono (xxu32 _ 4 _ _ _ (((show Src w 1 (.slice (some ad) n' n') n' (u8s l') from hs'.out).cut j 4 _ (by omega) (Nat.le_refl _)).on S.chg) (by omega) (by unfold maxLen; omega)) ?_
          rintro e w2 ⟨rfl, C⟩
          have S2 := S.call C; clear S C; simp only [List.cons_append, List.nil_append] at S2; have S := S2; clear S2
          rw [List.take_take, Nat.min_self]
          go_wp2_with fail
          have hv : IntKind.u64.wrap ((leVal ((l'.drop j).take 4) : Nat) : Int) = ((leVal ((l'.drop j).take 4) : Nat) : Int) := by
            have h1 := leVal_lt ((l'.drop j).take 4)
            have h2 : ((l'.drop j).take 4).length = 4 := by have := hll.out; simp; omega
            rw [h2] at h1
            rw [IntKind.wrap_u64]; omega
          rw [hv]
          refine Calls.mono (rol23 _ _ (xor_u64 _ _ hu.out (wrap_u64' _))) ?_
          rintro e w2 ⟨rfl, C⟩
          have S2 := S.call C; clear S C; simp only [List.cons_append, List.nil_append] at S2; have S := S2; clear S2
          go_wp2_with fail
          go_loopg [4, 9] (n' - (j + 4)) (fun g h i wr => ∃ (k : Nat) (h1 : Int), k + g = n' ∧ i = .int .i64 k ∧ h = .int .u64 h1 ∧ Hid (ones h1 (l'.drop k) = ones (four h' (leVal ((l'.drop j).take 4))) (l'.drop (j + 4))) ∧ Hid (U64 h1) ∧ St w [] wr [])
          case atStart => exact ⟨(j + 4), _, by omega, rfl, rfl, hidden rfl, hidden (show U64 (four h' (leVal ((l'.drop j).take 4))) from wrap_u64' _), S⟩
          case round =>
            obtain ⟨k, h1, hk, rfl, rfl, ho, hu1, S⟩ := hrel
            by_cases hkn : k < n'
            · have g0 := hs'.out.byte k (by omega)
              have hdr : l'.drop k = l'.getD k 0 :: l'.drop (k + 1) := by
                rw [List.drop_eq_getElem_cons (by have := hll.out; omega)]
                simp [List.getD, List.getElem?_eq_getElem (show k < l'.length by have := hll.out; omega)]
              generalize l'.getD k 0 = x at g0 hdr
              have ho2 := hidden (show ones (one h1 x) (l'.drop (k + 1)) = ones h1 (l'.drop k) by rw [hdr]; rfl)
              clear hdr
              go_wp2_with (first | (refine wpList_ldc S ?_))
              refine Calls.mono (rol11 _ _ (xor_u64 _ _ hu1.out (wrap_u64' _))) ?_
              rintro e w2 ⟨rfl, C⟩
              have S2 := S.call C; clear S C; simp only [List.cons_append, List.nil_append] at S2; have S := S2; clear S2
              go_wp2_with fail
              go_roundg (gk - 1)
              case measure => omega
              case rel => exact ⟨k + 1, one h1 x, by omega, rfl, rfl, hidden (ho2.out.trans ho.out), hidden (wrap_u64' _), S⟩
            · go_wp2_with fail
              go_ret
              have e1 : l'.drop k = [] := List.drop_eq_nil_of_le (by have := hll.out; omega)
              have e2 := ho.out
              rw [e1] at e2
              refine ⟨retI ?_, S⟩
              show last h1 = xx l
              have e3 : h1 = ones (four h' (leVal ((l'.drop j).take 4))) (l'.drop (j + 4)) := e2
              rw [xx_of l l' z n hs.out.len8 hsm hz.out, he2.out, fours_more _ _ (by have := hll.out; simp; omega), List.drop_drop, e3]
        · go_wp2_with fail
          go_loopg [4, 9] (n' - j) (fun g h i wr => ∃ (k : Nat) (h1 : Int), k + g = n' ∧ i = .int .i64 k ∧ h = .int .u64 h1 ∧ Hid (ones h1 (l'.drop k) = ones h' (l'.drop j)) ∧ Hid (U64 h1) ∧ St w [] wr [])
          case atStart => exact ⟨j, _, by omega, rfl, rfl, hidden rfl, hu, S⟩
          case round =>
            obtain ⟨k, h1, hk, rfl, rfl, ho, hu1, S⟩ := hrel
            by_cases hkn : k < n'
            · obtain ⟨ad, rfl⟩ : ∃ x, a' = some x := by
                cases a' with
                | some x => exact ⟨x, rfl⟩
                | none =>
                  have h1 := (hs'.out.2.2 : n' = n' ∧ u8s l' = []).2
                  have h2 := hll.out
                  simp [u8s] at h1; subst h1; simp at h2; omega
              have g0 := hs'.out.byte k (by omega)
              have hdr : l'.drop k = l'.getD k 0 :: l'.drop (k + 1) := by
                rw [List.drop_eq_getElem_cons (by have := hll.out; omega)]
                simp [List.getD, List.getElem?_eq_getElem (show k < l'.length by have := hll.out; omega)]
              generalize l'.getD k 0 = x at g0 hdr
              have ho2 := hidden (show ones (one h1 x) (l'.drop (k + 1)) = ones h1 (l'.drop k) by rw [hdr]; rfl)
              clear hdr
              go_wp2_with (first | (refine wpList_ldc S ?_))
              refine Calls.mono (rol11 _ _ (xor_u64 _ _ hu1.out (wrap_u64' _))) ?_
              rintro e w2 ⟨rfl, C⟩
              have S2 := S.call C; clear S C; simp only [List.cons_append, List.nil_append] at S2; have S := S2; clear S2
              go_wp2_with fail
              go_roundg (gk - 1)
              case measure => omega
              case rel => exact ⟨k + 1, one h1 x, by omega, rfl, rfl, hidden (ho2.out.trans ho.out), hidden (wrap_u64' _), S⟩
            · go_wp2_with fail
              go_ret
              have e1 : l'.drop k = [] := List.drop_eq_nil_of_le (by have := hll.out; omega)
              have e2 := ho.out
              rw [e1] at e2
              refine ⟨retI ?_, S⟩
              show last h1 = xx l
              have e3 : h1 = ones h' (l'.drop j) := e2
              rw [xx_of l l' z n hs.out.len8 hsm hz.out, he2.out, fours_end _ _ (by have := hll.out; simp; omega), e3]
end Go.Proofs.YtikjncdomgkcjaaDoor
