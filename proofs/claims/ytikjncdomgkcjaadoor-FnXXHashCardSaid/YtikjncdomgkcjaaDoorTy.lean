/- Printed by gen_ty.py: what the laws of the calculus of memory ask of the types of this program. -/
import Derived.Test.YtikjncdomgkcjaaDoorGrow
import Derived.Test.YtikjncdomgkcjaaDoorRows
namespace Go.Proofs.YtikjncdomgkcjaaDoor
open Go.Vil
set_option linter.unusedVariables false
theorem info_of {P : Go.Program} {e : Go.TypeId} {i : Go.TypeInfo} {w : Go.World} (h : Go.Sem.run P (Go.typeInfo e) w = .ok i w) : P.info? e = some i := by
  unfold Go.typeInfo at h
  cases hi : P.info? e with
  | none => simp [hi] at h
  | some j => simp [hi] at h; rw [h]
instance : TOne Tryd.prog 0 := ⟨Tryd.isAgg0, Tryd.sizeOf0⟩
instance : TZero Tryd.prog 0 (Go.Value.tuple #[]) := ⟨Tryd.zeroValue0⟩
instance : TElem Tryd.prog 0 (Go.Value.tuple #[]) 1 0 := ⟨Tryd.t0, info_of (Tryd.typeInfo0 default), rfl, rfl, rfl, rfl⟩
instance : TOne Tryd.prog 1 := ⟨Tryd.isAgg1, Tryd.sizeOf1⟩
instance : TZero Tryd.prog 1 (Go.Value.nilFunc) := ⟨Tryd.zeroValue1⟩
instance : TElem Tryd.prog 1 (Go.Value.nilFunc) 1 8 := ⟨Tryd.t1, info_of (Tryd.typeInfo1 default), rfl, rfl, rfl, rfl⟩
instance : TOne Tryd.prog 2 := ⟨Tryd.isAgg2, Tryd.sizeOf2⟩
instance : TZero Tryd.prog 2 (Go.Value.int Go.IntKind.i64 0) := ⟨Tryd.zeroValue2⟩
instance : TElem Tryd.prog 2 (Go.Value.int Go.IntKind.i64 0) 1 8 := ⟨Tryd.t2, info_of (Tryd.typeInfo2 default), rfl, rfl, rfl, rfl⟩
instance : TOne Tryd.prog 3 := ⟨Tryd.isAgg3, Tryd.sizeOf3⟩
instance : TZero Tryd.prog 3 (Go.Value.int Go.IntKind.i64 0) := ⟨Tryd.zeroValue3⟩
instance : TElem Tryd.prog 3 (Go.Value.int Go.IntKind.i64 0) 1 8 := ⟨Tryd.t3, info_of (Tryd.typeInfo3 default), rfl, rfl, rfl, rfl⟩
instance : TOne Tryd.prog 4 := ⟨Tryd.isAgg4, Tryd.sizeOf4⟩
instance : TZero Tryd.prog 4 (Go.Value.bool Bool.false) := ⟨Tryd.zeroValue4⟩
instance : TElem Tryd.prog 4 (Go.Value.bool Bool.false) 1 1 := ⟨Tryd.t4, info_of (Tryd.typeInfo4 default), rfl, rfl, rfl, rfl⟩
instance : TOne Tryd.prog 5 := ⟨Tryd.isAgg5, Tryd.sizeOf5⟩
instance : TZero Tryd.prog 5 (Go.Value.int Go.IntKind.u8 0) := ⟨Tryd.zeroValue5⟩
instance : TU8 Tryd.prog 5 := ⟨Tryd.underlying5⟩
instance : TElem Tryd.prog 5 (Go.Value.int Go.IntKind.u8 0) 1 1 := ⟨Tryd.t5, info_of (Tryd.typeInfo5 default), rfl, rfl, rfl, rfl⟩
instance : TOne Tryd.prog 6 := ⟨Tryd.isAgg6, Tryd.sizeOf6⟩
instance : TZero Tryd.prog 6 (Go.Value.int Go.IntKind.u8 0) := ⟨Tryd.zeroValue6⟩
instance : TU8 Tryd.prog 6 := ⟨Tryd.underlying6⟩
instance : TElem Tryd.prog 6 (Go.Value.int Go.IntKind.u8 0) 1 1 := ⟨Tryd.t6, info_of (Tryd.typeInfo6 default), rfl, rfl, rfl, rfl⟩
instance : TAgg Tryd.prog 7 4 := ⟨Tryd.isAgg7, Tryd.sizeOf7⟩
instance : TZero Tryd.prog 7 (Go.Value.agg #[Go.Value.int Go.IntKind.i64 0, Go.Value.int Go.IntKind.i64 0, Go.Value.bool Bool.false, Go.Value.int Go.IntKind.u8 0]) := ⟨Tryd.zeroValue7⟩
instance : TElem Tryd.prog 7 (Go.Value.agg #[Go.Value.int Go.IntKind.i64 0, Go.Value.int Go.IntKind.i64 0, Go.Value.bool Bool.false, Go.Value.int Go.IntKind.u8 0]) 4 24 := ⟨Tryd.t7, info_of (Tryd.typeInfo7 default), rfl, rfl, rfl, rfl⟩
instance : TAgg Tryd.prog 8 4 := ⟨Tryd.isAgg8, Tryd.sizeOf8⟩
instance : TZero Tryd.prog 8 (Go.Value.agg #[Go.Value.int Go.IntKind.i64 0, Go.Value.int Go.IntKind.i64 0, Go.Value.bool Bool.false, Go.Value.int Go.IntKind.u8 0]) := ⟨Tryd.zeroValue8⟩
instance : TElem Tryd.prog 8 (Go.Value.agg #[Go.Value.int Go.IntKind.i64 0, Go.Value.int Go.IntKind.i64 0, Go.Value.bool Bool.false, Go.Value.int Go.IntKind.u8 0]) 4 24 := ⟨Tryd.t8, info_of (Tryd.typeInfo8 default), rfl, rfl, rfl, rfl⟩
instance : TOne Tryd.prog 9 := ⟨Tryd.isAgg9, Tryd.sizeOf9⟩
instance : TZero Tryd.prog 9 (Go.Value.string { data := #[] }) := ⟨Tryd.zeroValue9⟩
instance : TStr Tryd.prog 9 := ⟨Tryd.underlying9⟩
instance : TRow Tryd.prog 9 := ⟨_, Tryd.underlying9, by intro k h; cases h⟩
instance : TElem Tryd.prog 9 (Go.Value.string { data := #[] }) 1 16 := ⟨Tryd.t9, info_of (Tryd.typeInfo9 default), rfl, rfl, rfl, rfl⟩
instance : TOne Tryd.prog 10 := ⟨Tryd.isAgg10, Tryd.sizeOf10⟩
instance : TZero Tryd.prog 10 (Go.Value.string { data := #[] }) := ⟨Tryd.zeroValue10⟩
instance : TStr Tryd.prog 10 := ⟨Tryd.underlying10⟩
instance : TRow Tryd.prog 10 := ⟨_, Tryd.underlying10, by intro k h; cases h⟩
instance : TElem Tryd.prog 10 (Go.Value.string { data := #[] }) 1 16 := ⟨Tryd.t10, info_of (Tryd.typeInfo10 default), rfl, rfl, rfl, rfl⟩
instance : TOne Tryd.prog 11 := ⟨Tryd.isAgg11, Tryd.sizeOf11⟩
instance : TZero Tryd.prog 11 (Go.Value.string { data := #[] }) := ⟨Tryd.zeroValue11⟩
instance : TStr Tryd.prog 11 := ⟨Tryd.underlying11⟩
instance : TRow Tryd.prog 11 := ⟨_, Tryd.underlying11, by intro k h; cases h⟩
instance : TElem Tryd.prog 11 (Go.Value.string { data := #[] }) 1 16 := ⟨Tryd.t11, info_of (Tryd.typeInfo11 default), rfl, rfl, rfl, rfl⟩
instance : TOne Tryd.prog 12 := ⟨Tryd.isAgg12, Tryd.sizeOf12⟩
instance : TZero Tryd.prog 12 (Go.Value.int Go.IntKind.u64 0) := ⟨Tryd.zeroValue12⟩
instance : TElem Tryd.prog 12 (Go.Value.int Go.IntKind.u64 0) 1 8 := ⟨Tryd.t12, info_of (Tryd.typeInfo12 default), rfl, rfl, rfl, rfl⟩
instance : TAgg Tryd.prog 13 2 := ⟨Tryd.isAgg13, Tryd.sizeOf13⟩
instance : TZero Tryd.prog 13 (Go.Value.agg #[Go.Value.string { data := #[] }, Go.Value.int Go.IntKind.u64 0]) := ⟨Tryd.zeroValue13⟩
instance : TElem Tryd.prog 13 (Go.Value.agg #[Go.Value.string { data := #[] }, Go.Value.int Go.IntKind.u64 0]) 2 24 := ⟨Tryd.t13, info_of (Tryd.typeInfo13 default), rfl, rfl, rfl, rfl⟩
instance : TAgg Tryd.prog 14 2 := ⟨Tryd.isAgg14, Tryd.sizeOf14⟩
instance : TZero Tryd.prog 14 (Go.Value.agg #[Go.Value.string { data := #[] }, Go.Value.int Go.IntKind.u64 0]) := ⟨Tryd.zeroValue14⟩
instance : TElem Tryd.prog 14 (Go.Value.agg #[Go.Value.string { data := #[] }, Go.Value.int Go.IntKind.u64 0]) 2 24 := ⟨Tryd.t14, info_of (Tryd.typeInfo14 default), rfl, rfl, rfl, rfl⟩
instance : TOne Tryd.prog 15 := ⟨Tryd.isAgg15, Tryd.sizeOf15⟩
instance : TZero Tryd.prog 15 (Go.Value.pointer Option.none) := ⟨Tryd.zeroValue15⟩
instance : TElem Tryd.prog 15 (Go.Value.pointer Option.none) 1 8 := ⟨Tryd.t15, info_of (Tryd.typeInfo15 default), rfl, rfl, rfl, rfl⟩
instance : TOne Tryd.prog 16 := ⟨Tryd.isAgg16, Tryd.sizeOf16⟩
instance : TZero Tryd.prog 16 (Go.Value.pointer Option.none) := ⟨Tryd.zeroValue16⟩
instance : TElem Tryd.prog 16 (Go.Value.pointer Option.none) 1 8 := ⟨Tryd.t16, info_of (Tryd.typeInfo16 default), rfl, rfl, rfl, rfl⟩
instance : TOne Tryd.prog 17 := ⟨Tryd.isAgg17, Tryd.sizeOf17⟩
instance : TZero Tryd.prog 17 (Go.Value.pointer Option.none) := ⟨Tryd.zeroValue17⟩
instance : TElem Tryd.prog 17 (Go.Value.pointer Option.none) 1 8 := ⟨Tryd.t17, info_of (Tryd.typeInfo17 default), rfl, rfl, rfl, rfl⟩
instance : TAgg Tryd.prog 18 1 := ⟨Tryd.isAgg18, Tryd.sizeOf18⟩
instance : TZero Tryd.prog 18 (Go.Value.agg #[Go.Value.pointer Option.none]) := ⟨Tryd.zeroValue18⟩
instance : TElem Tryd.prog 18 (Go.Value.agg #[Go.Value.pointer Option.none]) 1 8 := ⟨Tryd.t18, info_of (Tryd.typeInfo18 default), rfl, rfl, rfl, rfl⟩
instance : TAgg Tryd.prog 19 1 := ⟨Tryd.isAgg19, Tryd.sizeOf19⟩
instance : TZero Tryd.prog 19 (Go.Value.agg #[Go.Value.pointer Option.none]) := ⟨Tryd.zeroValue19⟩
instance : TElem Tryd.prog 19 (Go.Value.agg #[Go.Value.pointer Option.none]) 1 8 := ⟨Tryd.t19, info_of (Tryd.typeInfo19 default), rfl, rfl, rfl, rfl⟩
instance : TOne Tryd.prog 20 := ⟨Tryd.isAgg20, Tryd.sizeOf20⟩
instance : TZero Tryd.prog 20 (Go.Value.nilIface) := ⟨Tryd.zeroValue20⟩
instance : TElem Tryd.prog 20 (Go.Value.nilIface) 1 16 := ⟨Tryd.t20, info_of (Tryd.typeInfo20 default), rfl, rfl, rfl, rfl⟩
instance : TOne Tryd.prog 21 := ⟨Tryd.isAgg21, Tryd.sizeOf21⟩
instance : TZero Tryd.prog 21 (Go.Value.int Go.IntKind.i32 0) := ⟨Tryd.zeroValue21⟩
instance : TElem Tryd.prog 21 (Go.Value.int Go.IntKind.i32 0) 1 4 := ⟨Tryd.t21, info_of (Tryd.typeInfo21 default), rfl, rfl, rfl, rfl⟩
instance : TOne Tryd.prog 22 := ⟨Tryd.isAgg22, Tryd.sizeOf22⟩
instance : TZero Tryd.prog 22 (Go.Value.slice Option.none 0 0) := ⟨Tryd.zeroValue22⟩
instance : TSlice Tryd.prog 22 5 := ⟨Tryd.underlying22⟩
instance : TRow Tryd.prog 22 := ⟨_, Tryd.underlying22, by intro k h; cases h⟩
instance : TElem Tryd.prog 22 (Go.Value.slice Option.none 0 0) 1 24 := ⟨Tryd.t22, info_of (Tryd.typeInfo22 default), rfl, rfl, rfl, rfl⟩
instance : TOne Tryd.prog 23 := ⟨Tryd.isAgg23, Tryd.sizeOf23⟩
instance : TZero Tryd.prog 23 (Go.Value.int Go.IntKind.u64 0) := ⟨Tryd.zeroValue23⟩
instance : TElem Tryd.prog 23 (Go.Value.int Go.IntKind.u64 0) 1 8 := ⟨Tryd.t23, info_of (Tryd.typeInfo23 default), rfl, rfl, rfl, rfl⟩
instance : TOne Tryd.prog 24 := ⟨Tryd.isAgg24, Tryd.sizeOf24⟩
instance : TZero Tryd.prog 24 (Go.Value.nilFunc) := ⟨Tryd.zeroValue24⟩
instance : TElem Tryd.prog 24 (Go.Value.nilFunc) 1 8 := ⟨Tryd.t24, info_of (Tryd.typeInfo24 default), rfl, rfl, rfl, rfl⟩
instance : TOne Tryd.prog 25 := ⟨Tryd.isAgg25, Tryd.sizeOf25⟩
instance : TZero Tryd.prog 25 (Go.Value.nilFunc) := ⟨Tryd.zeroValue25⟩
instance : TElem Tryd.prog 25 (Go.Value.nilFunc) 1 8 := ⟨Tryd.t25, info_of (Tryd.typeInfo25 default), rfl, rfl, rfl, rfl⟩
instance : TAgg Tryd.prog 26 4 := ⟨Tryd.isAgg26, Tryd.sizeOf26⟩
instance : TZero Tryd.prog 26 (Go.Value.agg #[Go.Value.int Go.IntKind.u64 0, Go.Value.int Go.IntKind.u64 0, Go.Value.int Go.IntKind.u64 0, Go.Value.int Go.IntKind.u64 0]) := ⟨Tryd.zeroValue26⟩
instance : TElem Tryd.prog 26 (Go.Value.agg #[Go.Value.int Go.IntKind.u64 0, Go.Value.int Go.IntKind.u64 0, Go.Value.int Go.IntKind.u64 0, Go.Value.int Go.IntKind.u64 0]) 4 32 := ⟨Tryd.t26, info_of (Tryd.typeInfo26 default), rfl, rfl, rfl, rfl⟩
instance : TOne Tryd.prog 27 := ⟨Tryd.isAgg27, Tryd.sizeOf27⟩
instance : TZero Tryd.prog 27 (Go.Value.nilFunc) := ⟨Tryd.zeroValue27⟩
instance : TElem Tryd.prog 27 (Go.Value.nilFunc) 1 8 := ⟨Tryd.t27, info_of (Tryd.typeInfo27 default), rfl, rfl, rfl, rfl⟩
instance : TOne Tryd.prog 28 := ⟨Tryd.isAgg28, Tryd.sizeOf28⟩
instance : TZero Tryd.prog 28 (Go.Value.nilFunc) := ⟨Tryd.zeroValue28⟩
instance : TElem Tryd.prog 28 (Go.Value.nilFunc) 1 8 := ⟨Tryd.t28, info_of (Tryd.typeInfo28 default), rfl, rfl, rfl, rfl⟩
instance : TOne Tryd.prog 29 := ⟨Tryd.isAgg29, Tryd.sizeOf29⟩
instance : TZero Tryd.prog 29 (Go.Value.nilFunc) := ⟨Tryd.zeroValue29⟩
instance : TElem Tryd.prog 29 (Go.Value.nilFunc) 1 8 := ⟨Tryd.t29, info_of (Tryd.typeInfo29 default), rfl, rfl, rfl, rfl⟩
instance : TOne Tryd.prog 30 := ⟨Tryd.isAgg30, Tryd.sizeOf30⟩
instance : TZero Tryd.prog 30 (Go.Value.int Go.IntKind.u64 0) := ⟨Tryd.zeroValue30⟩
instance : TElem Tryd.prog 30 (Go.Value.int Go.IntKind.u64 0) 1 8 := ⟨Tryd.t30, info_of (Tryd.typeInfo30 default), rfl, rfl, rfl, rfl⟩
instance : TOne Tryd.prog 31 := ⟨Tryd.isAgg31, Tryd.sizeOf31⟩
instance : TZero Tryd.prog 31 (Go.Value.nilFunc) := ⟨Tryd.zeroValue31⟩
instance : TElem Tryd.prog 31 (Go.Value.nilFunc) 1 8 := ⟨Tryd.t31, info_of (Tryd.typeInfo31 default), rfl, rfl, rfl, rfl⟩
instance : TOne Tryd.prog 32 := ⟨Tryd.isAgg32, Tryd.sizeOf32⟩
instance : TZero Tryd.prog 32 (Go.Value.int Go.IntKind.u32 0) := ⟨Tryd.zeroValue32⟩
instance : TElem Tryd.prog 32 (Go.Value.int Go.IntKind.u32 0) 1 4 := ⟨Tryd.t32, info_of (Tryd.typeInfo32 default), rfl, rfl, rfl, rfl⟩
instance : TOne Tryd.prog 33 := ⟨Tryd.isAgg33, Tryd.sizeOf33⟩
instance : TZero Tryd.prog 33 (Go.Value.nilFunc) := ⟨Tryd.zeroValue33⟩
instance : TElem Tryd.prog 33 (Go.Value.nilFunc) 1 8 := ⟨Tryd.t33, info_of (Tryd.typeInfo33 default), rfl, rfl, rfl, rfl⟩
instance : TAgg Tryd.prog 34 0 := ⟨Tryd.isAgg34, Tryd.sizeOf34⟩
instance : TZero Tryd.prog 34 (Go.Value.agg #[]) := ⟨Tryd.zeroValue34⟩
instance : TAgg Tryd.prog 35 0 := ⟨Tryd.isAgg35, Tryd.sizeOf35⟩
instance : TZero Tryd.prog 35 (Go.Value.agg #[]) := ⟨Tryd.zeroValue35⟩
instance : TOne Tryd.prog 36 := ⟨Tryd.isAgg36, Tryd.sizeOf36⟩
instance : TZero Tryd.prog 36 (Go.Value.nilFunc) := ⟨Tryd.zeroValue36⟩
instance : TElem Tryd.prog 36 (Go.Value.nilFunc) 1 8 := ⟨Tryd.t36, info_of (Tryd.typeInfo36 default), rfl, rfl, rfl, rfl⟩
instance : TOne Tryd.prog 37 := ⟨Tryd.isAgg37, Tryd.sizeOf37⟩
instance : TZero Tryd.prog 37 (Go.Value.nilFunc) := ⟨Tryd.zeroValue37⟩
instance : TElem Tryd.prog 37 (Go.Value.nilFunc) 1 8 := ⟨Tryd.t37, info_of (Tryd.typeInfo37 default), rfl, rfl, rfl, rfl⟩
instance : TAgg Tryd.prog 38 4 := ⟨Tryd.isAgg38, Tryd.sizeOf38⟩
instance : TZero Tryd.prog 38 (Go.Value.agg #[Go.Value.pointer Option.none, Go.Value.pointer Option.none, Go.Value.pointer Option.none, Go.Value.string { data := #[] }]) := ⟨Tryd.zeroValue38⟩
instance : TElem Tryd.prog 38 (Go.Value.agg #[Go.Value.pointer Option.none, Go.Value.pointer Option.none, Go.Value.pointer Option.none, Go.Value.string { data := #[] }]) 4 40 := ⟨Tryd.t38, info_of (Tryd.typeInfo38 default), rfl, rfl, rfl, rfl⟩
instance : TAgg Tryd.prog 39 4 := ⟨Tryd.isAgg39, Tryd.sizeOf39⟩
instance : TZero Tryd.prog 39 (Go.Value.agg #[Go.Value.pointer Option.none, Go.Value.pointer Option.none, Go.Value.pointer Option.none, Go.Value.string { data := #[] }]) := ⟨Tryd.zeroValue39⟩
instance : TElem Tryd.prog 39 (Go.Value.agg #[Go.Value.pointer Option.none, Go.Value.pointer Option.none, Go.Value.pointer Option.none, Go.Value.string { data := #[] }]) 4 40 := ⟨Tryd.t39, info_of (Tryd.typeInfo39 default), rfl, rfl, rfl, rfl⟩
instance : TAgg Tryd.prog 40 0 := ⟨Tryd.isAgg40, Tryd.sizeOf40⟩
instance : TZero Tryd.prog 40 (Go.Value.agg #[]) := ⟨Tryd.zeroValue40⟩
instance : TAgg Tryd.prog 41 0 := ⟨Tryd.isAgg41, Tryd.sizeOf41⟩
instance : TZero Tryd.prog 41 (Go.Value.agg #[]) := ⟨Tryd.zeroValue41⟩
instance : TAgg Tryd.prog 42 0 := ⟨Tryd.isAgg42, Tryd.sizeOf42⟩
instance : TZero Tryd.prog 42 (Go.Value.agg #[]) := ⟨Tryd.zeroValue42⟩
instance : TOne Tryd.prog 43 := ⟨Tryd.isAgg43, Tryd.sizeOf43⟩
instance : TZero Tryd.prog 43 (Go.Value.nilFunc) := ⟨Tryd.zeroValue43⟩
instance : TElem Tryd.prog 43 (Go.Value.nilFunc) 1 8 := ⟨Tryd.t43, info_of (Tryd.typeInfo43 default), rfl, rfl, rfl, rfl⟩
instance : TOne Tryd.prog 44 := ⟨Tryd.isAgg44, Tryd.sizeOf44⟩
instance : TZero Tryd.prog 44 (Go.Value.int Go.IntKind.u8 0) := ⟨Tryd.zeroValue44⟩
instance : TU8 Tryd.prog 44 := ⟨Tryd.underlying44⟩
instance : TElem Tryd.prog 44 (Go.Value.int Go.IntKind.u8 0) 1 1 := ⟨Tryd.t44, info_of (Tryd.typeInfo44 default), rfl, rfl, rfl, rfl⟩
instance : TOne Tryd.prog 45 := ⟨Tryd.isAgg45, Tryd.sizeOf45⟩
instance : TZero Tryd.prog 45 (Go.Value.int Go.IntKind.u8 0) := ⟨Tryd.zeroValue45⟩
instance : TU8 Tryd.prog 45 := ⟨Tryd.underlying45⟩
instance : TElem Tryd.prog 45 (Go.Value.int Go.IntKind.u8 0) 1 1 := ⟨Tryd.t45, info_of (Tryd.typeInfo45 default), rfl, rfl, rfl, rfl⟩
instance : TOne Tryd.prog 46 := ⟨Tryd.isAgg46, Tryd.sizeOf46⟩
instance : TZero Tryd.prog 46 (Go.Value.nilFunc) := ⟨Tryd.zeroValue46⟩
instance : TElem Tryd.prog 46 (Go.Value.nilFunc) 1 8 := ⟨Tryd.t46, info_of (Tryd.typeInfo46 default), rfl, rfl, rfl, rfl⟩
instance : TOne Tryd.prog 47 := ⟨Tryd.isAgg47, Tryd.sizeOf47⟩
instance : TZero Tryd.prog 47 (Go.Value.pointer Option.none) := ⟨Tryd.zeroValue47⟩
instance : TElem Tryd.prog 47 (Go.Value.pointer Option.none) 1 8 := ⟨Tryd.t47, info_of (Tryd.typeInfo47 default), rfl, rfl, rfl, rfl⟩
instance : TOne Tryd.prog 48 := ⟨Tryd.isAgg48, Tryd.sizeOf48⟩
instance : TZero Tryd.prog 48 (Go.Value.int Go.IntKind.i32 0) := ⟨Tryd.zeroValue48⟩
instance : TElem Tryd.prog 48 (Go.Value.int Go.IntKind.i32 0) 1 4 := ⟨Tryd.t48, info_of (Tryd.typeInfo48 default), rfl, rfl, rfl, rfl⟩
instance : TOne Tryd.prog 49 := ⟨Tryd.isAgg49, Tryd.sizeOf49⟩
instance : TZero Tryd.prog 49 (Go.Value.int Go.IntKind.i32 0) := ⟨Tryd.zeroValue49⟩
instance : TElem Tryd.prog 49 (Go.Value.int Go.IntKind.i32 0) 1 4 := ⟨Tryd.t49, info_of (Tryd.typeInfo49 default), rfl, rfl, rfl, rfl⟩
instance : TAgg Tryd.prog 50 11 := ⟨Tryd.isAgg50, Tryd.sizeOf50⟩
instance : TZero Tryd.prog 50 (Go.Value.agg #[Go.Value.int Go.IntKind.u64 0, Go.Value.int Go.IntKind.u64 0, Go.Value.int Go.IntKind.u32 0, Go.Value.int Go.IntKind.u8 0, Go.Value.int Go.IntKind.u8 0, Go.Value.int Go.IntKind.u8 0, Go.Value.int Go.IntKind.u8 0, Go.Value.nilFunc, Go.Value.pointer Option.none, Go.Value.int Go.IntKind.i32 0, Go.Value.int Go.IntKind.i32 0]) := ⟨Tryd.zeroValue50⟩
instance : TElem Tryd.prog 50 (Go.Value.agg #[Go.Value.int Go.IntKind.u64 0, Go.Value.int Go.IntKind.u64 0, Go.Value.int Go.IntKind.u32 0, Go.Value.int Go.IntKind.u8 0, Go.Value.int Go.IntKind.u8 0, Go.Value.int Go.IntKind.u8 0, Go.Value.int Go.IntKind.u8 0, Go.Value.nilFunc, Go.Value.pointer Option.none, Go.Value.int Go.IntKind.i32 0, Go.Value.int Go.IntKind.i32 0]) 11 48 := ⟨Tryd.t50, info_of (Tryd.typeInfo50 default), rfl, rfl, rfl, rfl⟩
instance : TAgg Tryd.prog 51 11 := ⟨Tryd.isAgg51, Tryd.sizeOf51⟩
instance : TZero Tryd.prog 51 (Go.Value.agg #[Go.Value.int Go.IntKind.u64 0, Go.Value.int Go.IntKind.u64 0, Go.Value.int Go.IntKind.u32 0, Go.Value.int Go.IntKind.u8 0, Go.Value.int Go.IntKind.u8 0, Go.Value.int Go.IntKind.u8 0, Go.Value.int Go.IntKind.u8 0, Go.Value.nilFunc, Go.Value.pointer Option.none, Go.Value.int Go.IntKind.i32 0, Go.Value.int Go.IntKind.i32 0]) := ⟨Tryd.zeroValue51⟩
instance : TElem Tryd.prog 51 (Go.Value.agg #[Go.Value.int Go.IntKind.u64 0, Go.Value.int Go.IntKind.u64 0, Go.Value.int Go.IntKind.u32 0, Go.Value.int Go.IntKind.u8 0, Go.Value.int Go.IntKind.u8 0, Go.Value.int Go.IntKind.u8 0, Go.Value.int Go.IntKind.u8 0, Go.Value.nilFunc, Go.Value.pointer Option.none, Go.Value.int Go.IntKind.i32 0, Go.Value.int Go.IntKind.i32 0]) 11 48 := ⟨Tryd.t51, info_of (Tryd.typeInfo51 default), rfl, rfl, rfl, rfl⟩
instance : TOne Tryd.prog 52 := ⟨Tryd.isAgg52, Tryd.sizeOf52⟩
instance : TZero Tryd.prog 52 (Go.Value.pointer Option.none) := ⟨Tryd.zeroValue52⟩
instance : TElem Tryd.prog 52 (Go.Value.pointer Option.none) 1 8 := ⟨Tryd.t52, info_of (Tryd.typeInfo52 default), rfl, rfl, rfl, rfl⟩
end Go.Proofs.YtikjncdomgkcjaaDoor
