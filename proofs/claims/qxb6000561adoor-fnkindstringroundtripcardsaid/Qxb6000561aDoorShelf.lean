/-
  The contract of strconv.Itoa (proved once, in the library) laid at this program, in plain words, as the kit's own tool writes it.
-/
import Derived.Shelf.Strconv.Itoa4
import Derived.Test.Qxb6000561aDoorProg
namespace Go.Proofs
open Go.Shelf
def Tryd.lays171_ren : Go.Shelf.Ren := ⟨fun | 171 => 11 | 243 => 12 | 246 => 13 | 283 => 14 | 284 => 15 | 285 => 16 | 286 => 17 | 129 => 19 | 317 => 18 | 318 => 20 | 319 => 21 | 320 => 22 | 337 => 23 | 338 => 24 | n => n, fun | 3 => 3 | 9 => 9 | 2 => 2 | 4 => 4 | 171 => 31 | 0 => 0 | 53 => 32 | 37 => 35 | 5 => 5 | 173 => 36 | 212 => 40 | 51 => 41 | 20 => 20 | 213 => 42 | 46 => 44 | 232 => 47 | 233 => 48 | n => n, fun | 17 => 0 | 18 => 1 | 19 => 2 | n => n⟩
theorem Tryd.lays171 : Go.Proofs.LaysM.n171 Tryd.prog Tryd.lays171_ren := {
  mixed := by kernel_rfl
  f129 := Tryd.func19.trans (congrArg some (by kernel_rfl))
  f171 := Tryd.func11.trans (congrArg some (by kernel_rfl))
  f243 := Tryd.func12.trans (congrArg some (by kernel_rfl))
  f246 := Tryd.func13.trans (congrArg some (by kernel_rfl))
  f283 := Tryd.func14.trans (congrArg some (by kernel_rfl))
  f284 := Tryd.func15.trans (congrArg some (by kernel_rfl))
  f285 := Tryd.func16.trans (congrArg some (by kernel_rfl))
  f286 := Tryd.func17.trans (congrArg some (by kernel_rfl))
  f317 := Tryd.func18.trans (congrArg some (by kernel_rfl))
  f318 := Tryd.func20.trans (congrArg some (by kernel_rfl))
  f319 := Tryd.func21.trans (congrArg some (by kernel_rfl))
  f320 := Tryd.func22.trans (congrArg some (by kernel_rfl))
  f337 := Tryd.func23.trans (congrArg some (by kernel_rfl))
  f338 := Tryd.func24.trans (congrArg some (by kernel_rfl))
  t0 := Tryd.underlying0
  a0 := Tryd.isAgg0
  z0 := Tryd.sizeOf0
  v0 := Tryd.zeroValue0
  t2 := Tryd.underlying2
  a2 := Tryd.isAgg2
  z2 := Tryd.sizeOf2
  v2 := Tryd.zeroValue2
  t3 := Tryd.underlying3
  a3 := Tryd.isAgg3
  z3 := Tryd.sizeOf3
  v3 := Tryd.zeroValue3
  t4 := Tryd.underlying4
  a4 := Tryd.isAgg4
  z4 := Tryd.sizeOf4
  v4 := Tryd.zeroValue4
  t5 := Tryd.underlying5
  a5 := Tryd.isAgg5
  z5 := Tryd.sizeOf5
  v5 := Tryd.zeroValue5
  t9 := Tryd.underlying9
  a9 := Tryd.isAgg9
  z9 := Tryd.sizeOf9
  v9 := Tryd.zeroValue9
  t20 := Tryd.underlying20
  a20 := Tryd.isAgg20
  z20 := Tryd.sizeOf20
  v20 := Tryd.zeroValue20
  t37 := Tryd.underlying35
  a37 := Tryd.isAgg35
  z37 := Tryd.sizeOf35
  v37 := Tryd.zeroValue35
  t46 := Tryd.underlying44
  a46 := Tryd.isAgg44
  z46 := Tryd.sizeOf44
  v46 := Tryd.zeroValue44
  t51 := Tryd.underlying41
  a51 := Tryd.isAgg41
  z51 := Tryd.sizeOf41
  v51 := Tryd.zeroValue41
  t53 := Tryd.underlying32
  a53 := Tryd.isAgg32
  z53 := Tryd.sizeOf32
  v53 := Tryd.zeroValue32
  t171 := Tryd.underlying31
  a171 := Tryd.isAgg31
  z171 := Tryd.sizeOf31
  v171 := Tryd.zeroValue31
  t173 := Tryd.underlying36
  a173 := Tryd.isAgg36
  z173 := Tryd.sizeOf36
  v173 := Tryd.zeroValue36
  t212 := Tryd.underlying40
  a212 := Tryd.isAgg40
  z212 := Tryd.sizeOf40
  v212 := Tryd.zeroValue40
  t213 := Tryd.underlying42
  a213 := Tryd.isAgg42
  z213 := Tryd.sizeOf42
  t232 := Tryd.underlying47
  a232 := Tryd.isAgg47
  z232 := Tryd.sizeOf47
  v232 := Tryd.zeroValue47
  t233 := Tryd.underlying48
  a233 := Tryd.isAgg48
  z233 := Tryd.sizeOf48
  v233 := Tryd.zeroValue48
  g17 := by kernel_rfl
  g18 := by kernel_rfl
  g19 := by kernel_rfl
  i0 := by kernel_rfl
  i2 := by kernel_rfl
  i3 := by kernel_rfl
  i4 := by kernel_rfl
  i5 := by kernel_rfl
  i9 := by kernel_rfl
  i20 := by kernel_rfl
  i37 := by kernel_rfl
  i46 := by kernel_rfl
  i51 := by kernel_rfl
  i53 := by kernel_rfl
  i171 := by kernel_rfl
  i173 := by kernel_rfl
  i212 := by kernel_rfl
  i232 := by kernel_rfl
  i233 := by kernel_rfl
  m17 := by kernel_rfl
  m18 := by kernel_rfl
  m19 := by kernel_rfl }
theorem Tryd.strconv_Itoa (n : Int) (h0 : -9223372036854775808 ≤ n) (h1 : n ≤ 9223372036854775807) (w : World) (htab : Lib.TabIs Tryd.prog w "internal/strconv.uint64pow10" .u64 Lib.pow10Tab) :
    Calls Tryd.prog 11 #[.int .i64 n] w fun e w' => e = .returned (.string ⟨(Lib.itoa n).toArray⟩) ∧ ∃ k os, w' = Sort.grow (w.drewN k) os := Any.strconv_Itoa Tryd.lays171 n h0 h1 w htab
end Go.Proofs
