/-
  Seat b6618755aD: the library's contracts laid at this program: strconv.Itoa, path.Base. The two layings in plain words, as the kit's own lay-plain.mjs writes them.
-/
import Derived.Shelf.LaysM
import Derived.Shelf.Strconv.Itoa3
import Derived.Shelf.Path.Small
import Derived.Test.Qxb6618755aDoorChecked
namespace Go.Proofs.Qxb6618755aDoor
open Go.Shelf Go.Lib

def Tryd.laysM171_ren : Go.Shelf.Ren := ⟨fun | 171 => 25 | 243 => 30 | 246 => 32 | 283 => 33 | 284 => 34 | 285 => 35 | 286 => 36 | 129 => 38 | 317 => 37 | 318 => 39 | 319 => 40 | 320 => 41 | 337 => 42 | 338 => 43 | n => n, fun | 3 => 3 | 9 => 9 | 2 => 2 | 4 => 4 | 171 => 56 | 0 => 0 | 53 => 57 | 37 => 41 | 5 => 5 | 173 => 60 | 212 => 64 | 51 => 65 | 20 => 20 | 213 => 66 | 46 => 68 | 232 => 71 | 233 => 72 | n => n, fun | 17 => 1 | 18 => 2 | 19 => 3 | n => n⟩
theorem Tryd.laysM171 : Go.Proofs.LaysM.n171 Tryd.prog Tryd.laysM171_ren := {
  mixed := by kernel_rfl
  f129 := Tryd.func38.trans (congrArg some (by kernel_rfl))
  f171 := Tryd.func25.trans (congrArg some (by kernel_rfl))
  f243 := Tryd.func30.trans (congrArg some (by kernel_rfl))
  f246 := Tryd.func32.trans (congrArg some (by kernel_rfl))
  f283 := Tryd.func33.trans (congrArg some (by kernel_rfl))
  f284 := Tryd.func34.trans (congrArg some (by kernel_rfl))
  f285 := Tryd.func35.trans (congrArg some (by kernel_rfl))
  f286 := Tryd.func36.trans (congrArg some (by kernel_rfl))
  f317 := Tryd.func37.trans (congrArg some (by kernel_rfl))
  f318 := Tryd.func39.trans (congrArg some (by kernel_rfl))
  f319 := Tryd.func40.trans (congrArg some (by kernel_rfl))
  f320 := Tryd.func41.trans (congrArg some (by kernel_rfl))
  f337 := Tryd.func42.trans (congrArg some (by kernel_rfl))
  f338 := Tryd.func43.trans (congrArg some (by kernel_rfl))
  t0 := Tryd.underlying0
  a0 := Tryd.isAgg0
  z0 := Tryd.sizeOf0
  v0 := Tryd.zeroValue0
  t2 := Tryd.underlying2
  a2 := Tryd.isAgg2
  z2 := Tryd.sizeOf2
  v2 := Tryd.zeroValue2
  t3 := Tryd.underlying3
  a3 := Tryd.isAgg3
  z3 := Tryd.sizeOf3
  v3 := Tryd.zeroValue3
  t4 := Tryd.underlying4
  a4 := Tryd.isAgg4
  z4 := Tryd.sizeOf4
  v4 := Tryd.zeroValue4
  t5 := Tryd.underlying5
  a5 := Tryd.isAgg5
  z5 := Tryd.sizeOf5
  v5 := Tryd.zeroValue5
  t9 := Tryd.underlying9
  a9 := Tryd.isAgg9
  z9 := Tryd.sizeOf9
  v9 := Tryd.zeroValue9
  t20 := Tryd.underlying20
  a20 := Tryd.isAgg20
  z20 := Tryd.sizeOf20
  v20 := Tryd.zeroValue20
  t37 := Tryd.underlying41
  a37 := Tryd.isAgg41
  z37 := Tryd.sizeOf41
  v37 := Tryd.zeroValue41
  t46 := Tryd.underlying68
  a46 := Tryd.isAgg68
  z46 := Tryd.sizeOf68
  v46 := Tryd.zeroValue68
  t51 := Tryd.underlying65
  a51 := Tryd.isAgg65
  z51 := Tryd.sizeOf65
  v51 := Tryd.zeroValue65
  t53 := Tryd.underlying57
  a53 := Tryd.isAgg57
  z53 := Tryd.sizeOf57
  v53 := Tryd.zeroValue57
  t171 := Tryd.underlying56
  a171 := Tryd.isAgg56
  z171 := Tryd.sizeOf56
  v171 := Tryd.zeroValue56
  t173 := Tryd.underlying60
  a173 := Tryd.isAgg60
  z173 := Tryd.sizeOf60
  v173 := Tryd.zeroValue60
  t212 := Tryd.underlying64
  a212 := Tryd.isAgg64
  z212 := Tryd.sizeOf64
  v212 := Tryd.zeroValue64
  t213 := Tryd.underlying66
  a213 := Tryd.isAgg66
  z213 := Tryd.sizeOf66
  t232 := Tryd.underlying71
  a232 := Tryd.isAgg71
  z232 := Tryd.sizeOf71
  v232 := Tryd.zeroValue71
  t233 := Tryd.underlying72
  a233 := Tryd.isAgg72
  z233 := Tryd.sizeOf72
  v233 := Tryd.zeroValue72
  g17 := by kernel_rfl
  g18 := by kernel_rfl
  g19 := by kernel_rfl
  i0 := by kernel_rfl
  i2 := by kernel_rfl
  i3 := by kernel_rfl
  i4 := by kernel_rfl
  i5 := by kernel_rfl
  i9 := by kernel_rfl
  i20 := by kernel_rfl
  i37 := by kernel_rfl
  i46 := by kernel_rfl
  i51 := by kernel_rfl
  i53 := by kernel_rfl
  i171 := by kernel_rfl
  i173 := by kernel_rfl
  i212 := by kernel_rfl
  i232 := by kernel_rfl
  i233 := by kernel_rfl
  m17 := by kernel_rfl
  m18 := by kernel_rfl
  m19 := by kernel_rfl }
def Tryd.lays25_ren : Go.Shelf.Ren := ⟨fun | 25 => 28 | 45 => 31 | n => n, fun | 9 => 9 | 4 => 4 | 3 => 3 | 5 => 5 | n => n, fun | n => n⟩
theorem Tryd.lays25 : Go.Proofs.Lays.p25 Tryd.prog Tryd.lays25_ren := {
  mixed := by kernel_rfl
  f25 := Tryd.func28.trans (congrArg some (by kernel_rfl))
  f45 := Tryd.func31.trans (congrArg some (by kernel_rfl))
  t3 := Tryd.underlying3
  a3 := Tryd.isAgg3
  z3 := Tryd.sizeOf3
  v3 := Tryd.zeroValue3
  t4 := Tryd.underlying4
  a4 := Tryd.isAgg4
  z4 := Tryd.sizeOf4
  v4 := Tryd.zeroValue4
  t5 := Tryd.underlying5
  a5 := Tryd.isAgg5
  z5 := Tryd.sizeOf5
  v5 := Tryd.zeroValue5
  t9 := Tryd.underlying9
  a9 := Tryd.isAgg9
  z9 := Tryd.sizeOf9
  v9 := Tryd.zeroValue9 }

open Go.RowKit Go.Sort in
theorem itoa_any (n : Int) (h0 : -9223372036854775808 ≤ n) (h1 : n ≤ 9223372036854775807) (w : World) (htab : Lib.TabIs Tryd.prog w "internal/strconv.uint64pow10" .u64 Lib.pow10Tab) :
    Calls Tryd.prog 25 #[.int .i64 n] w fun e w' => e = .returned (.string ⟨(Lib.itoa n).toArray⟩) ∧ ∃ k os, w' = grow (w.drewN k) os := Any.strconv_Itoa Tryd.laysM171 n h0 h1 w htab

theorem pathBase_any (s : ByteArray) (w : World) (hs : s.size ≤ 9223372036854775807) :
    Calls Tryd.prog 28 #[.string s] w fun e w' => e = .returned (.string ⟨(Pa.base s.data.toList).toArray⟩) ∧ w' = w := Any.path_Base Tryd.lays25 s w hs
end Go.Proofs.Qxb6618755aDoor
