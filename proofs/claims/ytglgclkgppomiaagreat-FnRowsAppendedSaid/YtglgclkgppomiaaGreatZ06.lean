/- The contracts of slices.SortFunc and strings.Compare, laid at this program (the laying is the shelf's tool's print). -/
import Derived.Test.YtglgclkgppomiaaGreatZ02
import Derived.Shelf.SlGeneric
import Derived.Shelf.Small.Strs
import Derived.Shelf.SlSortCmp.NoneTotal
set_option linter.unusedVariables false
set_option linter.unusedSimpArgs false
namespace Go.Proofs.YtglgclkgppomiaaGreat
open Go Go.Shelf Go.RowKit
def cmpLays_ren : Go.Shelf.Ren := ⟨fun | 106 => 186 | 213 => 189 | 265 => 200 | n => n, fun | 9 => 9 | 3 => 3 | n => n, fun | n => n⟩
theorem cmpLays : Go.Proofs.Lays.n106 Tryz.prog cmpLays_ren := {
  mixed := by kernel_rfl
  f106 := Tryz.func186.trans (congrArg some (by kernel_rfl))
  f213 := Tryz.func189.trans (congrArg some (by kernel_rfl))
  f265 := Tryz.func200.trans (congrArg some (by kernel_rfl))
  t3 := Tryz.underlying3
  a3 := Tryz.isAgg3
  z3 := Tryz.sizeOf3
  v3 := Tryz.zeroValue3
  t9 := Tryz.underlying9
  a9 := Tryz.isAgg9
  z9 := Tryz.sizeOf9
  v9 := Tryz.zeroValue9 }
theorem strings_Compare (a b : ByteArray) (w : World) :
    Calls Tryz.prog 186 #[.string a, .string b] w fun e w' => e = .returned (.int .i64 (Lib.compareBytes a.data.toList b.data.toList)) ∧ w' = w := Go.Proofs.Any.strings_Compare cmpLays a b w
def sortLays_ren : Go.Shelf.Ren := ⟨fun | 6 => 184 | 15 => 188 | 14 => 187 | 28 => 198 | 29 => 199 | 20 => 190 | 21 => 191 | 22 => 192 | 23 => 193 | 24 => 194 | 25 => 195 | 26 => 196 | 27 => 197 | 46 => 201 | 47 => 202 | 48 => 203 | 49 => 204 | 50 => 205 | 57 => 206 | n => n, fun | 22 => 206 | 24 => 208 | 25 => 211 | 3 => 3 | 39 => 33 | 0 => 0 | 53 => 142 | 55 => 73 | 4 => 4 | 46 => 219 | 45 => 218 | 50 => 223 | 5 => 5 | 9 => 9 | 66 => 227 | 70 => 231 | 76 => 233 | 77 => 234 | n => n, fun | n => n⟩
theorem sortLays : Go.Proofs.SlLaysF0.n6 Tryz.prog sortLays_ren := {
  mixed := by kernel_rfl
  f6 := ⟨Tryz.f184.name, by decide, Tryz.func184.trans (congrArg some (by kernel_rfl))⟩
  f14 := ⟨Tryz.f187.name, by decide, Tryz.func187.trans (congrArg some (by kernel_rfl))⟩
  f15 := Tryz.func188.trans (congrArg some (by kernel_rfl))
  f20 := ⟨Tryz.f190.name, by decide, Tryz.func190.trans (congrArg some (by kernel_rfl))⟩
  f21 := ⟨Tryz.f191.name, by decide, Tryz.func191.trans (congrArg some (by kernel_rfl))⟩
  f22 := ⟨Tryz.f192.name, by decide, Tryz.func192.trans (congrArg some (by kernel_rfl))⟩
  f23 := ⟨Tryz.f193.name, by decide, Tryz.func193.trans (congrArg some (by kernel_rfl))⟩
  f24 := ⟨Tryz.f194.name, by decide, Tryz.func194.trans (congrArg some (by kernel_rfl))⟩
  f25 := ⟨Tryz.f195.name, by decide, Tryz.func195.trans (congrArg some (by kernel_rfl))⟩
  f26 := ⟨Tryz.f196.name, by decide, Tryz.func196.trans (congrArg some (by kernel_rfl))⟩
  f27 := ⟨Tryz.f197.name, by decide, Tryz.func197.trans (congrArg some (by kernel_rfl))⟩
  f28 := Tryz.func198.trans (congrArg some (by kernel_rfl))
  f29 := Tryz.func199.trans (congrArg some (by kernel_rfl))
  f46 := ⟨Tryz.f201.name, by decide, Tryz.func201.trans (congrArg some (by kernel_rfl))⟩
  f47 := Tryz.func202.trans (congrArg some (by kernel_rfl))
  f48 := Tryz.func203.trans (congrArg some (by kernel_rfl))
  f49 := ⟨Tryz.f204.name, by decide, Tryz.func204.trans (congrArg some (by kernel_rfl))⟩
  f50 := ⟨Tryz.f205.name, by decide, Tryz.func205.trans (congrArg some (by kernel_rfl))⟩
  f57 := ⟨Tryz.f206.name, by decide, Tryz.func206.trans (congrArg some (by kernel_rfl))⟩
  t0 := Tryz.underlying0
  a0 := Tryz.isAgg0
  z0 := Tryz.sizeOf0
  v0 := Tryz.zeroValue0
  t3 := Tryz.underlying3
  a3 := Tryz.isAgg3
  z3 := Tryz.sizeOf3
  v3 := Tryz.zeroValue3
  t4 := Tryz.underlying4
  a4 := Tryz.isAgg4
  z4 := Tryz.sizeOf4
  v4 := Tryz.zeroValue4
  t5 := Tryz.underlying5
  a5 := Tryz.isAgg5
  z5 := Tryz.sizeOf5
  v5 := Tryz.zeroValue5
  t9 := Tryz.underlying9
  a9 := Tryz.isAgg9
  z9 := Tryz.sizeOf9
  v9 := Tryz.zeroValue9
  t22 := Tryz.underlying206
  a22 := Tryz.isAgg206
  z22 := Tryz.sizeOf206
  v22 := Tryz.zeroValue206
  t25 := Tryz.underlying211
  a25 := Tryz.isAgg211
  z25 := Tryz.sizeOf211
  v25 := Tryz.zeroValue211
  t39 := Tryz.underlying33
  a39 := Tryz.isAgg33
  z39 := Tryz.sizeOf33
  v39 := Tryz.zeroValue33
  t45 := Tryz.underlying218
  a45 := Tryz.isAgg218
  z45 := Tryz.sizeOf218
  v45 := Tryz.zeroValue218
  t46 := Tryz.underlying219
  a46 := Tryz.isAgg219
  z46 := Tryz.sizeOf219
  v46 := Tryz.zeroValue219
  t50 := Tryz.underlying223
  a50 := Tryz.isAgg223
  z50 := Tryz.sizeOf223
  v50 := Tryz.zeroValue223
  t53 := Tryz.underlying142
  a53 := Tryz.isAgg142
  z53 := Tryz.sizeOf142
  v53 := Tryz.zeroValue142
  t55 := Tryz.underlying73
  a55 := Tryz.isAgg73
  z55 := Tryz.sizeOf73
  v55 := Tryz.zeroValue73
  t66 := Tryz.underlying227
  a66 := Tryz.isAgg227
  z66 := Tryz.sizeOf227
  v66 := Tryz.zeroValue227
  t70 := Tryz.underlying231
  a70 := Tryz.isAgg231
  z70 := Tryz.sizeOf231
  v70 := Tryz.zeroValue231
  t76 := Tryz.underlying233
  a76 := Tryz.isAgg233
  z76 := Tryz.sizeOf233
  v76 := Tryz.zeroValue233
  t77 := Tryz.underlying234
  a77 := Tryz.isAgg234
  z77 := Tryz.sizeOf234
  v77 := Tryz.zeroValue234 }
end Go.Proofs.YtglgclkgppomiaaGreat
