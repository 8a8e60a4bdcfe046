/- Part of the proof of FnAuthorizeNone: without policies no request is allowed; for every world that comes in. -/
import Derived.Test.YtaigmemiklfjoaaGreatDoorZOwnM
import Derived.Shelf.SlIter.Nil
import Derived.Shelf.SortM.Plain
import Derived.Shelf.SortM.SortNone
import Derived.Shelf.SlMaps.Clone
import Derived.Ground.GgzProg
import Derived.Ground.SlgmProg
import Derived.Ground.SlmcProg
set_option linter.unusedSimpArgs false
set_option linter.unusedVariables false
set_option linter.unnecessarySimpa false
namespace Go.Proofs
open Go.Shelf
set_option maxRecDepth 100000
def Exp.keysR_ren : Go.Shelf.Ren := ⟨fun | 7 => 56 | 10 => 77 | n => n, fun | 23 => 49 | 26 => 64 | 3 => 44 | 28 => 192 | 0 => 0 | 27 => 191 | 33 => 255 | 4 => 4 | n => n, fun | n => n⟩
theorem Exp.keysR : Go.Proofs.SlLaysZ.n7 Tryz.prog Exp.keysR_ren := {
  mixed := by kernel_rfl
  f7 := ⟨Tryz.f56.name, by decide, Tryz.func56.trans (congrArg some (by kernel_rfl))⟩
  f10 := ⟨Tryz.f77.name, by decide, Tryz.func77.trans (congrArg some (by kernel_rfl))⟩
  t0 := Tryz.underlying0
  a0 := Tryz.isAgg0
  z0 := Tryz.sizeOf0
  v0 := Tryz.zeroValue0
  t4 := Tryz.underlying4
  a4 := Tryz.isAgg4
  z4 := Tryz.sizeOf4
  v4 := Tryz.zeroValue4
  t23 := Tryz.underlying49
  a23 := Tryz.isAgg49
  z23 := Tryz.sizeOf49
  v23 := Tryz.zeroValue49
  t26 := Tryz.underlying64
  a26 := Tryz.isAgg64
  z26 := Tryz.sizeOf64
  v26 := Tryz.zeroValue64
  t27 := Tryz.underlying191
  a27 := Tryz.isAgg191
  z27 := Tryz.sizeOf191
  v27 := Tryz.zeroValue191
  t28 := Tryz.underlying192
  a28 := Tryz.isAgg192
  z28 := Tryz.sizeOf192
  v28 := Tryz.zeroValue192
  t33 := Tryz.underlying255
  a33 := Tryz.isAgg255
  z33 := Tryz.sizeOf255
  v33 := Tryz.zeroValue255 }
def Exp.collR_ren : Go.Shelf.Ren := ⟨fun | 8 => 55 | 11 => 76 | n => n, fun | 26 => 64 | 28 => 192 | 24 => 189 | 0 => 0 | 33 => 255 | 4 => 4 | n => n, fun | n => n⟩
theorem Exp.collR : Go.Proofs.SlLaysZ.n8 Tryz.prog Exp.collR_ren := {
  mixed := by kernel_rfl
  f8 := ⟨Tryz.f55.name, by decide, Tryz.func55.trans (congrArg some (by kernel_rfl))⟩
  f11 := ⟨Tryz.f76.name, by decide, Tryz.func76.trans (congrArg some (by kernel_rfl))⟩
  t0 := Tryz.underlying0
  a0 := Tryz.isAgg0
  z0 := Tryz.sizeOf0
  v0 := Tryz.zeroValue0
  t24 := Tryz.underlying189
  a24 := Tryz.isAgg189
  z24 := Tryz.sizeOf189
  v24 := Tryz.zeroValue189
  t26 := Tryz.underlying64
  a26 := Tryz.isAgg64
  z26 := Tryz.sizeOf64
  v26 := Tryz.zeroValue64
  t28 := Tryz.underlying192
  a28 := Tryz.isAgg192
  z28 := Tryz.sizeOf192
  v28 := Tryz.zeroValue192
  i26 := by kernel_rfl }
def Exp.sortR_ren : Go.Shelf.Ren := ⟨fun | 6 => 57 | 8 => 79 | 9 => 78 | 19 => 103 | 20 => 104 | 21 => 94 | 22 => 95 | 23 => 96 | 24 => 97 | 25 => 98 | 26 => 99 | 27 => 100 | 28 => 101 | 29 => 102 | 36 => 153 | 31 => 154 | 32 => 155 | 37 => 156 | 38 => 157 | 39 => 158 | 41 => 230 | n => n, fun | 27 => 189 | 29 => 64 | 3 => 3 | 32 => 258 | 26 => 189 | 0 => 0 | 44 => 331 | 46 => 50 | 4 => 4 | 36 => 323 | 35 => 322 | 41 => 328 | 5 => 5 | 9 => 9 | 53 => 382 | 57 => 385 | 63 => 510 | 64 => 511 | n => n, fun | n => n⟩
theorem Exp.sortR : Go.Proofs.SlLaysM.n6 Tryz.prog Exp.sortR_ren := {
  mixed := by kernel_rfl
  f6 := ⟨Tryz.f57.name, by decide, Tryz.func57.trans (congrArg some (by kernel_rfl))⟩
  f8 := Tryz.func79.trans (congrArg some (by kernel_rfl))
  f9 := ⟨Tryz.f78.name, by decide, Tryz.func78.trans (congrArg some (by kernel_rfl))⟩
  f19 := Tryz.func103.trans (congrArg some (by kernel_rfl))
  f20 := Tryz.func104.trans (congrArg some (by kernel_rfl))
  f21 := ⟨Tryz.f94.name, by decide, Tryz.func94.trans (congrArg some (by kernel_rfl))⟩
  f22 := ⟨Tryz.f95.name, by decide, Tryz.func95.trans (congrArg some (by kernel_rfl))⟩
  f23 := ⟨Tryz.f96.name, by decide, Tryz.func96.trans (congrArg some (by kernel_rfl))⟩
  f24 := ⟨Tryz.f97.name, by decide, Tryz.func97.trans (congrArg some (by kernel_rfl))⟩
  f25 := ⟨Tryz.f98.name, by decide, Tryz.func98.trans (congrArg some (by kernel_rfl))⟩
  f26 := ⟨Tryz.f99.name, by decide, Tryz.func99.trans (congrArg some (by kernel_rfl))⟩
  f27 := ⟨Tryz.f100.name, by decide, Tryz.func100.trans (congrArg some (by kernel_rfl))⟩
  f28 := ⟨Tryz.f101.name, by decide, Tryz.func101.trans (congrArg some (by kernel_rfl))⟩
  f29 := ⟨Tryz.f102.name, by decide, Tryz.func102.trans (congrArg some (by kernel_rfl))⟩
  f31 := Tryz.func154.trans (congrArg some (by kernel_rfl))
  f32 := Tryz.func155.trans (congrArg some (by kernel_rfl))
  f36 := ⟨Tryz.f153.name, by decide, Tryz.func153.trans (congrArg some (by kernel_rfl))⟩
  f37 := ⟨Tryz.f156.name, by decide, Tryz.func156.trans (congrArg some (by kernel_rfl))⟩
  f38 := ⟨Tryz.f157.name, by decide, Tryz.func157.trans (congrArg some (by kernel_rfl))⟩
  f39 := ⟨Tryz.f158.name, by decide, Tryz.func158.trans (congrArg some (by kernel_rfl))⟩
  f41 := ⟨Tryz.f230.name, by decide, Tryz.func230.trans (congrArg some (by kernel_rfl))⟩
  t0 := Tryz.underlying0
  a0 := Tryz.isAgg0
  z0 := Tryz.sizeOf0
  v0 := Tryz.zeroValue0
  t3 := Tryz.underlying3
  a3 := Tryz.isAgg3
  z3 := Tryz.sizeOf3
  v3 := Tryz.zeroValue3
  t4 := Tryz.underlying4
  a4 := Tryz.isAgg4
  z4 := Tryz.sizeOf4
  v4 := Tryz.zeroValue4
  t5 := Tryz.underlying5
  a5 := Tryz.isAgg5
  z5 := Tryz.sizeOf5
  v5 := Tryz.zeroValue5
  t9 := Tryz.underlying9
  a9 := Tryz.isAgg9
  z9 := Tryz.sizeOf9
  v9 := Tryz.zeroValue9
  t26 := Tryz.underlying189
  a26 := Tryz.isAgg189
  z26 := Tryz.sizeOf189
  v26 := Tryz.zeroValue189
  t27 := Tryz.underlying189
  a27 := Tryz.isAgg189
  z27 := Tryz.sizeOf189
  v27 := Tryz.zeroValue189
  t29 := Tryz.underlying64
  a29 := Tryz.isAgg64
  z29 := Tryz.sizeOf64
  v29 := Tryz.zeroValue64
  t32 := Tryz.underlying258
  a32 := Tryz.isAgg258
  z32 := Tryz.sizeOf258
  v32 := Tryz.zeroValue258
  t35 := Tryz.underlying322
  a35 := Tryz.isAgg322
  z35 := Tryz.sizeOf322
  v35 := Tryz.zeroValue322
  t36 := Tryz.underlying323
  a36 := Tryz.isAgg323
  z36 := Tryz.sizeOf323
  v36 := Tryz.zeroValue323
  t41 := Tryz.underlying328
  a41 := Tryz.isAgg328
  z41 := Tryz.sizeOf328
  v41 := Tryz.zeroValue328
  t44 := Tryz.underlying331
  a44 := Tryz.isAgg331
  z44 := Tryz.sizeOf331
  v44 := Tryz.zeroValue331
  t46 := Tryz.underlying50
  a46 := Tryz.isAgg50
  z46 := Tryz.sizeOf50
  v46 := Tryz.zeroValue50
  t53 := Tryz.underlying382
  a53 := Tryz.isAgg382
  z53 := Tryz.sizeOf382
  v53 := Tryz.zeroValue382
  t57 := Tryz.underlying385
  a57 := Tryz.isAgg385
  z57 := Tryz.sizeOf385
  v57 := Tryz.zeroValue385
  t63 := Tryz.underlying510
  a63 := Tryz.isAgg510
  z63 := Tryz.sizeOf510
  v63 := Tryz.zeroValue510
  t64 := Tryz.underlying511
  a64 := Tryz.isAgg511
  z64 := Tryz.sizeOf511
  v64 := Tryz.zeroValue511 }
def Exp.cloneR_ren : Go.Shelf.Ren := ⟨fun | 5 => 60 | 7 => 80 | n => n, fun | 23 => 49 | 25 => 64 | 3 => 44 | 4 => 4 | 20 => 20 | n => n, fun | n => n⟩
theorem Exp.cloneR : Go.Proofs.SlLaysW.n5 Tryz.prog Exp.cloneR_ren := {
  mixed := by kernel_rfl
  f5 := ⟨Tryz.f60.name, by decide, Tryz.func60.trans (congrArg some (by kernel_rfl))⟩
  f7 := Tryz.func80.trans (congrArg some (by kernel_rfl))
  t4 := Tryz.underlying4
  a4 := Tryz.isAgg4
  z4 := Tryz.sizeOf4
  v4 := Tryz.zeroValue4
  t20 := Tryz.underlying20
  a20 := Tryz.isAgg20
  z20 := Tryz.sizeOf20
  v20 := Tryz.zeroValue20
  t23 := Tryz.underlying49
  a23 := Tryz.isAgg49
  z23 := Tryz.sizeOf49
  v23 := Tryz.zeroValue49 }
end Go.Proofs
