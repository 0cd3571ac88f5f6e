/- What the types and functions of this translation are: closed facts, printed by facts.py. -/
import Derived.Test.YtcpceompoihboaaDoorSteps
namespace Go.Proofs.YtcpceompoihboaaDoor
open Go.RowKit
theorem u2 : Tryd.prog.underlying 2 = some (.int .i64) := by kernel_rfl
theorem sc2 : Scalar Tryd.prog 2 := fun w => by simp [isAgg, run_underlying u2]
theorem u3 : Tryd.prog.underlying 3 = some (.int .i64) := by kernel_rfl
theorem sc3 : Scalar Tryd.prog 3 := fun w => by simp [isAgg, run_underlying u3]
theorem u4 : Tryd.prog.underlying 4 = some .bool := by kernel_rfl
theorem sc4 : Scalar Tryd.prog 4 := fun w => by simp [isAgg, run_underlying u4]
theorem u5 : Tryd.prog.underlying 5 = some (.int .u8) := by kernel_rfl
theorem sc5 : Scalar Tryd.prog 5 := fun w => by simp [isAgg, run_underlying u5]
theorem u6 : Tryd.prog.underlying 6 = some (.int .u8) := by kernel_rfl
theorem sc6 : Scalar Tryd.prog 6 := fun w => by simp [isAgg, run_underlying u6]
theorem u9 : Tryd.prog.underlying 9 = some .string := by kernel_rfl
theorem sc9 : Scalar Tryd.prog 9 := fun w => by simp [isAgg, run_underlying u9]
theorem u10 : Tryd.prog.underlying 10 = some .string := by kernel_rfl
theorem sc10 : Scalar Tryd.prog 10 := fun w => by simp [isAgg, run_underlying u10]
theorem u11 : Tryd.prog.underlying 11 = some .string := by kernel_rfl
theorem sc11 : Scalar Tryd.prog 11 := fun w => by simp [isAgg, run_underlying u11]
theorem u12 : Tryd.prog.underlying 12 = some (.int .u64) := by kernel_rfl
theorem sc12 : Scalar Tryd.prog 12 := fun w => by simp [isAgg, run_underlying u12]
theorem u21 : Tryd.prog.underlying 21 = some (.int .i32) := by kernel_rfl
theorem sc21 : Scalar Tryd.prog 21 := fun w => by simp [isAgg, run_underlying u21]
theorem u22 : Tryd.prog.underlying 22 = some (.slice 70) := by kernel_rfl
theorem sc22 : Scalar Tryd.prog 22 := fun w => by simp [isAgg, run_underlying u22]
theorem u23 : Tryd.prog.underlying 23 = some (.slice 25) := by kernel_rfl
theorem sc23 : Scalar Tryd.prog 23 := fun w => by simp [isAgg, run_underlying u23]
theorem u26 : Tryd.prog.underlying 26 = some (.slice 5) := by kernel_rfl
theorem sc26 : Scalar Tryd.prog 26 := fun w => by simp [isAgg, run_underlying u26]
theorem u32 : Tryd.prog.underlying 32 = some (.slice 37) := by kernel_rfl
theorem sc32 : Scalar Tryd.prog 32 := fun w => by simp [isAgg, run_underlying u32]
theorem u33 : Tryd.prog.underlying 33 = some (.int .i16) := by kernel_rfl
theorem sc33 : Scalar Tryd.prog 33 := fun w => by simp [isAgg, run_underlying u33]
theorem u35 : Tryd.prog.underlying 35 = some (.int .u16) := by kernel_rfl
theorem sc35 : Scalar Tryd.prog 35 := fun w => by simp [isAgg, run_underlying u35]
theorem u48 : Tryd.prog.underlying 48 = some (.slice 32) := by kernel_rfl
theorem sc48 : Scalar Tryd.prog 48 := fun w => by simp [isAgg, run_underlying u48]
theorem u50 : Tryd.prog.underlying 50 = some (.slice 26) := by kernel_rfl
theorem sc50 : Scalar Tryd.prog 50 := fun w => by simp [isAgg, run_underlying u50]
theorem u57 : Tryd.prog.underlying 57 = some (.slice 96) := by kernel_rfl
theorem sc57 : Scalar Tryd.prog 57 := fun w => by simp [isAgg, run_underlying u57]
theorem u68 : Tryd.prog.underlying 68 = some (.int .u32) := by kernel_rfl
theorem sc68 : Scalar Tryd.prog 68 := fun w => by simp [isAgg, run_underlying u68]
theorem u71 : Tryd.prog.underlying 71 = some (.slice 108) := by kernel_rfl
theorem sc71 : Scalar Tryd.prog 71 := fun w => by simp [isAgg, run_underlying u71]
theorem u85 : Tryd.prog.underlying 85 = some (.int .u64) := by kernel_rfl
theorem sc85 : Scalar Tryd.prog 85 := fun w => by simp [isAgg, run_underlying u85]
theorem u116 : Tryd.prog.underlying 116 = some (.int .u64) := by kernel_rfl
theorem sc116 : Scalar Tryd.prog 116 := fun w => by simp [isAgg, run_underlying u116]
theorem u155 : Tryd.prog.underlying 155 = some (.slice 3) := by kernel_rfl
theorem sc155 : Scalar Tryd.prog 155 := fun w => by simp [isAgg, run_underlying u155]
theorem z2 : (Tryd.prog.info? 2).map (·.size) = some 1 := by kernel_rfl
theorem z3 : (Tryd.prog.info? 3).map (·.size) = some 1 := by kernel_rfl
theorem z4 : (Tryd.prog.info? 4).map (·.size) = some 1 := by kernel_rfl
theorem z5 : (Tryd.prog.info? 5).map (·.size) = some 1 := by kernel_rfl
theorem z6 : (Tryd.prog.info? 6).map (·.size) = some 1 := by kernel_rfl
theorem z9 : (Tryd.prog.info? 9).map (·.size) = some 1 := by kernel_rfl
theorem z10 : (Tryd.prog.info? 10).map (·.size) = some 1 := by kernel_rfl
theorem z11 : (Tryd.prog.info? 11).map (·.size) = some 1 := by kernel_rfl
theorem z12 : (Tryd.prog.info? 12).map (·.size) = some 1 := by kernel_rfl
theorem z21 : (Tryd.prog.info? 21).map (·.size) = some 1 := by kernel_rfl
theorem z22 : (Tryd.prog.info? 22).map (·.size) = some 1 := by kernel_rfl
theorem z23 : (Tryd.prog.info? 23).map (·.size) = some 1 := by kernel_rfl
theorem z26 : (Tryd.prog.info? 26).map (·.size) = some 1 := by kernel_rfl
theorem z32 : (Tryd.prog.info? 32).map (·.size) = some 1 := by kernel_rfl
theorem z33 : (Tryd.prog.info? 33).map (·.size) = some 1 := by kernel_rfl
theorem z35 : (Tryd.prog.info? 35).map (·.size) = some 1 := by kernel_rfl
theorem z48 : (Tryd.prog.info? 48).map (·.size) = some 1 := by kernel_rfl
theorem z50 : (Tryd.prog.info? 50).map (·.size) = some 1 := by kernel_rfl
theorem z57 : (Tryd.prog.info? 57).map (·.size) = some 1 := by kernel_rfl
theorem z68 : (Tryd.prog.info? 68).map (·.size) = some 1 := by kernel_rfl
theorem z71 : (Tryd.prog.info? 71).map (·.size) = some 1 := by kernel_rfl
theorem z85 : (Tryd.prog.info? 85).map (·.size) = some 1 := by kernel_rfl
theorem z116 : (Tryd.prog.info? 116).map (·.size) = some 1 := by kernel_rfl
theorem z155 : (Tryd.prog.info? 155).map (·.size) = some 1 := by kernel_rfl
theorem en91 : Enters Tryd.prog 91 := enters_of (fn := (Tryd.prog.funcs[91]?).getD default) (by kernel_rfl) (by kernel_rfl) (by kernel_rfl)
theorem en92 : Enters Tryd.prog 92 := enters_of (fn := (Tryd.prog.funcs[92]?).getD default) (by kernel_rfl) (by kernel_rfl) (by kernel_rfl)
theorem en98 : Enters Tryd.prog 98 := enters_of (fn := (Tryd.prog.funcs[98]?).getD default) (by kernel_rfl) (by kernel_rfl) (by kernel_rfl)
theorem en104 : Enters Tryd.prog 104 := enters_of (fn := (Tryd.prog.funcs[104]?).getD default) (by kernel_rfl) (by kernel_rfl) (by kernel_rfl)
theorem en95 : Enters Tryd.prog 95 := enters_of (fn := (Tryd.prog.funcs[95]?).getD default) (by kernel_rfl) (by kernel_rfl) (by kernel_rfl)
theorem en74 : Enters Tryd.prog 74 := enters_of (fn := (Tryd.prog.funcs[74]?).getD default) (by kernel_rfl) (by kernel_rfl) (by kernel_rfl)
theorem en93 : Enters Tryd.prog 93 := enters_of (fn := (Tryd.prog.funcs[93]?).getD default) (by kernel_rfl) (by kernel_rfl) (by kernel_rfl)
theorem en55 : Enters Tryd.prog 55 := enters_of (fn := (Tryd.prog.funcs[55]?).getD default) (by kernel_rfl) (by kernel_rfl) (by kernel_rfl)
theorem en105 : Enters Tryd.prog 105 := enters_of (fn := (Tryd.prog.funcs[105]?).getD default) (by kernel_rfl) (by kernel_rfl) (by kernel_rfl)
theorem en71 : Enters Tryd.prog 71 := enters_of (fn := (Tryd.prog.funcs[71]?).getD default) (by kernel_rfl) (by kernel_rfl) (by kernel_rfl)
theorem en17 : Enters Tryd.prog 17 := enters_of (fn := (Tryd.prog.funcs[17]?).getD default) (by kernel_rfl) (by kernel_rfl) (by kernel_rfl)
theorem en73 : Enters Tryd.prog 73 := enters_of (fn := (Tryd.prog.funcs[73]?).getD default) (by kernel_rfl) (by kernel_rfl) (by kernel_rfl)
theorem en45 : Enters Tryd.prog 45 := enters_of (fn := (Tryd.prog.funcs[45]?).getD default) (by kernel_rfl) (by kernel_rfl) (by kernel_rfl)
theorem en19 : Enters Tryd.prog 19 := enters_of (fn := (Tryd.prog.funcs[19]?).getD default) (by kernel_rfl) (by kernel_rfl) (by kernel_rfl)
theorem en25 : Enters Tryd.prog 25 := enters_of (fn := (Tryd.prog.funcs[25]?).getD default) (by kernel_rfl) (by kernel_rfl) (by kernel_rfl)
theorem en15 : Enters Tryd.prog 15 := enters_of (fn := (Tryd.prog.funcs[15]?).getD default) (by kernel_rfl) (by kernel_rfl) (by kernel_rfl)
theorem en42 : Enters Tryd.prog 42 := enters_of (fn := (Tryd.prog.funcs[42]?).getD default) (by kernel_rfl) (by kernel_rfl) (by kernel_rfl)
theorem en43 : Enters Tryd.prog 43 := enters_of (fn := (Tryd.prog.funcs[43]?).getD default) (by kernel_rfl) (by kernel_rfl) (by kernel_rfl)
theorem en68 : Enters Tryd.prog 68 := enters_of (fn := (Tryd.prog.funcs[68]?).getD default) (by kernel_rfl) (by kernel_rfl) (by kernel_rfl)
theorem en18 : Enters Tryd.prog 18 := enters_of (fn := (Tryd.prog.funcs[18]?).getD default) (by kernel_rfl) (by kernel_rfl) (by kernel_rfl)
theorem en44 : Enters Tryd.prog 44 := enters_of (fn := (Tryd.prog.funcs[44]?).getD default) (by kernel_rfl) (by kernel_rfl) (by kernel_rfl)
theorem en72 : Enters Tryd.prog 72 := enters_of (fn := (Tryd.prog.funcs[72]?).getD default) (by kernel_rfl) (by kernel_rfl) (by kernel_rfl)
theorem en16 : Enters Tryd.prog 16 := enters_of (fn := (Tryd.prog.funcs[16]?).getD default) (by kernel_rfl) (by kernel_rfl) (by kernel_rfl)
theorem en32 : Enters Tryd.prog 32 := enters_of (fn := (Tryd.prog.funcs[32]?).getD default) (by kernel_rfl) (by kernel_rfl) (by kernel_rfl)
theorem en14 : Enters Tryd.prog 14 := enters_of (fn := (Tryd.prog.funcs[14]?).getD default) (by kernel_rfl) (by kernel_rfl) (by kernel_rfl)
theorem en40 : Enters Tryd.prog 40 := enters_of (fn := (Tryd.prog.funcs[40]?).getD default) (by kernel_rfl) (by kernel_rfl) (by kernel_rfl)
theorem en41 : Enters Tryd.prog 41 := enters_of (fn := (Tryd.prog.funcs[41]?).getD default) (by kernel_rfl) (by kernel_rfl) (by kernel_rfl)
theorem en22 : Enters Tryd.prog 22 := enters_of (fn := (Tryd.prog.funcs[22]?).getD default) (by kernel_rfl) (by kernel_rfl) (by kernel_rfl)
theorem en31 : Enters Tryd.prog 31 := enters_of (fn := (Tryd.prog.funcs[31]?).getD default) (by kernel_rfl) (by kernel_rfl) (by kernel_rfl)
theorem en35 : Enters Tryd.prog 35 := enters_of (fn := (Tryd.prog.funcs[35]?).getD default) (by kernel_rfl) (by kernel_rfl) (by kernel_rfl)
theorem en23 : Enters Tryd.prog 23 := enters_of (fn := (Tryd.prog.funcs[23]?).getD default) (by kernel_rfl) (by kernel_rfl) (by kernel_rfl)
theorem en24 : Enters Tryd.prog 24 := enters_of (fn := (Tryd.prog.funcs[24]?).getD default) (by kernel_rfl) (by kernel_rfl) (by kernel_rfl)
theorem en47 : Enters Tryd.prog 47 := enters_of (fn := (Tryd.prog.funcs[47]?).getD default) (by kernel_rfl) (by kernel_rfl) (by kernel_rfl)
theorem en48 : Enters Tryd.prog 48 := enters_of (fn := (Tryd.prog.funcs[48]?).getD default) (by kernel_rfl) (by kernel_rfl) (by kernel_rfl)
theorem en49 : Enters Tryd.prog 49 := enters_of (fn := (Tryd.prog.funcs[49]?).getD default) (by kernel_rfl) (by kernel_rfl) (by kernel_rfl)
theorem en76 : Enters Tryd.prog 76 := enters_of (fn := (Tryd.prog.funcs[76]?).getD default) (by kernel_rfl) (by kernel_rfl) (by kernel_rfl)
theorem en77 : Enters Tryd.prog 77 := enters_of (fn := (Tryd.prog.funcs[77]?).getD default) (by kernel_rfl) (by kernel_rfl) (by kernel_rfl)
theorem en78 : Enters Tryd.prog 78 := enters_of (fn := (Tryd.prog.funcs[78]?).getD default) (by kernel_rfl) (by kernel_rfl) (by kernel_rfl)
theorem en69 : Enters Tryd.prog 69 := enters_of (fn := (Tryd.prog.funcs[69]?).getD default) (by kernel_rfl) (by kernel_rfl) (by kernel_rfl)
theorem en70 : Enters Tryd.prog 70 := enters_of (fn := (Tryd.prog.funcs[70]?).getD default) (by kernel_rfl) (by kernel_rfl) (by kernel_rfl)
theorem en13 : Enters Tryd.prog 13 := enters_of (fn := (Tryd.prog.funcs[13]?).getD default) (by kernel_rfl) (by kernel_rfl) (by kernel_rfl)
theorem mixed : Tryd.prog.follows .mixedOrders = true := by kernel_rfl
end Go.Proofs.YtcpceompoihboaaDoor
