/- What the types and functions of this translation are: closed facts, printed by facts.py. -/
import Derived.Test.YtcpceompoihboaaSteps
namespace Go.Proofs.Ytcpceompoihboaa
open Go.RowKit
theorem u2 : Try.prog.underlying 2 = some (.int .i64) := by kernel_rfl
theorem sc2 : Scalar Try.prog 2 := fun w => by simp [isAgg, run_underlying u2]
theorem u3 : Try.prog.underlying 3 = some (.int .i64) := by kernel_rfl
theorem sc3 : Scalar Try.prog 3 := fun w => by simp [isAgg, run_underlying u3]
theorem u4 : Try.prog.underlying 4 = some .bool := by kernel_rfl
theorem sc4 : Scalar Try.prog 4 := fun w => by simp [isAgg, run_underlying u4]
theorem u5 : Try.prog.underlying 5 = some (.int .u8) := by kernel_rfl
theorem sc5 : Scalar Try.prog 5 := fun w => by simp [isAgg, run_underlying u5]
theorem u6 : Try.prog.underlying 6 = some (.int .u8) := by kernel_rfl
theorem sc6 : Scalar Try.prog 6 := fun w => by simp [isAgg, run_underlying u6]
theorem u9 : Try.prog.underlying 9 = some .string := by kernel_rfl
theorem sc9 : Scalar Try.prog 9 := fun w => by simp [isAgg, run_underlying u9]
theorem u10 : Try.prog.underlying 10 = some .string := by kernel_rfl
theorem sc10 : Scalar Try.prog 10 := fun w => by simp [isAgg, run_underlying u10]
theorem u11 : Try.prog.underlying 11 = some .string := by kernel_rfl
theorem sc11 : Scalar Try.prog 11 := fun w => by simp [isAgg, run_underlying u11]
theorem u12 : Try.prog.underlying 12 = some (.int .u64) := by kernel_rfl
theorem sc12 : Scalar Try.prog 12 := fun w => by simp [isAgg, run_underlying u12]
theorem u21 : Try.prog.underlying 21 = some (.int .i32) := by kernel_rfl
theorem sc21 : Scalar Try.prog 21 := fun w => by simp [isAgg, run_underlying u21]
theorem u22 : Try.prog.underlying 22 = some (.slice 41) := by kernel_rfl
theorem sc22 : Scalar Try.prog 22 := fun w => by simp [isAgg, run_underlying u22]
theorem u23 : Try.prog.underlying 23 = some (.slice 25) := by kernel_rfl
theorem sc23 : Scalar Try.prog 23 := fun w => by simp [isAgg, run_underlying u23]
theorem u26 : Try.prog.underlying 26 = some (.slice 5) := by kernel_rfl
theorem sc26 : Scalar Try.prog 26 := fun w => by simp [isAgg, run_underlying u26]
theorem u39 : Try.prog.underlying 39 = some (.int .u32) := by kernel_rfl
theorem sc39 : Scalar Try.prog 39 := fun w => by simp [isAgg, run_underlying u39]
theorem u42 : Try.prog.underlying 42 = some (.slice 72) := by kernel_rfl
theorem sc42 : Scalar Try.prog 42 := fun w => by simp [isAgg, run_underlying u42]
theorem u79 : Try.prog.underlying 79 = some (.int .u64) := by kernel_rfl
theorem sc79 : Scalar Try.prog 79 := fun w => by simp [isAgg, run_underlying u79]
theorem u83 : Try.prog.underlying 83 = some (.slice 3) := by kernel_rfl
theorem sc83 : Scalar Try.prog 83 := fun w => by simp [isAgg, run_underlying u83]
theorem u84 : Try.prog.underlying 84 = some (.int .u16) := by kernel_rfl
theorem sc84 : Scalar Try.prog 84 := fun w => by simp [isAgg, run_underlying u84]
theorem u90 : Try.prog.underlying 90 = some (.int .u64) := by kernel_rfl
theorem sc90 : Scalar Try.prog 90 := fun w => by simp [isAgg, run_underlying u90]
theorem z2 : (Try.prog.info? 2).map (·.size) = some 1 := by kernel_rfl
theorem z3 : (Try.prog.info? 3).map (·.size) = some 1 := by kernel_rfl
theorem z4 : (Try.prog.info? 4).map (·.size) = some 1 := by kernel_rfl
theorem z5 : (Try.prog.info? 5).map (·.size) = some 1 := by kernel_rfl
theorem z6 : (Try.prog.info? 6).map (·.size) = some 1 := by kernel_rfl
theorem z9 : (Try.prog.info? 9).map (·.size) = some 1 := by kernel_rfl
theorem z10 : (Try.prog.info? 10).map (·.size) = some 1 := by kernel_rfl
theorem z11 : (Try.prog.info? 11).map (·.size) = some 1 := by kernel_rfl
theorem z12 : (Try.prog.info? 12).map (·.size) = some 1 := by kernel_rfl
theorem z21 : (Try.prog.info? 21).map (·.size) = some 1 := by kernel_rfl
theorem z22 : (Try.prog.info? 22).map (·.size) = some 1 := by kernel_rfl
theorem z23 : (Try.prog.info? 23).map (·.size) = some 1 := by kernel_rfl
theorem z26 : (Try.prog.info? 26).map (·.size) = some 1 := by kernel_rfl
theorem z39 : (Try.prog.info? 39).map (·.size) = some 1 := by kernel_rfl
theorem z42 : (Try.prog.info? 42).map (·.size) = some 1 := by kernel_rfl
theorem z79 : (Try.prog.info? 79).map (·.size) = some 1 := by kernel_rfl
theorem z83 : (Try.prog.info? 83).map (·.size) = some 1 := by kernel_rfl
theorem z84 : (Try.prog.info? 84).map (·.size) = some 1 := by kernel_rfl
theorem z90 : (Try.prog.info? 90).map (·.size) = some 1 := by kernel_rfl
theorem en34 : Enters Try.prog 34 := enters_of (fn := (Try.prog.funcs[34]?).getD default) (by kernel_rfl) (by kernel_rfl) (by kernel_rfl)
theorem en35 : Enters Try.prog 35 := enters_of (fn := (Try.prog.funcs[35]?).getD default) (by kernel_rfl) (by kernel_rfl) (by kernel_rfl)
theorem en37 : Enters Try.prog 37 := enters_of (fn := (Try.prog.funcs[37]?).getD default) (by kernel_rfl) (by kernel_rfl) (by kernel_rfl)
theorem en38 : Enters Try.prog 38 := enters_of (fn := (Try.prog.funcs[38]?).getD default) (by kernel_rfl) (by kernel_rfl) (by kernel_rfl)
theorem en15 : Enters Try.prog 15 := enters_of (fn := (Try.prog.funcs[15]?).getD default) (by kernel_rfl) (by kernel_rfl) (by kernel_rfl)
theorem en17 : Enters Try.prog 17 := enters_of (fn := (Try.prog.funcs[17]?).getD default) (by kernel_rfl) (by kernel_rfl) (by kernel_rfl)
theorem en25 : Enters Try.prog 25 := enters_of (fn := (Try.prog.funcs[25]?).getD default) (by kernel_rfl) (by kernel_rfl) (by kernel_rfl)
theorem en26 : Enters Try.prog 26 := enters_of (fn := (Try.prog.funcs[26]?).getD default) (by kernel_rfl) (by kernel_rfl) (by kernel_rfl)
theorem en33 : Enters Try.prog 33 := enters_of (fn := (Try.prog.funcs[33]?).getD default) (by kernel_rfl) (by kernel_rfl) (by kernel_rfl)
theorem en27 : Enters Try.prog 27 := enters_of (fn := (Try.prog.funcs[27]?).getD default) (by kernel_rfl) (by kernel_rfl) (by kernel_rfl)
theorem en18 : Enters Try.prog 18 := enters_of (fn := (Try.prog.funcs[18]?).getD default) (by kernel_rfl) (by kernel_rfl) (by kernel_rfl)
theorem en8 : Enters Try.prog 8 := enters_of (fn := (Try.prog.funcs[8]?).getD default) (by kernel_rfl) (by kernel_rfl) (by kernel_rfl)
theorem en9 : Enters Try.prog 9 := enters_of (fn := (Try.prog.funcs[9]?).getD default) (by kernel_rfl) (by kernel_rfl) (by kernel_rfl)
theorem en10 : Enters Try.prog 10 := enters_of (fn := (Try.prog.funcs[10]?).getD default) (by kernel_rfl) (by kernel_rfl) (by kernel_rfl)
theorem mixed : Try.prog.follows .mixedOrders = true := by kernel_rfl
end Go.Proofs.Ytcpceompoihboaa
