/- What a listed sentinel error gives the walks: its cell holds a value with a pointer. -/
import Derived.Test.YtcpceompoihboaaDoorBase
import Derived.LaidMore
import Derived.Stop.LaidErr
import Derived.MakeChecks
namespace Go.Proofs.YtcpceompoihboaaDoor
open Go.RowKit Go.ChangeShapes

theorem star : "*" ++ "errors.errorString" = "*errors.errorString" := by decide
theorem row_err (u : TypeId) (h : Tryd.prog.typeName? 3 u = some "*errors.errorString") : u = 150 :=
  typeName_ptr_named (nm := "errors.errorString") (by rw [star]; kernel_rfl) (by kernel_rfl) (by decide) u (by rw [star]; exact h)
theorem cells_err : Tryd.prog.cellsOf 152 = 1 := by kernel_rfl
theorem cells_str : Tryd.prog.cellsOf 9 = 1 := by kernel_rfl

theorem sentinel_cell {n : String} {text : List UInt8} {r : List (String × DataW Unit)} {W : World} {g : Nat}
    (h : laidMet Tryd.prog ((n, .iface "*errors.errorString" (.ptr (.agg [.lit (.string text)]))) :: r) W) (hg : Tryd.prog.globalNamed n = some g) (ht : (Tryd.prog.globals[g]?).map (·.type) = some 76) :
    ∃ (t : TypeId) (a : Addr), W.cell? ⟨g, 0, none⟩ = some (.iface t (.pointer (some a))) := by
  obtain ⟨a, s, hv, _⟩ := laid_sentinel h hg ht Tryd.underlying76 row_err Tryd.underlying150 Tryd.underlying152 rfl rfl Tryd.underlying9 cells_err cells_str
  exact ⟨_, a, by simpa using World.var?_cell hg hv 0⟩
end Go.Proofs.YtcpceompoihboaaDoor
