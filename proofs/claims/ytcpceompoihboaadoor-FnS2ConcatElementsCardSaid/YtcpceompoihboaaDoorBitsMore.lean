/- More laws on bits, and on quotients and rests. -/
import Derived.Test.YtcpceompoihboaaDoorEmit
namespace Go.Proofs.YtcpceompoihboaaDoor
open Go.RowKit
set_option linter.unusedSimpArgs false
theorem u8_or1 (a : Int) (h0 : 0 ≤ a) (h1 : a < 256) (h2 : a % 2 = 0) : bits .or .u8 a 1 = a + 1 := by
  have h : ∀ k : Fin 256, bits .or .u8 (k.val : Int) 1 = (k.val : Int) / 2 * 2 + 1 := by decide +kernel
  have := h ⟨a.toNat, by omega⟩
  simp [Int.toNat_of_nonneg h0] at this
  omega
theorem u8_or2 (a : Int) (h0 : 0 ≤ a) (h1 : a < 256) (h2 : a % 4 = 0) : bits .or .u8 a 2 = a + 2 := by
  have h : ∀ k : Fin 256, bits .or .u8 (k.val : Int) 2 = (k.val : Int) / 4 * 4 + (k.val : Int) % 2 + 2 := by decide +kernel
  have := h ⟨a.toNat, by omega⟩
  simp [Int.toNat_of_nonneg h0] at this
  omega
theorem u8_or3 (a : Int) (h0 : 0 ≤ a) (h1 : a < 256) (h2 : a % 4 = 0) : bits .or .u8 a 3 = a + 3 := by
  have h : ∀ k : Fin 256, bits .or .u8 (k.val : Int) 3 = (k.val : Int) / 4 * 4 + 3 := by decide +kernel
  have := h ⟨a.toNat, by omega⟩
  simp [Int.toNat_of_nonneg h0] at this
  omega
theorem u8_orhi (a b : Int) (h0 : 0 ≤ a) (h1 : a < 256) (h2 : a % 32 = 0) (h3 : 0 ≤ b) (h4 : b < 32) : bits .or .u8 a b = a + b := by
  have h : ∀ (k : Fin 8) (j : Fin 32), bits .or .u8 ((k.val : Int) * 32) (j.val : Int) = (k.val : Int) * 32 + (j.val : Int) := by decide +kernel
  have := h ⟨(a / 32).toNat, by omega⟩ ⟨b.toNat, by omega⟩
  simp only [Int.toNat_of_nonneg h3, Int.toNat_of_nonneg (show 0 ≤ a / 32 by omega)] at this
  rw [show a / 32 * 32 = a by omega] at this
  exact this
theorem sh_0 {kd : IntKind} (h : Nat.blt kd.bits 0 = false) : Sh kd 0 1 := sh_of 0 h
section
variable {P : Program} {w : World} {ρ : Operand → Value} {k : Option Nat} {T T1 T2 : Nat} {pos : String} {aft : Array Edge} {x y : Operand} {gd : Option (Nat × Bool)}
theorem e_rem {kd : IntKind} {a b : Int} (hx : ρ x = .int kd a) (hy : ρ y = .int kd b) (h0 : 0 ≤ a) (h1 : 0 < b) : (execOp ρ ⟨k, .binOp .rem T1 x y T2, T, pos, aft, gd⟩).run P w = .ok (.value (.int kd (a % b))) w := by
  have h2 : ¬ b = 0 := by omega
  have e : Op.intDiv .rem kd a b = pure (.int kd (a % b)) := by
    unfold Op.intDiv
    rw [if_neg h2]
    simp only [Int.tmod_eq_emod_of_nonneg h0]
  simp only [execOp, eqGuard, binOp, hx, hy, e]
  simp
theorem e_quo {kd : IntKind} {a b c : Int} (hx : ρ x = .int kd a) (hy : ρ y = .int kd b) (h0 : 0 ≤ a) (h1 : 0 < b) (hr : kd.wrap (a / b) = c) : (execOp ρ ⟨k, .binOp .quo T1 x y T2, T, pos, aft, gd⟩).run P w = .ok (.value (.int kd c)) w := by
  have h2 : ¬ b = 0 := by omega
  have e : Op.intDiv .quo kd a b = pure (.int kd c) := by
    unfold Op.intDiv
    rw [if_neg h2]
    simp only [Int.tdiv_eq_ediv_of_nonneg h0, hr]
  simp only [execOp, eqGuard, binOp, hx, hy, e]
  simp
end
end Go.Proofs.YtcpceompoihboaaDoor
