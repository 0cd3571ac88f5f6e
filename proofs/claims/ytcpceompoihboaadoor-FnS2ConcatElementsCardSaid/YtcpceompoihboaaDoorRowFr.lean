/- The built-in copy and a store into a row that is known whole, in frames that are not written out. -/
import Derived.Test.YtcpceompoihboaaDoorRow
import Derived.Test.YtcpceompoihboaaDoorFacts
namespace Go.Proofs.YtcpceompoihboaaDoor
open Go.RowKit

section
variable {P : Program} {ops : Array Oper} {Q : Exit → Act → World → Prop} {w : World} {N : Nat} {g : Nat → Value} {d : List Deferred} {rest : List Oper} {k T : Nat} {pos : String} {aft : Array Edge}
theorem w_copy {x y : Operand} {dT sT e : TypeId} {dp sp : Option Addr} {dLen dCap sLen sCap : Nat} (hx : vof N g x = .slice dp dLen dCap) (hy : vof N g y = .slice sp sLen sCap)
    (hu : P.underlying dT = some (.slice e)) (hsz : (P.info? e).map (·.size) = some 1) (gd off : Nat) (t : TypeId) (xs ys : List Int) (R : Row w gd t xs) (hn : ys.length = Nat.min sLen dLen)
    (hdp : 0 < ys.length → dp = some ⟨gd, off, none⟩) (hsp : 0 < ys.length → ∃ b k, sp = some ⟨b, k, none⟩ ∧ ∀ i, i < ys.length → w.cell? ⟨b, k + i, none⟩ = some (.int .u8 (ys.getD i 0)))
    (hfit : off + ys.length ≤ xs.length)
    (h : ∀ w', Row w' gd t (splice xs off ys) → w.grownBy w' (some gd) → wpList P ops Q rest ⟨fr N (upd g k (.int .i64 ys.length)), d⟩ w') :
    wpList P ops Q (⟨some k, .call { callee := .builtin .copy, args := #[x, y], argTypes := #[dT, sT] }, T, pos, aft, none⟩ :: rest) ⟨fr N g, d⟩ w := by
  refine wpList_copy_row x y dT sT rfl rfl e hu hsz dp sp dLen dCap sLen sCap (by rw [eval_fr]; exact hx) (by rw [eval_fr]; exact hy) gd off t xs ys R hn hdp hsp hfit fun w' R' hgb => ?_
  rw [fr_put]
  exact h w' R' hgb
/-- a byte is stored into a row -/
theorem w_put {x y : Operand} {T1 : TypeId} {gd i : Nat} {v : Int} {t : TypeId} {xs : List Int} (hx : vof N g x = .pointer (some ⟨gd, i, none⟩)) (hy : vof N g y = .int .u8 v) (hs : (P.info? T1).map (·.size) = some 1) (R : Row w gd t xs) (hi : i < xs.length)
    (h : ∀ w', Row w' gd t (xs.set i v) → w.grownBy w' (some gd) → wpList P ops Q rest ⟨fr N g, d⟩ w') :
    wpList P ops Q (⟨none, .store T1 x y, T, pos, aft, none⟩ :: rest) ⟨fr N g, d⟩ w :=
  w_store (e_store hx hy hs (R.cell i hi) (R.frozen i)) (h _ (R.set i v) (gb_set (gb_refl _ _) rfl _))
end
theorem gb_undrew {w w' : World} {k : Nat} {r : Option Nat} (h : (w.drewN k).grownBy w' r) : w.grownBy w' r := ⟨h.os, h.tape, h.output, h.size, h.block⟩
/-- what a row reads -/
theorem Row.reads {w : World} {g : Nat} {t : TypeId} {xs : List Int} (R : Row w g t xs) (hb : Byt xs) (o n : Nat) (h : o + n ≤ xs.length) : Reads w g o n (xs.drop o) := fun i h0 h1 => by
  have e : (xs.drop o).getD i.toNat 0 = xs.getD (o + i.toNat) 0 := by simp [List.getD]
  rw [e]
  exact ⟨R.cell _ (by omega), (hb.getD _).1, (hb.getD _).2⟩
theorem splice_length (xs ys : List Int) (o : Nat) (h : o + ys.length ≤ xs.length) : (splice xs o ys).length = xs.length := by
  simp [splice]; omega
theorem splice_byt {xs ys : List Int} (hx : Byt xs) (hy : Byt ys) (o : Nat) : Byt (splice xs o ys) := by
  unfold splice
  exact Byt.append (hx.take _) (Byt.append hy (hx.drop _))
theorem splice_take (xs ys : List Int) (o : Nat) (h : o + ys.length ≤ xs.length) : (splice xs o ys).take (o + ys.length) = xs.take o ++ ys := by
  unfold splice
  rw [← List.append_assoc]
  have : (xs.take o ++ ys).length = o + ys.length := by simp; omega
  rw [← this, List.take_left]
end Go.Proofs.YtcpceompoihboaaDoor
