/- binary.LittleEndian.PutUint32 into a row of four cells. -/
import Derived.Test.YtnkjcibebdggmaaOwn
namespace Go.Proofs.Ytnkjcibebdggmaa
open Go.RowKit

theorem put32_any (g : Nat) (v : Int) (h0 : 0 ≤ v) (h1 : v < 4294967296) (w : World) (x0 x1 x2 x3 : Value) (t : TypeId)
    (hb : w.heap[g]? = some (.cells #[x0, x1, x2, x3] t (0, 0))) :
    Calls Try.prog 15 #[.agg #[], .slice (some ⟨g, 0, none⟩) 4 4, .int .u32 v] w fun e w' => e = .returned (.tuple #[]) ∧
      w'.heap[g]? = some (.cells #[.int .u8 (v % 256), .int .u8 (v / 256 % 256), .int .u8 (v / 65536 % 256), .int .u8 (v / 16777216)] t (0, 0)) ∧ w.grownBy w' (some g) := by
  have hlt : g < w.heap.size := (Array.getElem?_eq_some_iff.1 hb).1
  have c0 : w.cell? ⟨g, 0, none⟩ = some x0 := by simp [World.cell?, hb]
  have c1 : w.cell? ⟨g, 1, none⟩ = some x1 := by simp [World.cell?, hb]
  have c2 : w.cell? ⟨g, 2, none⟩ = some x2 := by simp [World.cell?, hb]
  have c3 : w.cell? ⟨g, 3, none⟩ = some x3 := by simp [World.cell?, hb]
  have f : ∀ o, w.frozen? ⟨g, o, none⟩ = false := fun o => by simp [World.frozen?, hb]
  have HB := Lib.hid hb
  clear hb
  go_enter Try.func15, Try.ntmps15
  go_wp2
  go_end0
  have b4 := blk_set (blk_set (blk_set (blk_set HB.out 0 (.int .u8 (v % 256))) 1 (.int .u8 (v / 256 % 256))) 2 (.int .u8 (v / 65536 % 256))) 3 (.int .u8 (v / 16777216))
  simp only [List.setIfInBounds_toArray, List.set_cons_zero, List.set_cons_succ] at b4
  refine ⟨rfl, ?_, ?_⟩
  · exact blk_alloc b4 _
  · repeat (first | (with_reducible exact gb_refl _ _) | (with_reducible refine gb_alloc ?_ _) | (with_reducible refine gb_set ?_ rfl _))
end Go.Proofs.Ytnkjcibebdggmaa
