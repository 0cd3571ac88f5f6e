/- A row of bytes in a block that is known whole: its cells, stores, the built-in copy into it. -/
import Derived.Test.YtcpceompoihboaaDoorOwn
import Derived.Laws.CopyOwn
namespace Go.Proofs.YtcpceompoihboaaDoor
open Go.RowKit

/-- block g is a row of the bytes xs, not frozen -/
def Row (w : World) (g : Nat) (t : TypeId) (xs : List Int) : Prop := w.heap[g]? = some (.cells (xs.map (Value.int .u8)).toArray t (0, 0))

section
variable {w w' : World} {g : Nat} {t : TypeId} {xs : List Int}
theorem Row.lt (h : Row w g t xs) : g < w.heap.size := blk_lt h
theorem Row.cell (h : Row w g t xs) (i : Nat) (hi : i < xs.length) : w.cell? ⟨g, i, none⟩ = some (.int .u8 (xs.getD i 0)) := by
  rw [blk_cell h]; simp [List.getD, hi]
theorem Row.frozen (h : Row w g t xs) (i : Nat) : w.frozen? ⟨g, i, none⟩ = false := blk_frozen h i
theorem Row.set (h : Row w g t xs) (i : Nat) (v : Int) : Row (w.setCell ⟨g, i, none⟩ (.int .u8 v)) g t (xs.set i v) := by
  have := blk_set h i (.int .u8 v)
  unfold Row
  rw [this, List.setIfInBounds_toArray, List.map_set]
theorem Row.below {B : Nat} (h : Row w g t xs) (hb : Below B w w') (hg : g < B) : Row w' g t xs := blk_below h hb hg
theorem Row.grown {r : Option Nat} (h : Row w g t xs) (hb : w.grownBy w' r) (hne : some g ≠ r) : Row w' g t xs := blk_grown h hb hne
theorem Row.drewN (h : Row w g t xs) (k : Nat) : Row (w.drewN k) g t xs := h
theorem Row.alloc (h : Row w g t xs) (o : Obj) : Row (w.alloc o) g t xs := blk_alloc h o
theorem Row.other {a : Addr} (h : Row w g t xs) (hne : g ≠ a.block) (v : Value) : Row (w.setCell a v) g t xs := blk_other h hne v
theorem Row.slAt (h : Row w g t xs) (o n c : Nat) (ys : List Int) (hy : Byt ys) (ho : o + n ≤ xs.length) (hc : n ≤ c) (hb : c ≤ 9223372036854775807) (he : (xs.drop o).take n = ys) :
    SlAt w (some ⟨g, o, none⟩) n c ys := by
  subst he
  refine ⟨by simp; omega, hc, hb, (fun h => by cases h), fun _ => ⟨_, _, rfl, fun i hi => ?_⟩, hy⟩
  rw [h.cell (o + i) (by omega), getD_sub _ _ _ _ hi]
end

theorem own_row_full {w : World} {B e n : Nat} {g c : Nat} {xs : List Int} (h : w.ownsRow B e 1 (.slice (some ⟨g, 0, none⟩) n c) n (xs.map (Value.int .u8))) (hc : n = c) : Row w g e xs := by
  rcases h.2 with ⟨h', _⟩ | ⟨g', cap, cur, hv, _, hg, _, _, hs, ht⟩
  · cases h'
  · simp only [Value.slice.injEq, Option.some.injEq, Addr.mk.injEq, and_true, true_and] at hv
    obtain ⟨rfl, rfl⟩ := hv
    unfold Row
    rw [hg, ← ht, List.take_of_length_le (by rw [Array.length_toList, hs]; omega)]

/-- make([]byte, n): a row of zeros -/
theorem row_made {w : World} {B e n g : Nat} (h : w.ownsRow B e 1 (.slice (some ⟨g, 0, none⟩) n n) n (madeCells (Value.int .u8 0).cells (n * 1)).toList) : Row w g e (List.replicate n 0) := by
  have e1 : (madeCells (Value.int .u8 0).cells (n * 1)).toList = (List.replicate n (0 : Int)).map (Value.int .u8) := by
    rw [Nat.mul_one, show (Value.int .u8 0).cells = #[Value.int .u8 0] from rfl, toList_madeCells_one, List.map_replicate]
  rw [e1] at h
  exact own_row_full h rfl

theorem splice_map (xs ys : List Int) (off : Nat) : splice (xs.map (Value.int .u8)) off (ys.map (Value.int .u8)) = (splice xs off ys).map (Value.int .u8) := by
  simp [splice, List.map_take, List.map_drop]

/-- copy(dst, src), dst in a row that is known whole -/
theorem wpList_copy_row {P : Program} {w : World} {ops : Array Oper} {rest : List Oper} {o : Oper} {a : Act} {Q : Exit → Act → World → Prop} (d s : Operand) (dT sT : TypeId)
    (ho : o.op = .call { callee := .builtin .copy, args := #[d, s], argTypes := #[dT, sT] }) (hgd : o.guard = none) (elem : TypeId) (hu : P.underlying dT = some (.slice elem)) (hsz : (P.info? elem).map (·.size) = some 1)
    (dp sp : Option Addr) (dLen dCap sLen sCap : Nat) (hd : a.eval d = .slice dp dLen dCap) (hs : a.eval s = .slice sp sLen sCap)
    (g off : Nat) (t : TypeId) (xs ys : List Int) (R : Row w g t xs) (hn : ys.length = Nat.min sLen dLen)
    (hdp : 0 < ys.length → dp = some ⟨g, off, none⟩) (hsp : 0 < ys.length → ∃ b k, sp = some ⟨b, k, none⟩ ∧ ∀ i, i < ys.length → w.cell? ⟨b, k + i, none⟩ = some (.int .u8 (ys.getD i 0)))
    (hfit : off + ys.length ≤ xs.length)
    (h : ∀ w', Row w' g t (splice xs off ys) → w.grownBy w' (some g) → wpList P ops Q rest (a.put o.dst (.int .i64 ys.length)) w') :
    wpList P ops Q (o :: rest) a w := by
  by_cases h0 : ys.length = 0
  · obtain rfl : ys = [] := List.eq_nil_of_length_eq_zero h0
    refine wpList_copy_nothing hgd d s dT sT ho elem hu hsz dp sp dLen dCap sLen sCap hd hs (by simpa using hn.symm) ?_
    exact h w (by simpa [splice] using R) (gb_refl _ _)
  · obtain rfl := hdp (by omega)
    obtain ⟨b, k, rfl, hc⟩ := hsp (by omega)
    refine wpList_copy_own hgd d s dT sT ho elem hu hsz g off dLen dCap ⟨b, k, none⟩ sLen sCap hd hs (xs.map (Value.int .u8)).toArray t R (ys.map (Value.int .u8)) (by simpa using hn) (fun j v hv => ?_) (by simpa using hfit) (ints_oneCell _ _) ?_
    · have hj : j < ys.length := by
        have := (List.getElem?_eq_some_iff.1 hv).1
        simpa using this
      rw [Addr.add_lit, hc j hj, ← hv]
      simp [List.getD, hj]
    · have e1 : (goInt (ys.map (Value.int .u8)).length) = Value.int .i64 ys.length := by simp [goInt]
      rw [e1]
      refine h _ ?_ ⟨rfl, rfl, rfl, by simp [World.setRow], fun k _ hr => setRow_other w g k _ (fun e => hr (by rw [e]))⟩
      have := setRow_heap w g _ ((xs.map (Value.int .u8)).toArray.toList.take off ++ (ys.map (Value.int .u8) ++ (xs.map (Value.int .u8)).toArray.toList.drop (off + (ys.map (Value.int .u8)).length))).toArray t _ R
      unfold Row
      rw [this, ← splice_map]
      rfl

end Go.Proofs.YtcpceompoihboaaDoor
