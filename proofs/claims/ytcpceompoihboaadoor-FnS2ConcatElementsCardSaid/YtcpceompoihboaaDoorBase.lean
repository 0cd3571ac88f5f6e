/- Words and small lemmas on slices of bytes that all walks of this seat share; no program is named here but for the imports. -/
import Derived.Test.YtcpceompoihboaaDoorRows
import Derived.WalkKit
import Derived.ProofKit
import Derived.Handy
import Derived.Deep.QuietTactic
import Derived.BigQuiet
import Derived.Outline
import Derived.Deep.LoopGhost
import Derived.Shelf.Bytes.SlSmallAll
import Derived.Lib.Hide
namespace Go.Proofs.YtcpceompoihboaaDoor
open Go.RowKit

/-- each number is a byte's -/
def Byt (xs : List Int) : Prop := ∀ x ∈ xs, 0 ≤ x ∧ x < 256
theorem Byt.nil : Byt [] := fun _ h => by cases h
theorem Byt.append {a b : List Int} (ha : Byt a) (hb : Byt b) : Byt (a ++ b) := fun x h => by
  rcases List.mem_append.1 h with h | h
  · exact ha x h
  · exact hb x h
theorem Byt.cons {x : Int} {a : List Int} (h0 : 0 ≤ x) (h1 : x < 256) (ha : Byt a) : Byt (x :: a) := fun y h => by
  rcases List.mem_cons.1 h with rfl | h
  · exact ⟨h0, h1⟩
  · exact ha y h
theorem Byt.take {a : List Int} (ha : Byt a) (n : Nat) : Byt (a.take n) := fun x h => ha x (List.mem_of_mem_take h)
theorem Byt.drop {a : List Int} (ha : Byt a) (n : Nat) : Byt (a.drop n) := fun x h => ha x (List.mem_of_mem_drop h)
theorem Byt.getD {a : List Int} (ha : Byt a) (i : Nat) : 0 ≤ a.getD i 0 ∧ a.getD i 0 < 256 := by
  by_cases h : i < a.length
  · rw [List.getD_eq_getElem?_getD, List.getElem?_eq_getElem h]
    exact ha _ (List.getElem_mem h)
  · rw [List.getD_eq_getElem?_getD, List.getElem?_eq_none (by omega)]
    exact ⟨by decide, by decide⟩

/-- '.slice p n c' reads in w as the bytes xs -/
structure SlAt (w : World) (p : Option Addr) (n c : Nat) (xs : List Int) : Prop where
  len : xs.length = n
  cap : n ≤ c
  big : c ≤ 9223372036854775807
  nil : p = none → c = 0
  cells : Lib.BytesIn w p n xs
  byt : Byt xs

theorem SlAt.at {w : World} {p : Option Addr} {n c : Nat} {xs : List Int} (h : SlAt w p n c xs) (hn : 0 < n) :
    ∃ b o, p = some ⟨b, o, none⟩ ∧ b < w.heap.size ∧ ∀ i, i < n → w.cell? ⟨b, o + i, none⟩ = some (.int .u8 (xs.getD i 0)) := by
  obtain ⟨b, o, hp, hc⟩ := h.cells.at hn
  exact ⟨b, o, hp, World.block_lt_of_cell? w _ (hc 0 hn), hc⟩
theorem SlAt.below {w w' : World} {p : Option Addr} {n c : Nat} {xs : List Int} (h : SlAt w p n c xs) (hb : Below w.heap.size w w') : SlAt w' p n c xs := by
  refine ⟨h.len, h.cap, h.big, h.nil, fun hn => ?_, h.byt⟩
  obtain ⟨b, o, rfl, hlt, hc⟩ := h.at hn
  exact ⟨b, o, rfl, fun i hi => by rw [hb.cell (p := ⟨b, o + i, none⟩) hlt]; exact hc i hi⟩
theorem SlAt.drewN {w : World} {p : Option Addr} {n c : Nat} {xs : List Int} (h : SlAt w p n c xs) (k : Nat) : SlAt (w.drewN k) p n c xs :=
  ⟨h.len, h.cap, h.big, h.nil, h.cells, h.byt⟩
theorem wf_i64_bd {a : Int} (h : (Lit.int .i64 a).wf = true) : -9223372036854775808 ≤ a ∧ a ≤ 9223372036854775807 := by
  simpa [Lit.wf, IntKind.min, IntKind.max, IntKind.signed, IntKind.bits] using h
theorem below_eq {w w' : World} (B : Nat) (h : w = w') : Below B w w' := h ▸ Below.refl _ _

/-- a slice of bytes that came in -/
theorem slAt_of_row {w : World} {a : Option Addr} {len cap : Nat} {zs : List Int}
    (h : (a = none ∧ len = 0 ∧ cap = 0 ∧ zs = []) ∨ ∃ x, a = some x ∧ len ≤ cap ∧ cap ≤ maxLen ∧ zs.length = cap ∧ (∀ i, i < zs.length → w.cell? (x.add i) = some (.int .u8 (zs.getD i 0))) ∧ ∀ n ∈ zs, (Lit.int .u8 n).wf = true) :
    SlAt w a len cap (zs.take len) := by
  rcases h with ⟨rfl, rfl, rfl, rfl⟩ | ⟨x, rfl, h1, h2, h3, h4, h5⟩
  · exact ⟨rfl, Nat.le_refl _, by omega, fun _ => rfl, Lib.BytesIn.nil _ _ _, Byt.nil⟩
  · refine ⟨by simp; omega, h1, by unfold maxLen at h2; omega, (fun h => by cases h), Lib.BytesIn.of_cells fun i hi => ?_, fun y hy => ?_⟩
    · rw [h4 i (by omega)]; simp [List.getD, hi]
    · have := h5 y (List.mem_of_mem_take hy)
      simp [Lit.wf, IntKind.min, IntKind.max, IntKind.signed, IntKind.bits] at this
      omega

theorem getD_sub (xs : List Int) (i m j : Nat) (hj : j < m) : ((xs.drop i).take m).getD j 0 = xs.getD (i + j) 0 := by
  simp [List.getD, hj]
/-- a slice of a slice -/
theorem SlAt.sub {w : World} {b o n c : Nat} {xs : List Int} (h : SlAt w (some ⟨b, o, none⟩) n c xs) (i m c' : Nat) (ys : List Int) (hi : i + m ≤ n) (hc : m ≤ c') (hc' : c' ≤ 9223372036854775807)
    (he : (xs.drop i).take m = ys) : SlAt w (some ⟨b, o + i, none⟩) m c' ys := by
  subst he
  refine ⟨by simp [h.len]; omega, hc, hc', (fun h => by cases h), fun hm => ?_, (h.byt.drop i).take m⟩
  obtain ⟨b', o', he, _, hcell⟩ := h.at (by omega)
  simp only [Option.some.injEq, Addr.mk.injEq, and_true] at he
  obtain ⟨rfl, rfl⟩ := he
  exact ⟨_, _, rfl, fun j hj => by rw [Nat.add_assoc, hcell (i + j) (by omega), getD_sub _ _ _ _ hj]⟩

/-- a new block of bytes, read whole -/
theorem slAt_new (w : World) (cs : List Int) (e : TypeId) (fr : Nat × Nat) (n : Nat) (hn : cs.length = n) (hb : n ≤ 9223372036854775807) (hy : Byt cs) :
    SlAt (w.alloc (.cells (cs.map (Value.int .u8)).toArray e fr)) (some ⟨w.heap.size, 0, none⟩) n n cs := by
  refine ⟨hn, Nat.le_refl _, hb, (fun h => by cases h), fun _ => ⟨_, _, rfl, fun i hi => ?_⟩, hy⟩
  rw [cell_of_row _ w.heap.size (0 + i) _ e fr (heap_alloc_new w _)]
  simp [List.getD, hn, hi]

theorem below_drewN' (w : World) (B k : Nat) : Below B w (w.drewN k) := ⟨rfl, rfl, rfl, Nat.le_refl _, fun _ _ => rfl⟩
theorem drewN_zero (w : World) : w = w.drewN 0 := rfl

/-- the walk stops here: 'go_wp2_with (at_builtin; refine stopAt ?_)', then 'refine Stop.mk ?_' -/
def Stop (p : Prop) : Prop := p
theorem stopAt {p : Prop} (h : Stop p) : p := h
theorem Stop.mk {p : Prop} (h : p) : Stop p := h

/-! What a chain of new blocks, stores and draws leaves of a block, and of all others. -/
theorem blk_alloc {w : World} {g : Nat} {x : Obj} (h : w.heap[g]? = some x) (o : Obj) : (w.alloc o).heap[g]? = some x := by
  rw [Below.heap_alloc w o g (Array.getElem?_eq_some_iff.1 h).1]; exact h
theorem blk_drew {w : World} {g : Nat} {x : Obj} (h : w.heap[g]? = some x) : w.drew.heap[g]? = some x := h
theorem blk_other {w : World} {g : Nat} {x : Obj} (h : w.heap[g]? = some x) {a : Addr} (hne : g ≠ a.block) (v : Value) : (w.setCell a v).heap[g]? = some x := by
  rw [Below.heap_setCell w a v g hne]; exact h
theorem blk_set {w : World} {g : Nat} {cs : Array Value} {t : TypeId} (h : w.heap[g]? = some (.cells cs t (0, 0))) (i : Nat) (v : Value) : (w.setCell ⟨g, i, none⟩ v).heap[g]? = some (.cells (cs.setIfInBounds i v) t (0, 0)) :=
  heap_setCell_same w g i cs t v h
theorem blk_below {w w' : World} {g B : Nat} {x : Obj} (h : w.heap[g]? = some x) (hb : Below B w w') (hg : g < B) : w'.heap[g]? = some x := (hb.block g hg).trans h
theorem blk_grown {w w' : World} {g : Nat} {x : Obj} {r : Option Nat} (h : w.heap[g]? = some x) (hb : w.grownBy w' r) (hg : some g ≠ r) : w'.heap[g]? = some x :=
  (hb.block g (Array.getElem?_eq_some_iff.1 h).1 hg).trans h
theorem blk_lt {w : World} {g : Nat} {x : Obj} (h : w.heap[g]? = some x) : g < w.heap.size := (Array.getElem?_eq_some_iff.1 h).1
theorem blk_cell {w : World} {g : Nat} {cs : Array Value} {t : TypeId} {fr : Nat × Nat} (h : w.heap[g]? = some (.cells cs t fr)) (i : Nat) : w.cell? ⟨g, i, none⟩ = cs[i]? := by simp [World.cell?, h]
theorem blk_frozen {w : World} {g : Nat} {cs : Array Value} {t : TypeId} (h : w.heap[g]? = some (.cells cs t (0, 0))) (i : Nat) : w.frozen? ⟨g, i, none⟩ = false := by simp [World.frozen?, h]
theorem gb_refl (w : World) (r : Option Nat) : w.grownBy w r := ⟨rfl, rfl, rfl, Nat.le_refl _, fun _ _ _ => rfl⟩
theorem gb_trans {a b c : World} {r : Option Nat} (h : a.grownBy b r) (k : b.grownBy c r) : a.grownBy c r :=
  ⟨k.os.trans h.os, k.tape.trans h.tape, k.output.trans h.output, Nat.le_trans h.size k.size, fun i hi hr => (k.block i (Nat.lt_of_lt_of_le hi h.size) hr).trans (h.block i hi hr)⟩
theorem gb_alloc {a w : World} {r : Option Nat} (h : a.grownBy w r) (o : Obj) : a.grownBy (w.alloc o) r := gb_trans h (World.grownBy_alloc w o r)
theorem gb_drew {a w : World} {r : Option Nat} (h : a.grownBy w r) : a.grownBy w.drew r := ⟨h.os, h.tape, h.output, h.size, h.block⟩
theorem gb_set {a w : World} {g : Nat} (h : a.grownBy w (some g)) {p : Addr} (hp : p.block = g) (v : Value) : a.grownBy (w.setCell p v) (some g) :=
  gb_trans h ⟨rfl, rfl, rfl, by simp, fun k _ hr => Below.heap_setCell w p v k (fun e => hr (by rw [e, hp]))⟩
theorem gb_set_new {a w : World} {r : Option Nat} (h : a.grownBy w r) {p : Addr} (hp : a.heap.size ≤ p.block) (v : Value) : a.grownBy (w.setCell p v) r :=
  ⟨h.os, h.tape, h.output, by simpa using h.size, fun k hk hr => by rw [Below.heap_setCell w p v k (by omega)]; exact h.block k hk hr⟩
theorem gb_below {w w' : World} {r : Option Nat} (h : Below w.heap.size w w') : w.grownBy w' r := ⟨h.os, h.tape, h.output, h.size, fun k hk _ => h.block k hk⟩
theorem below_gb {w w' : World} (h : w.grownBy w' none) : Below w.heap.size w w' := ⟨h.os, h.tape, h.output, h.size, fun k hk => h.block k hk (by simp)⟩

end Go.Proofs.YtcpceompoihboaaDoor
