/- Regions whose reads may come behind a store of the same region: each read is taken first, in whatever world that meets a condition S; in frames that are not written out. -/
import Derived.Test.YtcpceompoihboaaDoorMem
import Derived.OrdersHeld
import Derived.Great.BuildSlice
namespace Go.Proofs.YtcpceompoihboaaDoor
open Go.RowKit
/-- a slice literal -/
theorem e_bslice {P : Program} {w : World} {ρ : Operand → Value} {k : Option Nat} {T T1 len : Nat} {pos : String} {aft : Array Edge} {gd : Option (Nat × Bool)} {parts : Array (Nat × Operand)} {vs : List (Nat × Value)} {cells : Array Value} {e : TypeId} {ie : TypeInfo} {z : Value}
    (hp : (parts.map fun (i, x) => (i, ρ x)).toList = vs) (hu : P.underlying T1 = some (.slice e)) (hie : P.info? e = some ie) (hz : ie.zero = some z) (hsmall : ¬ len * ie.size > 2 ^ 24) (hpos : ¬ len * ie.size = 0)
    (h : Instr.fill (fun i => some (i * ie.size, ie.size)) ((Array.range (len * ie.size)).map (z.cells[· % z.cells.size]!)) vs = some cells) :
    (execOp ρ ⟨k, .buildSlice T1 len parts, T, pos, aft, gd⟩).run P w = .ok (.value (.slice (some ⟨w.heap.size, 0, none⟩) len len)) (w.alloc (.cells cells e (0, 0))) := by
  subst hp
  have := run_buildSlice (P := P) w T1 e len _ cells ie z hu hie hz hsmall hpos h
  simp only [execOp, Sem.run_bind, this]
  rfl
section
variable {P : Program} {ops : Array Oper} {Q : Exit → Act → World → Prop} {md : Region.Mode} {S : World → Prop} {w : World} {N : Nat} {g : Nat → Value} {d : List Deferred} {k T : Nat} {pos : String} {aft : Array Edge} {op : Op} {v : Value} {fuel : Nat} {listed : Array Bool}
theorem pan_then {c : List PanicEntry} {a a' : Act} {K : Act → World → Prop} (h : Q (.panic c) a' w → Q (.panic c) a w) : Exit.then K Q (.panic c) a' w → Exit.then K Q (.panic c) a w := h
theorem pan_in {c : List PanicEntry} {a a' : Act} {n : Nat} (h : Q (.panic c) a' w → Q (.panic c) a w) : Exit.inBlock n Q (.panic c) a' w → Exit.inBlock n Q (.panic c) a w := h
theorem pan_body {fn : Func} {R : Ending → World → Prop} {c : List PanicEntry} {a : Act} {k : Option Nat} : bodyPost P fn R (.panic c) (a.put k v) w → bodyPost P fn R (.panic c) a w := fun h => by
  cases k <;> exact h
theorem c_held {id : Nat} {a : Act} {l : List Oper} (S : World → Prop) (hm : P.follows .mixedOrders = true) (h : wpAnyH P .any l.toArray Q S l.length (Array.replicate l.length false) a (w.drewN 1)) : (Code.region id l.toArray true).wp P Q a w :=
  wp_region_held (S := S) hm h
theorem h_take (i : Nat) (hi : ops[i]? = some ⟨some k, op, T, pos, aft, none⟩) (hs : Region.noSelect ops = true) (hf : Region.free md ops listed i = true) (hr : (Region.ready md ops listed).contains i = true)
    (hQ : ∀ c a w, Q (.panic c) (a.put (some k) v) w → Q (.panic c) a w) (he : ∀ w, S w → (execOp (vof N g) ⟨some k, op, T, pos, aft, none⟩).run P w = .ok (.value v) w) (hS : S w)
    (h : wpAnyH P md ops Q S fuel (listed.setIfInBounds i true) ⟨fr N (upd g k v), d⟩ w) : wpAnyH P md ops Q S (fuel + 1) listed ⟨fr N g, d⟩ w :=
  wpAnyH_take hi hs hf hr hQ (.inl ⟨rfl, fun w hw => by rw [eval_fr]; exact he w hw⟩) hS (by rw [fr_put]; exact h)
theorem h_store (i : Nat) {w' : World} (hi : ops[i]? = some ⟨none, op, T, pos, aft, none⟩) (hr : Region.ready md ops listed = [i]) (he : (execOp (vof N g) ⟨none, op, T, pos, aft, none⟩).run P w = .ok .skip w') (hS : S w')
    (h : wpAnyH P md ops Q S fuel (listed.setIfInBounds i true) ⟨fr N g, d⟩ w') : wpAnyH P md ops Q S (fuel + 1) listed ⟨fr N g, d⟩ w := by
  refine wpAnyH_all hr (by simp) fun j hj => ?_
  obtain rfl : j = i := by simpa using hj
  unfold wpOp
  rw [hi]
  simp only [Region.wanted, if_true]
  refine .inl ?_
  unfold Oper.wp
  rw [eval_fr, he, Oper.upon_skip]
  exact ⟨hS, h⟩
end
end Go.Proofs.YtcpceompoihboaaDoor
