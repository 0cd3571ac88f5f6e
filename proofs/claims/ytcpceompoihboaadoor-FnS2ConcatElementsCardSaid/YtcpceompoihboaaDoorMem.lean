/- Structs in blocks of their own: alloc, build, store, load, fields; in frames that are not written out. -/
import Derived.Test.YtcpceompoihboaaDoorRowFr
import Derived.Laws.Rows
namespace Go.Proofs.YtcpceompoihboaaDoor
open Go.RowKit

/-- block g holds just these cells -/
def Blk (w : World) (g : Nat) (t : TypeId) (cs : Array Value) : Prop := w.heap[g]? = some (.cells cs t (0, 0))
def isStruct (P : Program) (s : Nat) : Bool := match P.underlying s with | some (.struct _) => true | _ => false
theorem str_of {P : Program} {s : Nat} (h : isStruct P s = true) : ∃ fs, P.underlying s = some (.struct fs) := by
  unfold isStruct at h
  split at h
  · exact ⟨_, by assumption⟩
  · cases h
def fieldOff (P : Program) (s f : Nat) : Option Nat :=
  match P.underlying s with
  | some (.struct fs) => match fs[f]? with
    | some fd => match P.info? fd.type with
      | some i => if i.size = 0 then none else some fd.offset
      | none => none
    | none => none
  | _ => none
section
variable {w w' : World} {g : Nat} {t : TypeId} {cs : Array Value}
theorem Blk.lt (h : Blk w g t cs) : g < w.heap.size := blk_lt h
theorem Blk.cell (h : Blk w g t cs) {i : Nat} {v : Value} (hv : cs[i]? = some v) : w.cell? ⟨g, i, none⟩ = some v := (blk_cell h i).trans hv
theorem Blk.frozen (h : Blk w g t cs) (i : Nat) : w.frozen? ⟨g, i, none⟩ = false := blk_frozen h i
theorem Blk.below {B : Nat} (h : Blk w g t cs) (hb : Below B w w') (hg : g < B) : Blk w' g t cs := blk_below h hb hg
theorem Blk.grown {r : Option Nat} (h : Blk w g t cs) (hb : w.grownBy w' r) (hne : some g ≠ r) : Blk w' g t cs := blk_grown h hb hne
theorem Blk.alloc (h : Blk w g t cs) (o : Obj) : Blk (w.alloc o) g t cs := blk_alloc h o
theorem Blk.other {a : Addr} (h : Blk w g t cs) (hne : g ≠ a.block) (v : Value) : Blk (w.setCell a v) g t cs := blk_other h hne v
theorem Blk.set (h : Blk w g t cs) (i : Nat) (v : Value) : Blk (w.setCell ⟨g, i, none⟩ v) g t (cs.setIfInBounds i v) := blk_set h i v
theorem Blk.new (w : World) (cs : Array Value) (t : TypeId) : Blk (w.alloc (.cells cs t (0, 0))) w.heap.size t cs := heap_alloc_new w _
theorem Blk.setRow (h : Blk w g t cs) (ds : Array Value) : Blk (w.setRow g ds) g t ds := setRow_heap w g cs ds t (0, 0) h
theorem below_setRow {B : Nat} (w : World) (g : Nat) (ds : Array Value) (hg : B ≤ g) : Below B w (w.setRow g ds) :=
  ⟨rfl, rfl, rfl, by simp [World.setRow], fun k hk => setRow_other w g k _ (by omega)⟩
end

section
variable {P : Program} {w : World} {ρ : Operand → Value} {k : Option Nat} {T T1 T2 : Nat} {pos : String} {aft : Array Edge} {x y : Operand} {gd : Option (Nat × Bool)}
theorem e_alloc {z : Value} (hz : (P.info? T1).bind (·.zero) = some z) : (execOp ρ ⟨k, .alloc T1, T, pos, aft, gd⟩).run P w = .ok (.value (.pointer (some ⟨w.heap.size, 0, none⟩))) (w.alloc (.cells z.cells T1 (0, 0))) := by
  obtain ⟨i, hi, hz⟩ := Option.bind_eq_some_iff.1 hz
  have h1 : (zeroValue T1).run P w = .ok z w := by simp [zeroValue, typeInfo, hi, hz]
  simp [execOp, Instr.alloc, h1, newVar, newRow, newObj]
  rfl
theorem e_alloca {z : Array Value} (hz : (P.info? T1).bind (·.zero) = some (.agg z)) : (execOp ρ ⟨k, .alloc T1, T, pos, aft, gd⟩).run P w = .ok (.value (.pointer (some ⟨w.heap.size, 0, none⟩))) (w.alloc (.cells z T1 (0, 0))) := e_alloc hz
theorem e_box {v : Value} (hx : ρ x = v) : (execOp ρ ⟨k, .box T1 x, T, pos, aft, gd⟩).run P w = .ok (.value (.pointer (some ⟨w.heap.size, 0, none⟩))) (w.alloc (.cells v.cells T1 (0, 0))) := by
  subst hx
  simp [execOp, Instr.box, newVar, newRow, newObj]
  rfl
theorem e_build {parts : Array (Nat × Operand)} {vs : List (Nat × Value)} {cells : Array Value} (hp : (parts.map fun (i, x) => (i, ρ x)).toList = vs) (h : P.built T1 vs = some cells) : (execOp ρ ⟨k, .build T1 parts, T, pos, aft, gd⟩).run P w = .ok (.value (.agg cells)) w := by
  subst hp
  have := run_build (P := P) w T1 _ cells h
  simp only [execOp, Sem.run_bind, this]
  rfl
theorem e_extract {vs : Array Value} {i : Nat} {v : Value} (hx : ρ x = .tuple vs) (hv : vs[i]? = some v) : (execOp ρ ⟨k, .extract x i, T, pos, aft, gd⟩).run P w = .ok (.value v) w := by
  simp [execOp, Instr.extract, hx, hv]
theorem e_nil {a : Addr} (hx : ρ x = .pointer (some a)) : (execOp ρ ⟨k, .nilCheck x, T, pos, aft, gd⟩).run P w = .ok (.value (.pointer (some a))) w := by
  simp [execOp, hx]
theorem e_not {b : Bool} (hx : ρ x = .bool b) : (execOp ρ ⟨k, .unOp .not T1 x, T, pos, aft, gd⟩).run P w = .ok (.value (.bool (!b))) w := by
  simp [go_sem, hx]
theorem e_field {g f off : Nat} (hx : ρ x = .pointer (some ⟨g, 0, none⟩)) (hf : fieldOff P T1 f = some off) : (execOp ρ ⟨k, .fieldAddr T1 x f, T, pos, aft, gd⟩).run P w = .ok (.value (.pointer (some ⟨g, off, none⟩))) w := by
  unfold fieldOff at hf
  split at hf
  · rename_i fs hu
    split at hf
    · rename_i fd hfd
      split at hf
      · rename_i i hi
        split at hf
        · cases hf
        · rename_i hs
          have h3 : (sizeOf fd.type).run P w = .ok i.size w := by simp [sizeOf, typeInfo, hi]
          simp only [Option.some.injEq] at hf
          subst hf
          simp [execOp, Instr.fieldAt, hx, run_underlying hu, hfd, Instr.sureAddr, fieldPlace, h3, hs, Addr.add_lit]
      · cases hf
    · cases hf
  · cases hf
theorem e_loadrow {g : Nat} {t : TypeId} {cs : Array Value} (hx : ρ x = .pointer (some ⟨g, 0, none⟩)) (B : Blk w g t cs) (hu : isStruct P T1 = true) (hs : (P.info? T1).map (·.size) = some cs.size) : (execOp ρ ⟨k, .load T1 x, T, pos, aft, gd⟩).run P w = .ok (.value (.agg cs)) w := by
  obtain ⟨fs, hu⟩ := str_of hu
  have := run_loadVar_row (P := P) w g t T1 cs (0, 0) _ B hu rfl hs
  simp [execOp, hx, Instr.loadAt, Instr.sureAddr, this]
theorem e_storerow {g : Nat} {t : TypeId} {cs ds : Array Value} (hx : ρ x = .pointer (some ⟨g, 0, none⟩)) (hy : ρ y = .agg ds) (B : Blk w g t cs) (hs : (P.info? T1).map (·.size) = some ds.size) (hl : cs.size = ds.size) (h1 : ds.all (·.oneCell') = true) :
    (execOp ρ ⟨none, .store T1 x y, T, pos, aft, gd⟩).run P w = .ok .skip (w.setRow g ds) := by
  have := run_storeVar_row (P := P) w g t T1 cs ds B hs hl h1
  simp [execOp, hx, hy, Instr.storeAt, Instr.sureAddr, this]
theorem e_store1 {g i : Nat} {t : TypeId} {cs : Array Value} {u v : Value} (hx : ρ x = .pointer (some ⟨g, i, none⟩)) (hy : ρ y = v) (hv : v.oneCell' = true) (hs : (P.info? T1).map (·.size) = some 1) (B : Blk w g t cs) (hu : cs[i]? = some u) :
    (execOp ρ ⟨none, .store T1 x y, T, pos, aft, gd⟩).run P w = .ok .skip (w.setCell ⟨g, i, none⟩ v) := by
  obtain ⟨i0, hi0, h2⟩ := Option.map_eq_some_iff.1 hs
  have h3 : (sizeOf T1).run P w = .ok 1 w := by simp [sizeOf, typeInfo, hi0, h2]
  have hc := B.cell hu
  have hf := B.frozen i
  subst hy
  have h4 : (ρ y).cells = #[ρ y] := by
    generalize ρ y = v at hv
    cases v <;> first | rfl | (simp [Value.oneCell'] at hv; done)
  have h5 := run_store P w ⟨g, i, none⟩ (ρ y) .plain hv
  rw [hc, hf] at h5
  simp only [Bool.false_eq_true, if_false] at h5
  have h6 : (⟨g, i, none⟩ : Addr).add 0 = ⟨g, i, none⟩ := by rw [Addr.add_lit, Nat.add_zero]
  simp [execOp, Instr.storeAt, Instr.sureAddr, hx, h3, h4, storeVar, storeCells, h6, h5]
end

section
variable {P : Program} {ops : Array Oper} {Q : Exit → Act → World → Prop} {w : World} {N : Nat} {g : Nat → Value} {d : List Deferred} {rest : List Oper} {k T : Nat} {pos : String} {aft : Array Edge} {op : Op} {v : Value}
/-- an operation that yields a value and makes memory -/
theorem w_new {w' : World} (he : (execOp (vof N g) ⟨some k, op, T, pos, aft, none⟩).run P w = .ok (.value v) w') (h : wpList P ops Q rest ⟨fr N (upd g k v), d⟩ w') :
    wpList P ops Q (⟨some k, op, T, pos, aft, none⟩ :: rest) ⟨fr N g, d⟩ w := by
  refine wpList_plain rfl fun K hK => ?_
  unfold Oper.wp
  rw [eval_fr, he, Oper.upon_value, fr_put]
  exact hK _ _ h
/-- the end of a function whose first result is a struct in a cell -/
theorem f_endc {fn : Func} {R : Ending → World → Prop} {s u : Nat} {ty b : Nat} {t : TypeId} {cs : Array Value} {x : Value} (hr : fn.results = #[.cell s ty, .tmp u]) (hv : vof N g (.tmp s) = .pointer (some ⟨b, 0, none⟩)) (B : Blk w b t cs)
    (hu : isStruct P ty = true) (hs : (P.info? ty).map (·.size) = some cs.size) (hx : vof N g (.tmp u) = x) (h : R (.returned (.tuple #[.agg cs, x])) w) (e : Exit) (he : e = .normal ∨ e = .ret) : bodyPost P fn R e ⟨fr N g, []⟩ w := by
  obtain ⟨fs, hu⟩ := str_of hu
  subst hx
  have h2 : (fr N g)[s]?.getD undef = .pointer (some ⟨b, 0, none⟩) := by rw [← hv, ← congrFun (eval_fr N g []) (.tmp s)]; exact (Array.getD_eq_getD_getElem? ..).symm
  have h4 : (fr N g)[u]?.getD undef = vof N g (.tmp u) := by rw [← congrFun (eval_fr N g []) (.tmp u)]; exact (Array.getD_eq_getD_getElem? ..).symm
  have h5 := run_loadVar_row (P := P) w b t ty cs (0, 0) _ B hu rfl hs
  have h3 : (results fn (fr N g)).run P w = .ok (.tuple #[.agg cs, vof N g (.tmp u)]) w := by
    simp [results, hr, h2, h4, asAddr, h5]
  rcases he with rfl | rfl
  · exact ⟨rfl, _, h3, h⟩
  · exact ⟨rfl, _, h3, h⟩
end
end Go.Proofs.YtcpceompoihboaaDoor
