/- What one operation yields, over whatever frame ('ρ': what the operands hold). -/
import Derived.Test.YtcpceompoihboaaDoorFr
namespace Go.Proofs.YtcpceompoihboaaDoor
open Go.RowKit

section
variable {P : Program} {w : World} {ρ : Operand → Value} {k : Option Nat} {T T1 T2 : Nat} {pos : String} {aft : Array Edge} {x y : Operand} {gd : Option (Nat × Bool)}

theorem e_move {v : Value} (hx : ρ x = v) : (execOp ρ ⟨k, .move x, T, pos, aft, gd⟩).run P w = .ok (.value v) w := by subst hx; rfl
theorem e_assign {v : Value} (hx : ρ x = v) : (execOp ρ ⟨k, .assign x, T, pos, aft, gd⟩).run P w = .ok (.value v) w := by subst hx; rfl
theorem e_add {kd : IntKind} {a b c : Int} (hx : ρ x = .int kd a) (hy : ρ y = .int kd b) (hr : kd.wrap (a + b) = c) : (execOp ρ ⟨k, .binOp .add T1 x y T2, T, pos, aft, gd⟩).run P w = .ok (.value (.int kd c)) w := by
  subst hr; simp [go_sem, hx, hy]
theorem e_sub {kd : IntKind} {a b c : Int} (hx : ρ x = .int kd a) (hy : ρ y = .int kd b) (hr : kd.wrap (a - b) = c) : (execOp ρ ⟨k, .binOp .sub T1 x y T2, T, pos, aft, gd⟩).run P w = .ok (.value (.int kd c)) w := by
  subst hr; simp [go_sem, hx, hy]
theorem e_mul {kd : IntKind} {a b c : Int} (hx : ρ x = .int kd a) (hy : ρ y = .int kd b) (hr : kd.wrap (a * b) = c) : (execOp ρ ⟨k, .binOp .mul T1 x y T2, T, pos, aft, gd⟩).run P w = .ok (.value (.int kd c)) w := by
  subst hr; simp [go_sem, hx, hy]
theorem e_lss {kd : IntKind} {a b : Int} (hx : ρ x = .int kd a) (hy : ρ y = .int kd b) : (execOp ρ ⟨k, .binOp .lss T1 x y T2, T, pos, aft, gd⟩).run P w = .ok (.value (.bool (decide (a < b)))) w := by
  simp [go_sem, hx, hy]
theorem e_leq {kd : IntKind} {a b : Int} (hx : ρ x = .int kd a) (hy : ρ y = .int kd b) : (execOp ρ ⟨k, .binOp .leq T1 x y T2, T, pos, aft, gd⟩).run P w = .ok (.value (.bool (decide (a ≤ b)))) w := by
  simp [go_sem, hx, hy]
theorem e_gtr {kd : IntKind} {a b : Int} (hx : ρ x = .int kd a) (hy : ρ y = .int kd b) : (execOp ρ ⟨k, .binOp .gtr T1 x y T2, T, pos, aft, gd⟩).run P w = .ok (.value (.bool (decide (b < a)))) w := by
  simp [go_sem, hx, hy]
theorem e_geq {kd : IntKind} {a b : Int} (hx : ρ x = .int kd a) (hy : ρ y = .int kd b) : (execOp ρ ⟨k, .binOp .geq T1 x y T2, T, pos, aft, gd⟩).run P w = .ok (.value (.bool (decide (b ≤ a)))) w := by
  simp [go_sem, hx, hy]
theorem e_eql {kd : IntKind} {a b : Int} (hx : ρ x = .int kd a) (hy : ρ y = .int kd b) : (execOp ρ ⟨k, .binOp .eql T1 x y T2, T, pos, aft, gd⟩).run P w = .ok (.value (.bool (decide (a = b)))) w := by
  simp [go_sem, hx, hy]; rfl
theorem e_neq {kd : IntKind} {a b : Int} (hx : ρ x = .int kd a) (hy : ρ y = .int kd b) : (execOp ρ ⟨k, .binOp .neq T1 x y T2, T, pos, aft, gd⟩).run P w = .ok (.value (.bool (decide (a ≠ b)))) w := by
  simp [go_sem, hx, hy]; rfl
theorem e_and {kd : IntKind} {a b c : Int} (hx : ρ x = .int kd a) (hy : ρ y = .int kd b) (hr : bits .and kd a b = c) : (execOp ρ ⟨k, .binOp .and T1 x y T2, T, pos, aft, gd⟩).run P w = .ok (.value (.int kd c)) w := by
  subst hr; simp [go_sem, hx, hy]
theorem e_or {kd : IntKind} {a b c : Int} (hx : ρ x = .int kd a) (hy : ρ y = .int kd b) (hr : bits .or kd a b = c) : (execOp ρ ⟨k, .binOp .or T1 x y T2, T, pos, aft, gd⟩).run P w = .ok (.value (.int kd c)) w := by
  subst hr; simp [go_sem, hx, hy]
/-- a shift by so much is a product by so much -/
def Sh (kd : IntKind) (b m : Int) : Prop := ∃ n : Nat, b = n ∧ m = 2 ^ n ∧ n ≤ kd.bits
theorem sh_of {kd : IntKind} (n : Nat) (h : Nat.blt kd.bits n = false) : Sh kd n (2 ^ n) := ⟨n, rfl, rfl, by rw [blt_dec] at h; simpa using h⟩
theorem sh_1 {kd : IntKind} (h : Nat.blt kd.bits 1 = false) : Sh kd 1 2 := sh_of 1 h
theorem sh_2 {kd : IntKind} (h : Nat.blt kd.bits 2 = false) : Sh kd 2 4 := sh_of 2 h
theorem sh_3 {kd : IntKind} (h : Nat.blt kd.bits 3 = false) : Sh kd 3 8 := sh_of 3 h
theorem sh_4 {kd : IntKind} (h : Nat.blt kd.bits 4 = false) : Sh kd 4 16 := sh_of 4 h
theorem sh_5 {kd : IntKind} (h : Nat.blt kd.bits 5 = false) : Sh kd 5 32 := sh_of 5 h
theorem sh_6 {kd : IntKind} (h : Nat.blt kd.bits 6 = false) : Sh kd 6 64 := sh_of 6 h
theorem sh_7 {kd : IntKind} (h : Nat.blt kd.bits 7 = false) : Sh kd 7 128 := sh_of 7 h
theorem sh_8 {kd : IntKind} (h : Nat.blt kd.bits 8 = false) : Sh kd 8 256 := sh_of 8 h
theorem sh_10 {kd : IntKind} (h : Nat.blt kd.bits 10 = false) : Sh kd 10 1024 := sh_of 10 h
theorem sh_12 {kd : IntKind} (h : Nat.blt kd.bits 12 = false) : Sh kd 12 4096 := sh_of 12 h
theorem sh_16 {kd : IntKind} (h : Nat.blt kd.bits 16 = false) : Sh kd 16 65536 := sh_of 16 h
theorem sh_24 {kd : IntKind} (h : Nat.blt kd.bits 24 = false) : Sh kd 24 16777216 := sh_of 24 h
theorem sh_32 {kd : IntKind} (h : Nat.blt kd.bits 32 = false) : Sh kd 32 4294967296 := sh_of 32 h
theorem sh_40 {kd : IntKind} (h : Nat.blt kd.bits 40 = false) : Sh kd 40 1099511627776 := sh_of 40 h
theorem sh_48 {kd : IntKind} (h : Nat.blt kd.bits 48 = false) : Sh kd 48 281474976710656 := sh_of 48 h
theorem sh_56 {kd : IntKind} (h : Nat.blt kd.bits 56 = false) : Sh kd 56 72057594037927936 := sh_of 56 h
theorem e_shl {kd ky : IntKind} {a b c m : Int} (hx : ρ x = .int kd a) (hy : ρ y = .int ky b) (hs : Sh kd b m) (hr : kd.wrap (a * m) = c) : (execOp ρ ⟨k, .binOp .shl T1 x y T2, T, pos, aft, gd⟩).run P w = .ok (.value (.int kd c)) w := by
  obtain ⟨n, rfl, rfl, this⟩ := hs
  subst hr
  have h3 : Op.shift .shl kd a ky n = pure (.int kd (kd.wrap (a * 2 ^ n))) := by
    unfold Op.shift
    rw [if_neg (by omega), Int.toNat_natCast, Nat.min_eq_left this]
  simp only [execOp, eqGuard, binOp, hx, hy, h3]
  rfl
theorem e_shr {kd ky : IntKind} {a b c m : Int} (hx : ρ x = .int kd a) (hy : ρ y = .int ky b) (hs : Sh kd b m) (hr : a / m = c) : (execOp ρ ⟨k, .binOp .shr T1 x y T2, T, pos, aft, gd⟩).run P w = .ok (.value (.int kd c)) w := by
  obtain ⟨n, rfl, rfl, this⟩ := hs
  subst hr
  have h2 : a.fdiv (2 ^ n) = a / 2 ^ n := by rw [Int.fdiv_eq_ediv_of_nonneg _ (Int.le_of_lt (Int.pow_pos (by decide)))]
  have h3 : Op.shift .shr kd a ky n = pure (.int kd (a / 2 ^ n)) := by
    unfold Op.shift
    rw [if_neg (by omega), Int.toNat_natCast, Nat.min_eq_left this, ← h2]
  simp only [execOp, eqGuard, binOp, hx, hy, h3]
  rfl
theorem e_conv {ks kd : IntKind} {a c : Int} (hx : ρ x = .int ks a) (h1 : P.underlying T1 = some (.int ks)) (h2 : P.underlying T2 = some (.int kd)) (hr : kd.wrap a = c) : (execOp ρ ⟨k, .convert T1 T2 x, T, pos, aft, gd⟩).run P w = .ok (.value (.int kd c)) w := by
  subst hr; simp [go_sem, hx, h1, h2]
theorem e_len {p : Option Addr} {n c : Nat} {e : TypeId} (hx : ρ x = .slice p n c) (h1 : P.underlying T1 = some (.slice e)) :
    (execOp ρ ⟨k, .call { callee := .builtin .len, args := #[x], argTypes := #[T1] }, T, pos, aft, gd⟩).run P w = .ok (.value (.int .i64 n)) w := by
  simp [go_sem, hx, h1, goInt]
theorem e_index {b o n c : Nat} {kd : IntKind} {i : Int} {e : TypeId} (hx : ρ x = .slice (some ⟨b, o, none⟩) n c) (hy : ρ y = .int kd i) (hu : P.underlying T1 = some (.slice e)) (hs : (P.info? e).map (·.size) = some 1)
    (h0 : 0 ≤ i) (h1 : i < n) : (execOp ρ ⟨k, .indexAddr T1 x y, T, pos, aft, gd⟩).run P w = .ok (.value (.pointer (some ⟨b, o + i.toNat, none⟩))) w := by
  obtain ⟨i0, hi0, h2⟩ := Option.map_eq_some_iff.1 hs
  have h3 : (sizeOf e).run P w = .ok 1 w := by simp [sizeOf, typeInfo, hi0, h2]
  simp [go_sem, hx, hy, hu, h0, h1, h3, Addr.add_lit]
/-- a type that is neither a struct nor an array -/
def Scalar (P : Program) (t : TypeId) : Prop := ∀ w : World, (isAgg t).run P w = .ok false w
theorem e_load {a : Addr} {v : Value} (hx : ρ x = .pointer (some a)) (hT : Scalar P T1) (hc : w.cell? a = some v) : (execOp ρ ⟨k, .load T1 x, T, pos, aft, gd⟩).run P w = .ok (.value v) w := by
  simp [go_sem, hx, hc, hT w]
/-- a load of a struct without fields -/
theorem e_load0 {a : Addr} (hx : ρ x = .pointer (some a)) (hT : P.underlying T1 = some (.struct #[])) (hs : (P.info? T1).map (·.size) = some 0) : (execOp ρ ⟨k, .load T1 x, T, pos, aft, gd⟩).run P w = .ok (.value (.agg #[])) w := by
  obtain ⟨i0, hi0, h2⟩ := Option.map_eq_some_iff.1 hs
  have h3 : (sizeOf T1).run P w = .ok 0 w := by simp [sizeOf, typeInfo, hi0, h2]
  have h4 : (isAgg T1).run P w = .ok true w := by simp [isAgg, run_underlying hT]
  simp [go_sem, hx, h3, h4, loadCellsFrom]
theorem e_pick {v : Value} {c a b : Operand} {t : Bool} (hc : ρ c = .bool t) (h1 : t = true) (hv : ρ a = v) : (execOp ρ ⟨k, .pick c a b, T, pos, aft, gd⟩).run P w = .ok (.value v) w := by
  subst hv h1; simp [go_sem, hc]
theorem e_pick2 {v : Value} {c a b : Operand} {t : Bool} (hc : ρ c = .bool t) (h1 : t = false) (hv : ρ b = v) : (execOp ρ ⟨k, .pick c a b, T, pos, aft, gd⟩).run P w = .ok (.value v) w := by
  subst hv h1; simp [go_sem, hc]
theorem e_store {a : Addr} {kd : IntKind} {n : Int} {u : Value} (hx : ρ x = .pointer (some a)) (hy : ρ y = .int kd n) (hs : (P.info? T1).map (·.size) = some 1) (hc : w.cell? a = some u) (hf : w.frozen? a = false) :
    (execOp ρ ⟨none, .store T1 x y, T, pos, aft, gd⟩).run P w = .ok .skip (w.setCell a (.int kd n)) := by
  obtain ⟨i0, hi0, h2⟩ := Option.map_eq_some_iff.1 hs
  have h3 : (sizeOf T1).run P w = .ok 1 w := by simp [sizeOf, typeInfo, hi0, h2]
  simp [go_sem, hx, hy, hc, hf, h3]

/-- where a part of a slice begins -/
def subP (p : Option Addr) (l c : Nat) : Option Addr := if c = l then p else p.map (·.add l)
theorem subP_lt {b o l c : Nat} (h : l < c) : subP (some ⟨b, o, none⟩) l c = some ⟨b, o + l, none⟩ := by
  unfold subP; rw [if_neg (by omega)]; simp [Addr.add_lit]
theorem e_slice_l {p : Option Addr} {n c : Nat} {kd : IntKind} {l : Int} {e : TypeId} (hx : ρ x = .slice p n c) (hl : ρ y = .int kd l) (hu : P.underlying T1 = some (.slice e)) (hs : (P.info? e).map (·.size) = some 1)
    (h0 : 0 ≤ l) (h1 : l ≤ n) : (execOp ρ ⟨k, .slice T1 x (some y) none none, T, pos, aft, gd⟩).run P w = .ok (.value (.slice (subP p l.toNat c) (n - l.toNat) (c - l.toNat))) w := by
  obtain ⟨i0, hi0, h2'⟩ := Option.map_eq_some_iff.1 hs
  have h3 : (sizeOf e).run P w = .ok 1 w := by simp [sizeOf, typeInfo, hi0, h2']
  simp [execOp, Instr.sliceAt, Instr.slice, run_underlying hu, hx, hl, Instr.sliceBounds, Instr.sliceBound, asIntOf, h0, h1, h3, subP]
theorem e_slice_lh {p : Option Addr} {n c : Nat} {kd kh : IntKind} {l h : Int} {z : Operand} {e : TypeId} (hx : ρ x = .slice p n c) (hl : ρ y = .int kd l) (hh : ρ z = .int kh h) (hu : P.underlying T1 = some (.slice e)) (hs : (P.info? e).map (·.size) = some 1)
    (h0 : 0 ≤ l) (h1 : l ≤ h) (h2 : h ≤ c) : (execOp ρ ⟨k, .slice T1 x (some y) (some z) none, T, pos, aft, gd⟩).run P w = .ok (.value (.slice (subP p l.toNat c) (h.toNat - l.toNat) (c - l.toNat))) w := by
  obtain ⟨i0, hi0, h2'⟩ := Option.map_eq_some_iff.1 hs
  have h3 : (sizeOf e).run P w = .ok 1 w := by simp [sizeOf, typeInfo, hi0, h2']
  have h4 : 0 ≤ h := by omega
  simp [execOp, Instr.sliceAt, Instr.slice, run_underlying hu, hx, hl, hh, Instr.sliceBounds, Instr.sliceBound, asIntOf, h0, h2, h3, h4, subP]
  intro h6; omega
theorem e_slice_h {p : Option Addr} {n c : Nat} {kh : IntKind} {h : Int} {z : Operand} {e : TypeId} (hx : ρ x = .slice p n c) (hh : ρ z = .int kh h) (hu : P.underlying T1 = some (.slice e)) (hs : (P.info? e).map (·.size) = some 1)
    (h0 : 0 ≤ h) (h2 : h ≤ c) : (execOp ρ ⟨k, .slice T1 x none (some z) none, T, pos, aft, gd⟩).run P w = .ok (.value (.slice (subP p 0 c) h.toNat c)) w := by
  obtain ⟨i0, hi0, h2'⟩ := Option.map_eq_some_iff.1 hs
  have h3 : (sizeOf e).run P w = .ok 1 w := by simp [sizeOf, typeInfo, hi0, h2']
  simp [execOp, Instr.sliceAt, Instr.slice, run_underlying hu, hx, hh, Instr.sliceBounds, Instr.sliceBound, asIntOf, h0, h2, h3, subP]

theorem e_slice_lhs {b o n c : Nat} {kd kh : IntKind} {l h : Int} {z : Operand} {e : TypeId} (hx : ρ x = .slice (some ⟨b, o, none⟩) n c) (hl : ρ y = .int kd l) (hh : ρ z = .int kh h) (hu : P.underlying T1 = some (.slice e)) (hs : (P.info? e).map (·.size) = some 1)
    (h0 : 0 ≤ l) (h1 : l ≤ h) (h2 : h ≤ c) (h3 : l < c) : (execOp ρ ⟨k, .slice T1 x (some y) (some z) none, T, pos, aft, gd⟩).run P w = .ok (.value (.slice (some ⟨b, o + l.toNat, none⟩) (h.toNat - l.toNat) (c - l.toNat))) w := by
  rw [e_slice_lh hx hl hh hu hs h0 h1 h2, subP_lt (by omega)]
theorem e_slice_ls {b o n c : Nat} {kd : IntKind} {l : Int} {e : TypeId} (hx : ρ x = .slice (some ⟨b, o, none⟩) n c) (hl : ρ y = .int kd l) (hu : P.underlying T1 = some (.slice e)) (hs : (P.info? e).map (·.size) = some 1)
    (h0 : 0 ≤ l) (h1 : l ≤ n) (h3 : l < c) : (execOp ρ ⟨k, .slice T1 x (some y) none none, T, pos, aft, gd⟩).run P w = .ok (.value (.slice (some ⟨b, o + l.toNat, none⟩) (n - l.toNat) (c - l.toNat))) w := by
  rw [e_slice_l hx hl hu hs h0 h1, subP_lt (by omega)]
theorem e_slice_hs {b o n c : Nat} {kh : IntKind} {h : Int} {z : Operand} {e : TypeId} (hx : ρ x = .slice (some ⟨b, o, none⟩) n c) (hh : ρ z = .int kh h) (hu : P.underlying T1 = some (.slice e)) (hs : (P.info? e).map (·.size) = some 1)
    (h0 : 0 ≤ h) (h2 : h ≤ c) : (execOp ρ ⟨k, .slice T1 x none (some z) none, T, pos, aft, gd⟩).run P w = .ok (.value (.slice (some ⟨b, o, none⟩) h.toNat c)) w := by
  rw [e_slice_h hx hh hu hs h0 h2]
  unfold subP
  split <;> simp [Addr.add_lit]
/-- a function that has a body -/
def Enters (P : Program) (f : FuncId) : Prop := ∀ (args : Array Value) (w : World), (callFunc f args).run P w = .ok (.enter f args) w
theorem enters_of {f : FuncId} {fn : Func} (hf : P.funcs[f]? = some fn) (hn : (fn.name == "runtime.NumGoroutine") = false) (hb : fn.body.isNone = false) : Enters P f := fun args w => by
  have hn' : ¬ fn.name = "runtime.NumGoroutine" := fun h => by rw [h] at hn; cases hn
  have hb' : ¬ fn.body = none := fun h => by rw [h] at hb; cases hb
  simp [callFunc, hf, hb', hn']
theorem e_call {f : FuncId} {xs : Array Operand} {ats : Array TypeId} {args : Array Value} (hr : ρ (.func f) = .func (.func f) #[] #[]) (hf : Enters P f) (ha : xs.map ρ = args) :
    (execOp ρ ⟨k, .call { callee := .value (.func f), args := xs, argTypes := ats }, T, pos, aft, gd⟩).run P w = .ok (.enter f args) w := by
  subst ha
  have h := hf (#[] ++ xs.map ρ ++ #[]) w
  simp only [Array.empty_append, Array.append_empty] at h
  have e : execOp ρ ⟨k, .call { callee := .value (.func f), args := xs, argTypes := ats }, T, pos, aft, gd⟩ = callFunc f (#[] ++ xs.map ρ ++ #[]) := by
    simp only [execOp, resolve, hr]
    rfl
  rw [e, Array.empty_append, Array.append_empty]
  exact h
theorem args1 {x1 : Operand} {v1 : Value} (h1 : ρ x1 = v1) : #[x1].map ρ = #[v1] := by simp [h1]
theorem args2 {x1 x2 : Operand} {v1 v2 : Value} (h1 : ρ x1 = v1) (h2 : ρ x2 = v2) : #[x1, x2].map ρ = #[v1, v2] := by simp [h1, h2]
theorem args3 {x1 x2 x3 : Operand} {v1 v2 v3 : Value} (h1 : ρ x1 = v1) (h2 : ρ x2 = v2) (h3 : ρ x3 = v3) : #[x1, x2, x3].map ρ = #[v1, v2, v3] := by simp [h1, h2, h3]
theorem args4 {x1 x2 x3 x4 : Operand} {v1 v2 v3 v4 : Value} (h1 : ρ x1 = v1) (h2 : ρ x2 = v2) (h3 : ρ x3 = v3) (h4 : ρ x4 = v4) : #[x1, x2, x3, x4].map ρ = #[v1, v2, v3, v4] := by simp [h1, h2, h3, h4]
end

section
variable {P : Program} {ops : Array Oper} {w : World} {N : Nat} {g : Nat → Value} {d : List Deferred} {rest : List Oper} {k T T1 : Nat} {pos : String} {aft : Array Edge} {x y : Operand}
theorem w_byte {Q : Exit → Act → World → Prop} {a : Addr} {t : Int} (hx : vof N g x = .pointer (some a)) (hT : Scalar P T1) (hc : w.cell? a = some (.int .u8 t) ∧ 0 ≤ t ∧ t < 256)
    (h : 0 ≤ t → t < 256 → wpList P ops Q rest ⟨fr N (upd g k (.int .u8 t)), d⟩ w) : wpList P ops Q (⟨some k, .load T1 x, T, pos, aft, none⟩ :: rest) ⟨fr N g, d⟩ w :=
  w_list (e_load hx hT hc.1) (h hc.2.1 hc.2.2)
theorem q_byte {Q : Act → Prop} {a : Addr} {t : Int} (hx : vof N g x = .pointer (some a)) (hT : Scalar P T1) (hc : w.cell? a = some (.int .u8 t) ∧ 0 ≤ t ∧ t < 256)
    (h : 0 ≤ t → t < 256 → wpStill P ops w Q rest ⟨fr N (upd g k (.int .u8 t)), d⟩) : wpStill P ops w Q (⟨some k, .load T1 x, T, pos, aft, none⟩ :: rest) ⟨fr N g, d⟩ :=
  q_list (e_load hx hT hc.1) (h hc.2.1 hc.2.2)
/-- the bytes xs, read from block b on -/
def Reads (w : World) (b o n : Nat) (xs : List Int) : Prop := ∀ i : Int, 0 ≤ i → i < n → w.cell? ⟨b, o + i.toNat, none⟩ = some (.int .u8 (xs.getD i.toNat 0)) ∧ 0 ≤ xs.getD i.toNat 0 ∧ xs.getD i.toNat 0 < 256

/-- the end of a function that has one result, or two, in slots -/
theorem f_end1 {fn : Func} {R : Ending → World → Prop} {s : Nat} {v : Value} (hr : fn.results = #[.tmp s]) (hv : vof N g (.tmp s) = v) (h : R (.returned v) w) (e : Exit) (he : e = .normal ∨ e = .ret) : bodyPost P fn R e ⟨fr N g, []⟩ w := by
  subst hv
  have h2 : (fr N g)[s]?.getD undef = vof N g (.tmp s) := by rw [← congrFun (eval_fr N g []) (.tmp s)]; exact (Array.getD_eq_getD_getElem? ..).symm
  have h3 : (results fn (fr N g)).run P w = .ok (vof N g (.tmp s)) w := by
    simp [results, hr, h2]
  rcases he with rfl | rfl
  · exact ⟨rfl, _, h3, h⟩
  · exact ⟨rfl, _, h3, h⟩
theorem f_end2 {fn : Func} {R : Ending → World → Prop} {s t : Nat} {v u : Value} (hr : fn.results = #[.tmp s, .tmp t]) (hv : vof N g (.tmp s) = v) (hu : vof N g (.tmp t) = u) (h : R (.returned (.tuple #[v, u])) w) (e : Exit) (he : e = .normal ∨ e = .ret) : bodyPost P fn R e ⟨fr N g, []⟩ w := by
  subst hv hu
  have h2 : (fr N g)[s]?.getD undef = vof N g (.tmp s) := by rw [← congrFun (eval_fr N g []) (.tmp s)]; exact (Array.getD_eq_getD_getElem? ..).symm
  have h4 : (fr N g)[t]?.getD undef = vof N g (.tmp t) := by rw [← congrFun (eval_fr N g []) (.tmp t)]; exact (Array.getD_eq_getD_getElem? ..).symm
  have h3 : (results fn (fr N g)).run P w = .ok (.tuple #[vof N g (.tmp s), vof N g (.tmp t)]) w := by
    simp [results, hr, h2, h4]
  rcases he with rfl | rfl
  · exact ⟨rfl, _, h3, h⟩
  · exact ⟨rfl, _, h3, h⟩
theorem Reads.below {w w' : World} {b o n : Nat} {xs : List Int} (h : Reads w b o n xs) (hb : Below w.heap.size w w') : Reads w' b o n xs := fun i h0 h1 => by
  have h2 := h i h0 h1
  exact ⟨by rw [hb.cell (p := ⟨b, o + i.toNat, none⟩) (World.block_lt_of_cell? w _ h2.1)]; exact h2.1, h2.2⟩
theorem Reads.grown {w w' : World} {b o n : Nat} {xs : List Int} {r : Option Nat} (h : Reads w b o n xs) (hb : w.grownBy w' r) (hne : some b ≠ r) : Reads w' b o n xs := fun i h0 h1 => by
  have h2 := h i h0 h1
  have h3 := World.block_lt_of_cell? w _ h2.1
  refine ⟨?_, h2.2⟩
  rw [← h2.1]
  have h4 := hb.block b h3 hne
  simp [World.cell?, h4]
theorem Reads.sub {w : World} {b o n : Nat} {xs : List Int} (h : Reads w b o n xs) (k : Nat) : Reads w b (o + k) (n - k) (xs.drop k) := fun i h0 h1 => by
  have h2 := h ((k : Int) + i) (by omega) (by omega)
  have e : ((k : Int) + i).toNat = k + i.toNat := by omega
  have e2 : (xs.drop k).getD i.toNat 0 = xs.getD (k + i.toNat) 0 := by simp [List.getD]
  rw [e] at h2
  rw [e2, Nat.add_assoc]
  exact h2
theorem Reads.drewN {w : World} {b o n : Nat} {xs : List Int} (h : Reads w b o n xs) (k : Nat) : Reads (w.drewN k) b o n xs := h
theorem SlAt.reads {w : World} {p : Option Addr} {n c : Nat} {xs : List Int} (h : SlAt w p n c xs) (hn : 0 < n) : ∃ b o, p = some ⟨b, o, none⟩ ∧ b < w.heap.size ∧ Reads w b o n xs := by
  obtain ⟨b, o, hp, hb, hc⟩ := h.at hn
  exact ⟨b, o, hp, hb, fun i h0 h1 => ⟨hc _ (by omega), (h.byt.getD _).1, (h.byt.getD _).2⟩⟩
end
end Go.Proofs.YtcpceompoihboaaDoor
