/- Frames that are not written out: 'fr N g': N slots, slot j holds g j. With them a great function is walked part by part: a part of its code ('subCode'), a frame of which only the slots that matter are known, one law an operation. -/
import Derived.Test.YtcpceompoihboaaDoorBits
import Derived.Deep.LoopGhost
import Derived.StillTail
import Derived.Deep.Quiet
namespace Go.Proofs.YtcpceompoihboaaDoor
open Go.RowKit

/-- a part of a code, by its path -/
def subCode : Code → List Nat → Code
  | c, [] => c
  | .seq a b, i :: r => subCode (if i = 0 then a else b) r
  | .cond _ a b, i :: r => subCode (if i = 0 then a else b) r
  | .block _ a, _ :: r => subCode a r
  | .loop a, _ :: r => subCode a r
  | c, _ => c

def upd (g : Nat → Value) (i : Nat) (v : Value) : Nat → Value := fun j => bif Nat.beq j i then v else g j
def fr (N : Nat) (g : Nat → Value) : Array Value := Array.ofFn (n := N) fun i => g i
theorem fr_size (N : Nat) (g : Nat → Value) : (fr N g).size = N := by simp [fr]
theorem blt_dec (j n : Nat) : Nat.blt j n = decide (j < n) := by
  rw [Bool.eq_iff_iff, decide_eq_true_iff, Nat.blt_eq]
theorem fr_get? (N : Nat) (g : Nat → Value) (j : Nat) : (fr N g)[j]? = bif Nat.blt j N then some (g j) else none := by
  unfold fr
  rw [blt_dec]
  by_cases h : j < N <;> simp [h]
/-- what an operand holds -/
def vof (N : Nat) (g : Nat → Value) : Operand → Value
  | .tmp t => bif Nat.ble N t then undef else g t
  | .const v => v
  | .global g => .pointer (some ⟨g, 0, none⟩)
  | .func f => .func (.func f) #[] #[]
theorem fr_getD (N : Nat) (g : Nat → Value) (j : Nat) : (fr N g).getD j undef = bif Nat.blt j N then g j else undef := by
  rw [Array.getD_eq_getD_getElem?, fr_get?]
  cases Nat.blt j N <;> rfl
theorem ble_dec (j n : Nat) : Nat.ble j n = decide (j ≤ n) := by
  rw [Bool.eq_iff_iff, decide_eq_true_iff, Nat.ble_eq]
theorem eval_fr (N : Nat) (g : Nat → Value) (d : List Deferred) : Act.eval ⟨fr N g, d⟩ = vof N g := by
  funext x
  cases x
  · rename_i t
    show (fr N g).getD t undef = bif Nat.ble N t then undef else g t
    rw [fr_getD, blt_dec, ble_dec]
    rcases Nat.lt_or_ge t N with h | h
    · rw [decide_eq_true h, decide_eq_false (Nat.not_le.2 h)]; rfl
    · rw [decide_eq_true h, decide_eq_false (Nat.not_lt.2 h)]; rfl
  all_goals rfl
theorem fr_set (N : Nat) (g : Nat → Value) (i : Nat) (v : Value) : (fr N g).setIfInBounds i v = fr N (upd g i v) := by
  apply Array.ext_getElem?
  intro j
  rw [Array.getElem?_setIfInBounds, fr_get?, fr_get?, fr_size]
  by_cases h : i = j
  · subst h
    rw [blt_dec]
    by_cases h : i < N <;> simp [h, upd]
  · rw [if_neg h]
    have : Nat.beq j i = false := by
      cases hb : Nat.beq j i
      · rfl
      · exact absurd (Nat.eq_of_beq_eq_true hb).symm h
    simp only [upd, this, cond_false]
theorem fr_put {N : Nat} {g : Nat → Value} {d : List Deferred} (i : Nat) (v : Value) : (⟨fr N g, d⟩ : Act).put (some i) v = ⟨fr N (upd g i v), d⟩ := by
  show (⟨(fr N g).setIfInBounds i v, d⟩ : Act) = _
  rw [fr_set]

section
variable {P : Program} {ops : Array Oper} {Q : Exit → Act → World → Prop} {w : World} {N : Nat} {g : Nat → Value} {d : List Deferred} {rest : List Oper}
variable {k T : Nat} {pos : String} {aft : Array Edge} {op : Op} {v : Value}

/-! the codes -/
theorem c_seq {x y : Code} {a : Act} (h : x.wp P (Exit.then (y.wp P Q) Q) a w) : (Code.seq x y).wp P Q a w := wp_seq h
theorem c_normal {a : Act} {K : Act → World → Prop} (h : K a w) : Exit.then K Q .normal a w := h
theorem c_ret {a : Act} {K : Act → World → Prop} (h : Q .ret a w) : Exit.then K Q .ret a w := h
theorem c_exit {a : Act} {K : Act → World → Prop} {n : Nat} (h : Q (.exit n) a w) : Exit.then K Q (.exit n) a w := h
theorem c_in_normal {a : Act} {n : Nat} (h : Q .normal a w) : Exit.inBlock n Q .normal a w := h
theorem c_in_ret {a : Act} {n : Nat} (h : Q .ret a w) : Exit.inBlock n Q .ret a w := h
theorem c_in_exit {a : Act} {n : Nat} (h : Q .normal a w) : Exit.inBlock n Q (.exit n) a w := by unfold Exit.inBlock; simpa using h
theorem c_in_other {a : Act} {m n : Nat} (hm : Nat.beq m n = false) (h : Q (.exit m) a w) : Exit.inBlock n Q (.exit m) a w := by
  have : m ≠ n := fun e => by subst e; simp at hm
  unfold Exit.inBlock
  simpa [this] using h
theorem c_cond {c : Operand} {x y : Code} {p : Prop} [Decidable p] (hc : vof N g c = .bool (decide p))
    (h1 : p → x.wp P Q ⟨fr N g, d⟩ w) (h2 : ¬ p → y.wp P Q ⟨fr N g, d⟩ w) : (Code.cond c x y).wp P Q ⟨fr N g, d⟩ w :=
  wp_cond_split (t := decide p) (by rw [eval_fr]; exact hc) (fun h => h1 (of_decide_eq_true h)) (fun h => h2 (of_decide_eq_false h))
theorem c_true {c : Operand} {x y : Code} {p : Prop} [Decidable p] (hc : vof N g c = .bool (decide p)) (h : p) (h1 : x.wp P Q ⟨fr N g, d⟩ w) : (Code.cond c x y).wp P Q ⟨fr N g, d⟩ w :=
  c_cond hc (fun _ => h1) (fun h' => absurd h h')
theorem c_false {c : Operand} {x y : Code} {p : Prop} [Decidable p] (hc : vof N g c = .bool (decide p)) (h : ¬ p) (h1 : y.wp P Q ⟨fr N g, d⟩ w) : (Code.cond c x y).wp P Q ⟨fr N g, d⟩ w :=
  c_cond hc (fun h' => absurd h' h) (fun _ => h1)
theorem c_yes {c : Operand} {x y : Code} (hc : vof N g c = .bool true) (h1 : x.wp P Q ⟨fr N g, d⟩ w) : (Code.cond c x y).wp P Q ⟨fr N g, d⟩ w := wp_cond_true (by rw [eval_fr]; exact hc) h1
theorem c_no {c : Operand} {x y : Code} (hc : vof N g c = .bool false) (h1 : y.wp P Q ⟨fr N g, d⟩ w) : (Code.cond c x y).wp P Q ⟨fr N g, d⟩ w := wp_cond_false (by rw [eval_fr]; exact hc) h1
theorem c_bool {c : Operand} {x y : Code} {t : Bool} (hc : vof N g c = .bool t) (h1 : t = true → x.wp P Q ⟨fr N g, d⟩ w) (h2 : t = false → y.wp P Q ⟨fr N g, d⟩ w) : (Code.cond c x y).wp P Q ⟨fr N g, d⟩ w := wp_cond_split (by rw [eval_fr]; exact hc) h1 h2
/-- go on from what is known behind the first part -/
theorem c_cut {x y : Code} (G : (Nat → Value) → World → Prop) (h1 : x.wp P (Exit.then (fun a' w' => ∃ g', a' = ⟨fr N g', d⟩ ∧ G g' w') Q) ⟨fr N g, d⟩ w) (h2 : ∀ g' w', G g' w' → y.wp P Q ⟨fr N g', d⟩ w') : (Code.seq x y).wp P Q ⟨fr N g, d⟩ w :=
  wp_seq (wp_mono h1 fun e a' w' h => by
    cases e with
    | normal => obtain ⟨g', rfl, hG⟩ := h; exact h2 g' w' hG
    | _ => exact h)
theorem c_list {id : Nat} {l : List Oper} {a : Act} (h : wpList P l.toArray Q l a w) : (Code.region id l.toArray false).wp P Q a w := wp_region_lit h
theorem c_still {id : Nat} {a : Act} {l : List Oper} (hm : P.follows .mixedOrders = true) (hB : Region.lexB .any l.toArray = true)
    (h : wpStill P l.toArray (w.drewN 1) (fun a' => Q .normal a' (w.drewN 1)) l a) : (Code.region id l.toArray true).wp P Q a w := wp_region_still_lit hm hB h
theorem c_tail {id : Nat} {a : Act} {l : List Oper} (n : Nat) (hm : P.follows .mixedOrders = true) (hB : Region.lexTailB .any l.toArray n = true)
    (h : wpStill P l.toArray (w.drewN 1) (fun a' => wpList P l.toArray Q (l.drop n) a' (w.drewN 1)) (l.take n) a) : (Code.region id l.toArray true).wp P Q a w := wp_region_still_tail n hm hB h

/-- a loop: a relation that bears a number -/
theorem c_loop {c : Code} (I : Nat → (Nat → Value) → World → Prop) (m : Nat) (h0 : I m g w)
    (hr : ∀ m g w, I m g w → c.wp P (Exit.then (fun a' w' => ∃ m', m' < m ∧ ∃ g', a' = ⟨fr N g', d⟩ ∧ I m' g' w') Q) ⟨fr N g, d⟩ w) : (Code.loop c).wp P Q ⟨fr N g, d⟩ w := by
  refine wp_loop_ghost (fun m a w => ∃ g', a = ⟨fr N g', d⟩ ∧ I m g' w) m ⟨g, rfl, h0⟩ ?_
  rintro n a w' ⟨g', rfl, hI⟩
  exact hr n g' w' hI

/-- an operation that yields a value and leaves the world -/
theorem w_list (he : (execOp (vof N g) ⟨some k, op, T, pos, aft, none⟩).run P w = .ok (.value v) w) (h : wpList P ops Q rest ⟨fr N (upd g k v), d⟩ w) :
    wpList P ops Q (⟨some k, op, T, pos, aft, none⟩ :: rest) ⟨fr N g, d⟩ w := by
  refine wpList_plain rfl fun K hK => ?_
  unfold Oper.wp
  rw [eval_fr, he, Oper.upon_value, fr_put]
  exact hK _ _ h
/-- a store, and its like -/
theorem w_store {w' : World} (he : (execOp (vof N g) ⟨none, op, T, pos, aft, none⟩).run P w = .ok .skip w') (h : wpList P ops Q rest ⟨fr N g, d⟩ w') :
    wpList P ops Q (⟨none, op, T, pos, aft, none⟩ :: rest) ⟨fr N g, d⟩ w := by
  refine wpList_plain rfl fun K hK => ?_
  unfold Oper.wp
  rw [eval_fr, he, Oper.upon_skip]
  exact hK _ _ h
/-- a call of a function -/
theorem w_call {f : FuncId} {args : Array Value} (he : (execOp (vof N g) ⟨some k, op, T, pos, aft, none⟩).run P w = .ok (.enter f args) w)
    (hc : Calls P f args w fun e w' => ∃ v, e = .returned v ∧ wpList P ops Q rest ⟨fr N (upd g k v), d⟩ w') :
    wpList P ops Q (⟨some k, op, T, pos, aft, none⟩ :: rest) ⟨fr N g, d⟩ w := by
  refine wpList_plain rfl fun K hK => ?_
  unfold Oper.wp
  rw [eval_fr, he, Oper.upon_enter]
  refine hc.mono fun e w' h => ?_
  obtain ⟨v, rfl, h⟩ := h
  simp only [fr_put]
  exact hK _ _ h
theorem yielded_fr {i j : Nat} {t : Bool} (hj : (ops[i]?).bind (·.dst) = some j) (hv : vof N g (.tmp j) = .bool t) : yielded ops (fr N g) i = some t := by
  have h2 : (fr N g)[j]? = some (.bool t) := by
    rw [fr_get?, blt_dec]
    have h3 : (bif Nat.ble N j then undef else g j) = .bool t := hv
    rw [ble_dec] at h3
    rcases Nat.lt_or_ge j N with h | h
    · rw [decide_eq_false (Nat.not_le.2 h)] at h3
      rw [decide_eq_true h]
      exact congrArg some h3
    · rw [decide_eq_true h] at h3; cases h3
  unfold yielded
  rw [hj]
  show (match (fr N g)[j]? with | some (.bool b) => some b | _ => none) = some t
  rw [h2]
theorem execOp_guard (ρ : Operand → Value) (k' : Option Nat) (gd : Option (Nat × Bool)) : execOp ρ ⟨k', op, T, pos, aft, gd⟩ = execOp ρ ⟨k', op, T, pos, aft, none⟩ := by cases op <;> rfl
/-- a guarded operation: its guard says yes -/
theorem w_on {i j : Nat} {b : Bool} {t : Bool} (hj : (ops[i]?).bind (·.dst) = some j) (hv : vof N g (.tmp j) = .bool t) (ht : t = b) (h : wpList P ops Q (⟨some k, op, T, pos, aft, none⟩ :: rest) ⟨fr N g, d⟩ w) :
    wpList P ops Q (⟨some k, op, T, pos, aft, some (i, b)⟩ :: rest) ⟨fr N g, d⟩ w := by
  subst ht
  unfold wpList at h ⊢
  rw [if_pos (by simp [Region.wanted])] at h
  rw [if_pos (by simp [Region.wanted, yielded_fr hj hv])]
  unfold Oper.wp Oper.asks at h ⊢
  rw [execOp_guard (gd := some (i, t))]
  exact h
/-- and no -/
theorem w_off {i j : Nat} {b : Bool} {t : Bool} (hj : (ops[i]?).bind (·.dst) = some j) (hv : vof N g (.tmp j) = .bool t) (ht : t = !b) (h : wpList P ops Q rest ⟨fr N (upd g k undef), d⟩ w) :
    wpList P ops Q (⟨some k, op, T, pos, aft, some (i, b)⟩ :: rest) ⟨fr N g, d⟩ w := by
  subst ht
  refine wpList_step fun K hK => ?_
  rw [if_neg (by simp [Region.wanted, yielded_fr hj hv])]
  rw [fr_put]
  exact hK _ _ h
/-- and where the guarding operation was itself passed over -/
theorem w_undef {i j : Nat} {b : Bool} (hj : (ops[i]?).bind (·.dst) = some j) (hv : vof N g (.tmp j) = undef) (h : wpList P ops Q rest ⟨fr N (upd g k undef), d⟩ w) :
    wpList P ops Q (⟨some k, op, T, pos, aft, some (i, b)⟩ :: rest) ⟨fr N g, d⟩ w := by
  have h2 : yielded ops (fr N g) i = none := by
    unfold yielded
    rw [hj]
    show (match (fr N g)[j]? with | some (.bool b) => some b | _ => none) = none
    rw [fr_get?, blt_dec]
    have h3 : (bif Nat.ble N j then undef else g j) = undef := hv
    rw [ble_dec] at h3
    rcases Nat.lt_or_ge j N with h | h
    · rw [decide_eq_false (Nat.not_le.2 h)] at h3
      rw [decide_eq_true h, show g j = undef from h3]; rfl
    · rw [decide_eq_false (Nat.not_lt.2 h)]; rfl
  refine wpList_step fun K hK => ?_
  rw [if_neg (by simp [Region.wanted, h2])]
  rw [fr_put]
  exact hK _ _ h
/-- decide first what the guard asks -/
theorem w_by {i j : Nat} {b : Bool} {p : Prop} [Decidable p] (_ : (ops[i]?).bind (·.dst) = some j) (_ : vof N g (.tmp j) = .bool (decide p)) (h1 : p → wpList P ops Q (⟨some k, op, T, pos, aft, some (i, b)⟩ :: rest) ⟨fr N g, d⟩ w) (h2 : ¬ p → wpList P ops Q (⟨some k, op, T, pos, aft, some (i, b)⟩ :: rest) ⟨fr N g, d⟩ w) :
    wpList P ops Q (⟨some k, op, T, pos, aft, some (i, b)⟩ :: rest) ⟨fr N g, d⟩ w := by
  by_cases h : p
  · exact h1 h
  · exact h2 h
theorem w_nil {a : Act} (h : Q .normal a w) : wpList P ops Q [] a w := h

/-- in a region that draws and leaves the world -/
theorem q_list {Q : Act → Prop} (he : (execOp (vof N g) ⟨some k, op, T, pos, aft, none⟩).run P w = .ok (.value v) w) (h : wpStill P ops w Q rest ⟨fr N (upd g k v), d⟩) :
    wpStill P ops w Q (⟨some k, op, T, pos, aft, none⟩ :: rest) ⟨fr N g, d⟩ := by
  refine wpStill_step fun K hK => ?_
  rw [if_pos (by rfl)]
  unfold Oper.still
  rw [eval_fr, he, Oper.stillUpon_value, fr_put]
  exact hK _ h
theorem q_call {Q : Act → Prop} {f : FuncId} {args : Array Value} (he : (execOp (vof N g) ⟨some k, op, T, pos, aft, none⟩).run P w = .ok (.enter f args) w)
    (hc : Calls P f args w fun e w' => e = .returned v ∧ w' = w) (h : wpStill P ops w Q rest ⟨fr N (upd g k v), d⟩) :
    wpStill P ops w Q (⟨some k, op, T, pos, aft, none⟩ :: rest) ⟨fr N g, d⟩ := by
  refine wpStill_step fun K hK => ?_
  rw [if_pos (by rfl)]
  unfold Oper.still
  rw [eval_fr, he]
  refine ⟨rfl, v, hc, ?_⟩
  rw [fr_put]
  exact hK _ h
theorem q_nil {Q : Act → Prop} {a : Act} (h : Q a) : wpStill P ops w Q [] a := h
end

/-- the call's own frame -/
theorem calls_of_fr {P : Program} {f : FuncId} {fn : Func} {args : Array Value} {w : World} {R : Ending → World → Prop} (hf : P.funcs[f]? = some fn) (hb : fn.body.isSome = true) (N : Nat) (hN : fn.ntmps = N) (hle : args.size ≤ N)
    (h : ∀ g : Nat → Value, (∀ j, g j = args.getD j undef) → (fn.body.getD .skip).wp P (bodyPost P fn R) ⟨fr N g, []⟩ w) : Calls P f args w R := by
  refine calls_of_wp (c := fn.body.getD .skip) hf (by cases h : fn.body with | none => rw [h] at hb; cases hb | some x => rfl) ?_
  have e : args ++ Array.replicate (fn.ntmps - args.size) undef = fr N (fun j => args.getD j undef) := by
    subst hN
    apply Array.ext_getElem?
    intro j
    rw [fr_get?, blt_dec, Array.getElem?_append]
    by_cases hj : j < args.size
    · rw [if_pos hj]
      have : j < fn.ntmps := by omega
      simp [Array.getD, hj, this]
    · rw [if_neg hj]
      by_cases h2 : j < fn.ntmps
      · rw [Array.getElem?_replicate, if_pos (by omega)]
        simp [Array.getD, hj, h2]
      · rw [Array.getElem?_replicate, if_neg (by omega)]
        simp [h2]
  rw [e]
  exact h _ (fun _ => rfl)
attribute [irreducible] fr

end Go.Proofs.YtcpceompoihboaaDoor
