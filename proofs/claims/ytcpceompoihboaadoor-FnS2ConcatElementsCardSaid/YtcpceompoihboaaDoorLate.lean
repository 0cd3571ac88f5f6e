/- Regions that draw, of which some operations write: reads are taken first, in whatever world meets a condition S; the operations of a list E owe S nothing, for each of them comes up behind all that is taken so. Append onto an owned row there. In frames that are not written out. -/
import Derived.Test.YtcpceompoihboaaDoorHeld
namespace Go.Proofs.YtcpceompoihboaaDoor
open Go.RowKit

section
variable {P : Program} {ops : Array Oper} {md : Region.Mode}
/-- e waits for i, itself or by others -/
def above (md : Region.Mode) (ops : Array Oper) : Nat → Nat → Nat → Bool
  | 0, _, _ => false
  | f + 1, e, i => match ops[e]? with
    | some o => o.after.any fun x => Region.binds md x && (x.on == i || above md ops f x.on i)
    | none => false
/-- what has come up has come up behind all that it waits for -/
def Closed (md : Region.Mode) (ops : Array Oper) (listed : Array Bool) : Prop := ∀ j o, ops[j]? = some o → listed.getD j false = true → ∀ x ∈ o.after, Region.binds md x = true → listed.getD x.on false = true
def closedB (md : Region.Mode) (ops : Array Oper) (listed : Array Bool) : Bool :=
  (List.range ops.size).all fun j => match ops[j]? with
    | some o => !listed.getD j false || o.after.all fun x => !Region.binds md x || listed.getD x.on false
    | none => true
theorem closed_of {listed : Array Bool} (h : closedB md ops listed = true) : Closed md ops listed := by
  intro j o hj hl x hx hb
  have h1 := List.all_eq_true.1 h j (List.mem_range.2 (Array.getElem?_eq_some_iff.1 hj).1)
  simp only [hj, hl, Bool.not_true, Bool.false_or] at h1
  have h2 := Array.all_eq_true_iff_forall_mem.1 h1 x hx
  simpa [hb] using h2
theorem Closed.set {listed : Array Bool} (h : Closed md ops listed) {i : Nat} (hi : i ∈ Region.ready md ops listed) : Closed md ops (listed.setIfInBounds i true) := by
  obtain ⟨_, oi, hoi, hall⟩ := mem_ready.1 hi
  intro j o hj hl x hx hb
  by_cases hij : i = j
  · subst hij
    obtain rfl := Option.some.inj (hoi.symm.trans hj)
    exact getD_set_true (hall x hx hb)
  · rw [getD_set_ne false hij] at hl
    exact getD_set_true (h j o hj hl x hx hb)
theorem above_listed {listed : Array Bool} (hc : Closed md ops listed) : ∀ (f e i : Nat), above md ops f e i = true → (∀ o, ops[e]? = some o → ∀ x ∈ o.after, Region.binds md x = true → listed.getD x.on false = true) → listed.getD i false = true
  | 0, _, _, h, _ => by cases h
  | f + 1, e, i, h, hall => by
    unfold above at h
    split at h
    · rename_i o ho
      obtain ⟨x, hx, h1⟩ := Array.any_eq_true'.1 h
      simp only [Bool.and_eq_true, Bool.or_eq_true, beq_iff_eq] at h1
      have h2 := hall o ho x hx h1.1
      rcases h1.2 with h3 | h3
      · rw [← h3]; exact h2
      · exact above_listed hc f x.on i h3 fun o' ho' x' hx' hb' => hc x.on o' ho' h2 x' hx' hb'
    · cases h

variable {Q : Exit → Act → World → Prop} {S : World → Prop} {E : List Nat}
/-- every order; S behind each operation that is not of E -/
def anyE (P : Program) (md : Region.Mode) (ops : Array Oper) (Q : Exit → Act → World → Prop) (S : World → Prop) (E : List Nat) : Nat → Array Bool → Act → World → Prop
  | 0, listed, a, w => Region.ready md ops listed = [] ∧ Q .normal a w
  | n + 1, listed, a, w => (Region.ready md ops listed = [] → Q .normal a w) ∧
    ∀ i ∈ Region.ready md ops listed, wpOp P ops Q i (fun a' w' => (i ∉ E → S w') ∧ anyE P md ops Q S E n (listed.setIfInBounds i true) a' w') a w
theorem any_of_E : ∀ (n : Nat) (listed : Array Bool) (a : Act) (w : World), anyE P md ops Q S E n listed a w → wpAny P md ops Q n listed a w
  | 0, _, _, _, h => h
  | n + 1, _, _, _, h => ⟨h.1, fun i hi => wpOp_mono (fun a' w' k => any_of_E n _ a' w' k.2) (h.2 i hi)⟩
theorem getD_tf {listed : Array Bool} {i : Nat} (h : listed.getD i true = false) (k : listed.getD i false = true) : False := by
  rcases Nat.lt_or_ge i listed.size with h' | h'
  · simp [h'] at h k; rw [h] at k; cases k
  · simp [Array.getElem?_eq_none h'] at k
theorem anyE_first {i : Nat} {oi : Oper} {v : Value} (hi : ops[i]? = some oi) (hs : Region.noSelect ops = true) (hQ : ∀ c a w, Q (.panic c) (a.put oi.dst v) w → Q (.panic c) a w) (hE : ∀ e ∈ E, above md ops ops.size e i = true) :
    ∀ (n : Nat) (listed : Array Bool) (a : Act) (w : World), Closed md ops listed →
      (∀ j oj, ops[j]? = some oj → j ≠ i → listed.getD j true = false → (∀ x ∈ oj.after, Region.binds md x = true → x.on ≠ i) → oi.apart ops oj = true) →
      i ∈ Region.ready md ops listed → YieldsIf P ops S oi v a → S w → anyE P md ops Q S E n (listed.setIfInBounds i true) (a.put oi.dst v) w → anyE P md ops Q S E (n + 1) listed a w := by
  intro n
  induction n with
  | zero =>
    intro listed a w _ _ hr hy hS H
    refine ⟨fun h => (by rw [h] at hr; cases hr), fun j hj => ?_⟩
    by_cases hji : j = i
    · subst hji; exact hy.wpOp hi hS ⟨fun _ => hS, H⟩
    · have := ready_mono hj hji
      rw [H.1] at this
      cases this
  | succ n ih =>
    intro listed a w hc hfree hr hy hS H
    refine ⟨fun h => (by rw [h] at hr; cases hr), fun j hj => ?_⟩
    by_cases hji : j = i
    · subst hji; exact hy.wpOp hi hS ⟨fun _ => hS, H⟩
    · obtain ⟨hjun, oj, hoj, hall⟩ := mem_ready.1 hj
      have hiun := (mem_ready.1 hr).1
      have hno : ∀ x ∈ oj.after, Region.binds md x = true → x.on ≠ i := fun x hx hb he => by
        have := hall x hx hb
        rw [he] at this
        exact getD_tf hiun this
      have hjE : j ∉ E := fun hm => getD_tf hiun (above_listed hc ops.size j i (hE j hm) fun o ho x hx hb => by
        obtain rfl := Option.some.inj (hoj.symm.trans ho)
        exact hall x hx hb)
      have h2 := wpOp_putIf hoj (hfree j oj hoj hji hjun hno) (fun cs b => Region.noSelect_spec hs i oi cs b hi) (fun cs b => Region.noSelect_spec hs j oj cs b hoj) hQ hy (H.2 j (ready_mono hj hji))
      refine wpOp_mono (fun a' w' h3 => ⟨fun _ => h3.2.1 hjE, ih _ a' w' (hc.set hj) (fun k ok hk hki hun hnk => hfree k ok hk hki ?_ hnk) (ready_mono hr (Ne.symm hji)) h3.1 (h3.2.1 hjE) ?_⟩) h2
      · by_cases hjk : j = k
        · subst hjk; exact hjun
        · rwa [getD_set_ne true hjk] at hun
      · rw [Array.setIfInBounds_comm _ _ hji]
        exact h3.2.2
end

section
variable {P : Program} {ops : Array Oper} {Q : Exit → Act → World → Prop} {S : World → Prop} {E : List Nat} {w : World} {N : Nat} {g : Nat → Value} {d : List Deferred} {k T : Nat} {pos : String} {aft : Array Edge} {op : Op} {v : Value} {fuel : Nat} {listed : Array Bool}
theorem c_late {id : Nat} {a : Act} {l : List Oper} (S : World → Prop) (E : List Nat) (hm : P.follows .mixedOrders = true) (h : anyE P .any l.toArray Q S E l.length (Array.replicate l.length false) a (w.drewN 1)) : (Code.region id l.toArray true).wp P Q a w :=
  wp_region_any hm (any_of_E _ _ _ _ h)
theorem c_any {id : Nat} {a : Act} {l : List Oper} (hm : P.follows .mixedOrders = true) (h : wpAny P .any l.toArray Q l.length (Array.replicate l.length false) a (w.drewN 1)) : (Code.region id l.toArray true).wp P Q a w := wp_region_any hm h
/-- a copy, whatever the world -/
theorem p_take (i : Nat) (hi : ops[i]? = some ⟨some k, op, T, pos, aft, none⟩) (hs : Region.noSelect ops = true) (hf : Region.free .any ops listed i = true) (hr : (Region.ready .any ops listed).contains i = true)
    (hQ : ∀ c a w, Q (.panic c) (a.put (some k) v) w → Q (.panic c) a w) (he : ∀ w, (execOp (vof N g) ⟨some k, op, T, pos, aft, none⟩).run P w = .ok (.value v) w)
    (h : wpAny P .any ops Q fuel (listed.setIfInBounds i true) ⟨fr N (upd g k v), d⟩ w) : wpAny P .any ops Q (fuel + 1) listed ⟨fr N g, d⟩ w :=
  wpAny_take hi hs hf hr hQ (.inl ⟨rfl, fun w => by rw [eval_fr]; exact he w⟩) (by rw [fr_put]; exact h)
/-- number i is taken first -/
theorem l_take (i : Nat) (hi : ops[i]? = some ⟨some k, op, T, pos, aft, none⟩) (hs : Region.noSelect ops = true) (hE : (E.all fun e => above .any ops ops.size e i) = true) (hc : closedB .any ops listed = true) (hf : Region.free .any ops listed i = true) (hr : (Region.ready .any ops listed).contains i = true)
    (hQ : ∀ c a w, Q (.panic c) (a.put (some k) v) w → Q (.panic c) a w) (hS : S w) (he : ∀ w, S w → (execOp (vof N g) ⟨some k, op, T, pos, aft, none⟩).run P w = .ok (.value v) w)
    (h : anyE P .any ops Q S E fuel (listed.setIfInBounds i true) ⟨fr N (upd g k v), d⟩ w) : anyE P .any ops Q S E (fuel + 1) listed ⟨fr N g, d⟩ w :=
  anyE_first hi hs hQ (List.all_eq_true.1 hE) fuel listed _ w (closed_of hc) (Region.free_spec hi hf) (by simpa using hr) (.inl ⟨rfl, fun w hw => by rw [eval_fr]; exact he w hw⟩) hS (by rw [fr_put]; exact h)
/-- number i is the only one that may come up -/
theorem l_do (i : Nat) {w' : World} (hi : ops[i]? = some ⟨some k, op, T, pos, aft, none⟩) (hr : Region.ready .any ops listed = [i]) (he : (execOp (vof N g) ⟨some k, op, T, pos, aft, none⟩).run P w = .ok (.value v) w') (hS : i ∈ E ∨ S w')
    (h : anyE P .any ops Q S E fuel (listed.setIfInBounds i true) ⟨fr N (upd g k v), d⟩ w') : anyE P .any ops Q S E (fuel + 1) listed ⟨fr N g, d⟩ w := by
  refine ⟨fun h0 => (by rw [h0] at hr; cases hr), fun j hj => ?_⟩
  rw [hr] at hj
  obtain rfl : j = i := by simpa using hj
  unfold wpOp
  rw [hi]
  simp only [Region.wanted, if_true]
  refine .inl ?_
  unfold Oper.wp
  rw [eval_fr, he, Oper.upon_value, fr_put]
  exact ⟨fun hn => hS.elim (fun h => absurd h hn) id, h⟩
theorem l_store (i : Nat) {w' : World} (hi : ops[i]? = some ⟨none, op, T, pos, aft, none⟩) (hr : Region.ready .any ops listed = [i]) (he : (execOp (vof N g) ⟨none, op, T, pos, aft, none⟩).run P w = .ok .skip w') (hS : i ∈ E ∨ S w')
    (h : anyE P .any ops Q S E fuel (listed.setIfInBounds i true) ⟨fr N g, d⟩ w') : anyE P .any ops Q S E (fuel + 1) listed ⟨fr N g, d⟩ w := by
  refine ⟨fun h0 => (by rw [h0] at hr; cases hr), fun j hj => ?_⟩
  rw [hr] at hj
  obtain rfl : j = i := by simpa using hj
  unfold wpOp
  rw [hi]
  simp only [Region.wanted, if_true]
  refine .inl ?_
  unfold Oper.wp
  rw [eval_fr, he, Oper.upon_skip]
  exact ⟨fun hn => hS.elim (fun h => absurd h hn) id, h⟩
/-- a call -/
theorem l_call (i : Nat) {f : FuncId} {args : Array Value} (hi : ops[i]? = some ⟨some k, op, T, pos, aft, none⟩) (hr : Region.ready .any ops listed = [i]) (he : (execOp (vof N g) ⟨some k, op, T, pos, aft, none⟩).run P w = .ok (.enter f args) w)
    (hc : Calls P f args w fun e w' => ∃ v, e = .returned v ∧ (i ∈ E ∨ S w') ∧ anyE P .any ops Q S E fuel (listed.setIfInBounds i true) ⟨fr N (upd g k v), d⟩ w') : anyE P .any ops Q S E (fuel + 1) listed ⟨fr N g, d⟩ w := by
  refine ⟨fun h0 => (by rw [h0] at hr; cases hr), fun j hj => ?_⟩
  rw [hr] at hj
  obtain rfl : j = i := by simpa using hj
  unfold wpOp
  rw [hi]
  simp only [Region.wanted, if_true]
  refine .inl ?_
  unfold Oper.wp
  rw [eval_fr, he, Oper.upon_enter]
  refine hc.mono fun e w' h => ?_
  obtain ⟨v, rfl, hS, h⟩ := h
  simp only [fr_put]
  exact ⟨fun hn => hS.elim (fun h => absurd h hn) id, h⟩
theorem l_done {a : Act} (hr : Region.ready .any ops listed = []) (h : Q .normal a w) : anyE P .any ops Q S E 0 listed a w := ⟨hr, h⟩
end

section
variable {P : Program} {ops : Array Oper} {w : World} {N : Nat} {g : Nat → Value} {d : List Deferred} {rest : List Oper} {k T : Nat} {pos : String} {aft : Array Edge} {op : Op} {v : Value}
/-! guards in a region that draws and only reads -/
theorem q_on {Q : Act → Prop} {i j : Nat} {b : Bool} {t : Bool} (hj : (ops[i]?).bind (·.dst) = some j) (hv : vof N g (.tmp j) = .bool t) (ht : t = b) (h : wpStill P ops w Q (⟨some k, op, T, pos, aft, none⟩ :: rest) ⟨fr N g, d⟩) :
    wpStill P ops w Q (⟨some k, op, T, pos, aft, some (i, b)⟩ :: rest) ⟨fr N g, d⟩ := by
  subst ht
  unfold wpStill at h ⊢
  rw [if_pos (by simp [Region.wanted])] at h
  rw [if_pos (by simp [Region.wanted, yielded_fr hj hv])]
  unfold Oper.still at h ⊢
  rw [execOp_guard (gd := some (i, t))]
  exact h
theorem q_off {Q : Act → Prop} {i j : Nat} {b : Bool} {t : Bool} (hj : (ops[i]?).bind (·.dst) = some j) (hv : vof N g (.tmp j) = .bool t) (ht : t = !b) (h : wpStill P ops w Q rest ⟨fr N (upd g k undef), d⟩) :
    wpStill P ops w Q (⟨some k, op, T, pos, aft, some (i, b)⟩ :: rest) ⟨fr N g, d⟩ := by
  subst ht
  refine wpStill_step fun K hK => ?_
  rw [if_neg (by simp [Region.wanted, yielded_fr hj hv])]
  rw [fr_put]
  exact hK _ h
end
theorem SlAt.keep {w w' : World} {B : Nat} {p : Option Addr} {n c : Nat} {xs : List Int} (h : SlAt w p n c xs) (hb : Below B w w') (hp : 0 < n → ∀ a, p = some a → a.block < B) : SlAt w' p n c xs := by
  refine ⟨h.len, h.cap, h.big, h.nil, fun hn => ?_, h.byt⟩
  obtain ⟨b, o, rfl, hlt, hc⟩ := h.at hn
  exact ⟨b, o, rfl, fun i hi => by rw [hb.cell (p := ⟨b, o + i, none⟩) (hp hn ⟨b, o, none⟩ rfl)]; exact hc i hi⟩
theorem SlAt.blk {w : World} {p : Option Addr} {n c : Nat} {xs : List Int} (h : SlAt w p n c xs) (hn : 0 < n) (a : Addr) (ha : p = some a) : a.block < w.heap.size := by
  obtain ⟨b, o, hb, hlt, _⟩ := h.at hn
  rw [hb] at ha
  obtain rfl := Option.some.inj ha
  exact hlt
/-- append onto an owned row of bytes, in this program -/
theorem app_run {w : World} (tx T : TypeId) {base : Nat} {v xv : Value} {n m : Nat} {xs ys : List Int} (hown : w.ownsRow base 5 1 v n (xs.map (Value.int .u8))) (hs : Src Tryd.prog 1 tx xv m (ys.map (Value.int .u8)) w) (hbytes : n + m ≤ 140737488355328) (hbase : base ≤ w.heap.size) :
    ∃ v' w', (Builtin.append_ #[26, tx] T #[v, xv]).run Tryd.prog w = .ok v' w' ∧
      w'.ownsRow base 5 1 v' (n + m) ((xs ++ ys).map (Value.int .u8)) ∧ w.grownBy w' v.ownBlock ∧ (0 < n + m → v'.ownBlock ≠ none) := by
  obtain ⟨i0, hi, hz0, hz1, hz2⟩ := info_parts info8
  obtain ⟨v', w', h1, h2, h3, h4⟩ := run_append_own_src (P := Tryd.prog) w base 26 tx T 5 i0 _ 1 1 Tryd.underlying26 hi hz0 hz1 hz2 rfl v n _ hown xv m _ hs (by omega) (by omega) hbase
  exact ⟨v', w', h1, by rw [List.map_append]; exact h2, h3, h4⟩
theorem e_append {P : Program} {w w' : World} {ρ : Operand → Value} {k : Option Nat} {T t tx : TypeId} {pos : String} {aft : Array Edge} {x y : Operand} {gd : Option (Nat × Bool)} {v xv v' : Value}
    (hx : ρ x = v) (hy : ρ y = xv) (h : (Builtin.append_ #[t, tx] T #[v, xv]).run P w = .ok v' w') :
    (execOp ρ ⟨k, .call { callee := .builtin .append, args := #[x, y], argTypes := #[t, tx] }, T, pos, aft, gd⟩).run P w = .ok (.value v') w' := by
  subst hx hy
  simp [execOp, resolve, invoke, builtin, h]
/-- an owned row of bytes is no block of another type -/
theorem own_ne_blk {w : World} {B e size n gs t : Nat} {v : Value} {xs : List Value} {cs : Array Value} (h : w.ownsRow B e size v n xs) (hb : Blk w gs t cs) (ht : e ≠ t) : some gs ≠ v.ownBlock := fun he => by
  rcases h.2 with ⟨rfl, _⟩ | ⟨g, cap, cur, rfl, _, hg, _⟩
  · cases he
  · obtain rfl : gs = g := by simpa [Value.ownBlock] using he
    have := hg.symm.trans hb
    simp only [Option.some.injEq, Obj.cells.injEq] at this
    exact ht this.2.1
/-- an owned row that is not empty has a block -/
theorem own_some {w : World} {B e n : Nat} {v : Value} {xs : List Int} (h : w.ownsRow B e 1 v n (xs.map (Value.int .u8))) (hn : 0 < n) : v.ownBlock ≠ none := by
  rcases h.2 with ⟨rfl, h0⟩ | ⟨g, cap, cur, rfl, _⟩
  · have h1 := h.1
    simp at h1 h0
    omega
  · intro hc; cases hc
end Go.Proofs.YtcpceompoihboaaDoor
