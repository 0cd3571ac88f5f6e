/- What a []Elem that came in reads as: its elements' cells and the bytes of their literals. -/
import Derived.Test.YtcpceompoihboaaDoorLate
import Derived.Deep.Slices
import Derived.Deep.MidRow
import Derived.ChangeSlices
namespace Go.Proofs.YtcpceompoihboaaDoor
open Go.RowKit Go.ChangeShapes Go.Deep
set_option linter.unusedVariables false

/-- an element: its literal, and what makes its way and length -/
structure EV where
  p : Option Addr
  n : Nat
  c : Nat
  xs : List Int
  bk : Int
  ln : Int
  ag : Bool
  fm : Int
def EV.cells (e : EV) : List Value := [.slice e.p e.n e.c, .int .u16 e.bk, .int .u16 e.ln, .bool e.ag, .int .u8 e.fm]
structure EV.ok (w : World) (e : EV) : Prop where
  sl : SlAt w e.p e.n e.c e.xs
  bk : 0 ≤ e.bk ∧ e.bk ≤ 65535
  ln : 0 ≤ e.ln ∧ e.ln ≤ 65535
  fm : 0 ≤ e.fm ∧ e.fm ≤ 255
/-- '.slice p n c' reads as the elements es -/
structure ElsAt (w : World) (p : Option Addr) (n c : Nat) (es : List EV) : Prop where
  len : es.length = n
  cap : n ≤ c
  big : c ≤ 9223372036854775807
  cells : 0 < n → ∃ b o, p = some ⟨b, o, none⟩ ∧ b < w.heap.size ∧ ∀ i e, es[i]? = some e → w.rangeAt b (o + i * 5) e.cells
  ok : ∀ e ∈ es, e.ok w
theorem EV.ok.below {w w' : World} {e : EV} (h : e.ok w) (hb : Below w.heap.size w w') : e.ok w' := ⟨h.sl.below hb, h.bk, h.ln, h.fm⟩
theorem ElsAt.below {w w' : World} {p : Option Addr} {n c : Nat} {es : List EV} (h : ElsAt w p n c es) (hb : Below w.heap.size w w') : ElsAt w' p n c es := by
  refine ⟨h.len, h.cap, h.big, fun hn => ?_, fun e he => (h.ok e he).below hb⟩
  obtain ⟨b, o, rfl, hlt, hc⟩ := h.cells hn
  exact ⟨b, o, rfl, Nat.lt_of_lt_of_le hlt hb.size, fun i e he j v hv => by rw [hb.cell (p := ⟨b, o + i * 5 + j, none⟩) hlt]; exact hc i e he j v hv⟩
section
variable {H : Type} {enc : TypeId × Value → H} {P : Program} {w : World} {base : Nat} {spare : Nat → Bool} {held : Bool}
theorem trod_struct5 {t : TypeId} {f0 f1 f2 f3 f4 : Field} {fuel : Nat} {cs : List Value} {x : DataW H × List MemPlace} (ht : P.underlying t = some (.struct #[f0, f1, f2, f3, f4])) (h : DataW.trod enc P w base spare held fuel t cs = some x) :
    ∃ y0 y1 y2 y3 y4 n, cs.length = P.cellsOf t ∧ DataW.trod enc P w base spare held n f0.type ((cs.drop f0.offset).take (P.cellsOf f0.type)) = some y0 ∧
      DataW.trod enc P w base spare held n f1.type ((cs.drop f1.offset).take (P.cellsOf f1.type)) = some y1 ∧ DataW.trod enc P w base spare held n f2.type ((cs.drop f2.offset).take (P.cellsOf f2.type)) = some y2 ∧
      DataW.trod enc P w base spare held n f3.type ((cs.drop f3.offset).take (P.cellsOf f3.type)) = some y3 ∧ DataW.trod enc P w base spare held n f4.type ((cs.drop f4.offset).take (P.cellsOf f4.type)) = some y4 := by
  obtain ⟨xs, n, _, rfl, hl, hlen, hf⟩ := DataW.trod_struct ht h
  match xs, hlen with
  | [y0, y1, y2, y3, y4], _ => exact ⟨y0, y1, y2, y3, y4, n, hl, by simpa using hf 0 f0 rfl, by simpa using hf 1 f1 rfl, by simpa using hf 2 f2 rfl, by simpa using hf 3 f3 rfl, by simpa using hf 4 f4 rfl⟩
end
theorem cOf26 : Tryd.prog.cellsOf 26 = 1 := by kernel_rfl
theorem cOf35 : Tryd.prog.cellsOf 35 = 1 := by kernel_rfl
theorem cOf4 : Tryd.prog.cellsOf 4 = 1 := by kernel_rfl
theorem cOf5 : Tryd.prog.cellsOf 5 = 1 := by kernel_rfl
theorem cOfEl : Tryd.prog.cellsOf 37 = 5 := by kernel_rfl
section
variable {H : Type} {enc : TypeId × Value → H} {w : World} {base : Nat} {spare : Nat → Bool} {held : Bool}
set_option maxRecDepth 100000 in
/-- a slice of bytes in a cell -/
theorem bytes_open {fuel : Nat} {v : Value} {y : DataW H × List MemPlace} (h : DataW.trod enc Tryd.prog w base spare held fuel 26 [v] = some y) (hsp : ∀ b, spare b = true) : ∃ p n c xs, v = .slice p n c ∧ SlAt w p n c xs := by
  rcases open_ints Tryd.underlying26 Tryd.underlying5 cOf5 h with ⟨hcs, _⟩ | ⟨x, l, c, zs, hcs, _, hl, hm, hz, _, hcell, hwz⟩
  · simp only [List.cons.injEq, and_true] at hcs
    exact ⟨none, 0, 0, [], hcs, slAt_of_row (zs := []) (.inl ⟨rfl, rfl, rfl, rfl⟩)⟩
  · simp only [List.cons.injEq, and_true] at hcs
    rw [if_pos (hsp _)] at hz
    exact ⟨some x, l, c, zs.take l, hcs, slAt_of_row (.inr ⟨x, rfl, hl, hm, hz, hcell, hwz⟩)⟩
set_option maxRecDepth 100000 in
theorem el_open {fuel : Nat} {cs : List Value} {y : DataW H × List MemPlace} (h : DataW.trod enc Tryd.prog w base spare held fuel 37 cs = some y) (hsp : ∀ b, spare b = true) : ∃ e : EV, cs = e.cells ∧ e.ok w := by
  obtain ⟨y0, y1, y2, y3, y4, n, hl, h0, h1, h2, h3, h4⟩ := trod_struct5 Tryd.underlying37 h
  rw [cOfEl] at hl
  match cs, hl with
  | [v0, v1, v2, v3, v4], _ =>
    dsimp only at h0 h1 h2 h3 h4
    rw [cOf26] at h0
    rw [cOf35] at h1 h2
    rw [cOf4] at h3
    rw [cOf5] at h4
    obtain ⟨p, m, c, xs, rfl, hS⟩ := bytes_open (v := v0) h0 hsp
    obtain ⟨b1, e1, _, w1⟩ := DataW.trod_int Tryd.underlying35 (show DataW.trod enc Tryd.prog w base spare held n 35 [v1] = some y1 from h1)
    obtain ⟨b2, e2, _, w2⟩ := DataW.trod_int Tryd.underlying35 (show DataW.trod enc Tryd.prog w base spare held n 35 [v2] = some y2 from h2)
    obtain ⟨b3, e3, _⟩ := DataW.trod_bool Tryd.underlying4 (show DataW.trod enc Tryd.prog w base spare held n 4 [v3] = some y3 from h3)
    obtain ⟨b4, e4, _, w4⟩ := DataW.trod_int Tryd.underlying5 (show DataW.trod enc Tryd.prog w base spare held n 5 [v4] = some y4 from h4)
    simp only [List.cons.injEq, and_true] at e1 e2 e3 e4
    subst e1 e2 e3 e4
    refine ⟨⟨p, m, c, xs, b1, b2, b3, b4⟩, rfl, hS, ?_, ?_, ?_⟩
    · simpa [Lit.wf, IntKind.min, IntKind.max, IntKind.signed, IntKind.bits] using w1
    · simpa [Lit.wf, IntKind.min, IntKind.max, IntKind.signed, IntKind.bits] using w2
    · simpa [Lit.wf, IntKind.min, IntKind.max, IntKind.signed, IntKind.bits] using w4
theorem list_of {α : Type} {R : Nat → α → Prop} : ∀ n : Nat, (∀ i, i < n → ∃ a, R i a) → ∃ l : List α, l.length = n ∧ ∀ i a, l[i]? = some a → R i a
  | 0, _ => ⟨[], rfl, fun i a h => by simp at h⟩
  | n + 1, h => by
    obtain ⟨l, hl, hR⟩ := list_of n fun i hi => h i (by omega)
    obtain ⟨a, ha⟩ := h n (by omega)
    refine ⟨l ++ [a], by simp [hl], fun i b hb => ?_⟩
    by_cases hi : i < n
    · rw [List.getElem?_append_left (by omega)] at hb
      exact hR i b hb
    · have hlt := (List.getElem?_eq_some_iff.1 hb).1
      simp [hl] at hlt
      obtain rfl : i = n := by omega
      rw [List.getElem?_append_right (by omega)] at hb
      simp [hl] at hb
      subst hb
      exact ha
theorem els_open {fuel : Nat} {p : Option Addr} {n c : Nat} {x : DataW H × List MemPlace} (h : DataW.trod enc Tryd.prog w base spare held fuel 32 [.slice p n c] = some x) (hsp : ∀ b, spare b = true) : ∃ es, ElsAt w p n c es := by
  rcases open_slice Tryd.underlying32 h with ⟨hcs, _⟩ | ⟨a, len, cap, m, k, D, Pl, hcs, hb, hl, hm, hmm, _, hx⟩
  · simp only [List.cons.injEq, and_true, Value.slice.injEq] at hcs
    obtain ⟨rfl, rfl, rfl⟩ := hcs
    exact ⟨[], rfl, Nat.le_refl _, by omega, fun h => absurd h (Nat.lt_irrefl 0), fun e he => by cases he⟩
  · simp only [List.cons.injEq, and_true, Value.slice.injEq] at hcs
    obtain ⟨rfl, rfl, rfl⟩ := hcs
    rw [if_pos (hsp _)] at hmm
    obtain ⟨es, hel, hR⟩ := list_of (R := fun i (e : EV) => w.cells? base (a.add (i * 5)) 5 = some e.cells ∧ e.ok w) n fun i hi => by
      obtain ⟨cs', h1, h2⟩ := hx i (by omega)
      rw [cOfEl] at h1
      obtain ⟨e, rfl, he⟩ := el_open h2 hsp
      exact ⟨e, h1, he⟩
    unfold maxLen at hm
    refine ⟨es, hel, hl, by omega, fun hn => ?_, fun e he => ?_⟩
    · obtain ⟨e0, he0⟩ : ∃ e, es[0]? = some e := ⟨_, List.getElem?_eq_getElem (by omega)⟩
      obtain ⟨_, _, hc0⟩ := World.cells?_some (hR 0 e0 he0).1
      have h0 := hc0 0 (by omega)
      have hs : a.spot = none := by
        cases hq : a.spot with
        | none => rfl
        | some s =>
          exfalso
          have : w.cell? ((a.add (0 * 5)).add 0) = none := by
            unfold World.cell? Addr.add
            simp [hq]
            split <;> simp_all
          rw [this] at h0
          simp [EV.cells] at h0
      obtain ⟨b, o, s⟩ := a
      dsimp only at hs
      subst hs
      refine ⟨b, o, rfl, ?_, fun i e he j v hv => ?_⟩
      · have h1 : w.cell? ⟨b, o, none⟩ = some (.slice e0.p e0.n e0.c) := by
          have := h0
          rw [Addr.add_lit, Addr.add_lit] at this
          simpa [EV.cells] using this
        exact World.block_lt_of_cell? w _ h1
      · obtain ⟨_, _, hci⟩ := World.cells?_some (hR i e he).1
        have hj : j < 5 := by
          have := (List.getElem?_eq_some_iff.1 hv).1
          simpa [EV.cells] using this
        have := hci j hj
        rw [Addr.add_lit, Addr.add_lit] at this
        rw [this, hv]
    · obtain ⟨i, hi⟩ := List.mem_iff_getElem?.1 he
      exact (hR i e hi).2
end
end Go.Proofs.YtcpceompoihboaaDoor
