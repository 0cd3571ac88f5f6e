/- impl.S2Concat; what a [][]Elem that came in reads as; laws.zzFits8. -/
import Derived.Test.YtcpceompoihboaaDoorConcat
import Derived.Test.YtcpceompoihboaaDoorFits
namespace Go.Proofs.YtcpceompoihboaaDoor
open Go.RowKit Go.ChangeShapes Go.Deep
set_option linter.unusedSimpArgs false
set_option linter.unusedVariables false

/-- a row of elements -/
structure EL where
  p : Option Addr
  n : Nat
  c : Nat
  es : List EV
structure ElssAt (w : World) (p : Option Addr) (n c : Nat) (ls : List EL) : Prop where
  len : ls.length = n
  cap : n ≤ c
  big : c ≤ 9223372036854775807
  cells : 0 < n → ∃ b o, p = some ⟨b, o, none⟩ ∧ b < w.heap.size ∧ ∀ i L, ls[i]? = some L → w.cell? ⟨b, o + i, none⟩ = some (.slice L.p L.n L.c)
  ok : ∀ L ∈ ls, ElsAt w L.p L.n L.c L.es
theorem cOf32 : Tryd.prog.cellsOf 32 = 1 := by kernel_rfl
section
variable {H : Type} {enc : TypeId × Value → H} {w : World} {base : Nat} {spare : Nat → Bool} {held : Bool}
theorem elss_open {fuel : Nat} {p : Option Addr} {n c : Nat} {x : DataW H × List MemPlace} (h : DataW.trod enc Tryd.prog w base spare held fuel 48 [.slice p n c] = some x) (hsp : ∀ b, spare b = true) : ∃ ls, ElssAt w p n c ls := by
  rcases open_slice Tryd.underlying48 h with ⟨hcs, _⟩ | ⟨a, len, cap, m, k, D, Pl, hcs, hb, hl, hm, hmm, _, hx⟩
  · simp only [List.cons.injEq, and_true, Value.slice.injEq] at hcs
    obtain ⟨rfl, rfl, rfl⟩ := hcs
    exact ⟨[], rfl, Nat.le_refl _, by omega, fun h => absurd h (Nat.lt_irrefl 0), fun e he => by cases he⟩
  · simp only [List.cons.injEq, and_true, Value.slice.injEq] at hcs
    obtain ⟨rfl, rfl, rfl⟩ := hcs
    rw [if_pos (hsp _)] at hmm
    obtain ⟨ls, hel, hR⟩ := list_of (R := fun i (L : EL) => w.cells? base (a.add (i * 1)) 1 = some [.slice L.p L.n L.c] ∧ ElsAt w L.p L.n L.c L.es) n fun i hi => by
      obtain ⟨cs', h1, h2⟩ := hx i (by omega)
      rw [cOf32] at h1
      have hv : ∃ q j d, cs' = [.slice q j d] := by
        rcases open_slice Tryd.underlying32 h2 with ⟨hcs, _⟩ | ⟨a2, len2, cap2, _, _, _, _, hcs, _⟩
        · exact ⟨_, _, _, hcs⟩
        · exact ⟨_, _, _, hcs⟩
      obtain ⟨q, j, d, rfl⟩ := hv
      obtain ⟨es, hes⟩ := els_open h2 hsp
      exact ⟨⟨q, j, d, es⟩, h1, hes⟩
    unfold maxLen at hm
    refine ⟨ls, hel, hl, by omega, fun hn => ?_, fun L hL => ?_⟩
    · obtain ⟨L0, hL0⟩ : ∃ e, ls[0]? = some e := ⟨_, List.getElem?_eq_getElem (by omega)⟩
      obtain ⟨_, _, hc0⟩ := World.cells?_some (hR 0 L0 hL0).1
      have h0 := hc0 0 (by omega)
      have hs : a.spot = none := by
        cases hq : a.spot with
        | none => rfl
        | some s =>
          exfalso
          have : w.cell? ((a.add (0 * 1)).add 0) = none := by
            unfold World.cell? Addr.add
            simp [hq]
            split <;> simp_all
          rw [this] at h0
          simp at h0
      obtain ⟨b, o, s⟩ := a
      dsimp only at hs
      subst hs
      refine ⟨b, o, rfl, ?_, fun i L hi => ?_⟩
      · have h1 : w.cell? ⟨b, o, none⟩ = some (.slice L0.p L0.n L0.c) := by
          have := h0
          rw [Addr.add_lit, Addr.add_lit] at this
          simpa using this
        exact World.block_lt_of_cell? w _ h1
      · obtain ⟨_, _, hci⟩ := World.cells?_some (hR i L hi).1
        have := hci 0 (by omega)
        rw [Addr.add_lit, Addr.add_lit] at this
        simpa using this
    · obtain ⟨i, hi⟩ := List.mem_iff_getElem?.1 hL
      exact (hR i L hi).2
end
theorem zEls : (Tryd.prog.info? 32).map (·.size) = some 1 := by kernel_rfl
theorem scEls : Scalar Tryd.prog 32 := fun w => by simp [isAgg, run_underlying Tryd.underlying32]
theorem en20 : Enters Tryd.prog 20 := enters_of (fn := (Tryd.prog.funcs[20]?).getD default) (by kernel_rfl) (by kernel_rfl) (by kernel_rfl)
theorem en21 : Enters Tryd.prog 21 := enters_of (fn := (Tryd.prog.funcs[21]?).getD default) (by kernel_rfl) (by kernel_rfl) (by kernel_rfl)
theorem en46 : Enters Tryd.prog 46 := enters_of (fn := (Tryd.prog.funcs[46]?).getD default) (by kernel_rfl) (by kernel_rfl) (by kernel_rfl)
attribute [local irreducible] Code.wp wpList wpStill Exit.then Exit.inBlock execOp Sem.run bits IntKind.wrap anyE wpAny
set_option maxRecDepth 100000 in
set_option maxHeartbeats 4000000 in
theorem fits8_any (w : World) (p : Option Addr) (n c : Nat) (ls : List EL) (A0 : ElssAt w p n c ls) : Calls Tryd.prog 20 #[.slice p n c] w fun r w' => Below w.heap.size w w' ∧ ∃ b, r = .returned (.bool b) := by
  refine calls_of_fr (fn := Tryd.f20) (by kernel_rfl) (by kernel_rfl) 18 (by kernel_rfl) (by simp) fun g hg => ?_
  have h0 : g 0 = .slice p n c := by rw [hg]; rfl
  clear hg
  have hl := A0.len
  have hcap := A0.cap
  have hbig := A0.big
  conv => arg 2; whnf
  repeat' (first | refine c_seq ?_ | refine c_list ?_ | refine wp_block ?_ | refine wp_skip ?_ | refine wp_exit ?_ | refine wp_ret ?_ | refine c_normal ?_ | refine c_ret ?_ | refine c_in_normal ?_ | refine c_in_ret ?_ | refine c_in_exit ?_ | refine c_in_other (by rfl) ?_ | refine c_exit ?_ | (first | refine w_list (e_move (v := .int _ _) (by first | rfl | assumption)) ?_ | refine w_list (e_move (v := .slice _ _ _) (by first | rfl | assumption)) ?_ | refine w_list (e_move (v := .bool _) (by first | rfl | assumption)) ?_ | refine w_list (e_move (v := .pointer _) (by first | rfl | assumption)) ?_ | refine w_list (e_move (by rfl)) ?_ | refine w_list (e_assign (v := .int _ _) (by first | rfl | assumption)) ?_ | refine w_list (e_assign (v := .slice _ _ _) (by first | rfl | assumption)) ?_ | refine w_list (e_assign (v := .bool _) (by first | rfl | assumption)) ?_ | refine w_list (e_assign (v := .pointer _) (by first | rfl | assumption)) ?_ | refine w_list (e_assign (by rfl)) ?_ | refine w_list (e_gtr (by first | rfl | assumption) (by rfl)) ?_ | refine w_list (e_len (by first | rfl | assumption) (by first | exact u2 | exact u3 | exact u5 | exact u21 | exact u26 | exact u32 | exact u33 | exact u35 | exact u48)) ?_ | refine w_nil ?_) | (refine w_undef (by rfl) (by rfl) ?_) | (first | refine c_yes (by first | rfl | assumption) ?_ | refine c_no (by first | rfl | assumption) ?_ | refine c_true (by first | rfl | assumption) (by assumption) ?_ | refine c_false (by first | rfl | assumption) (by assumption) ?_ | refine c_true (by first | rfl | assumption) (by omega) ?_ | refine c_false (by first | rfl | assumption) (by omega) ?_ | (refine c_cond (by first | rfl | assumption) (fun _ => ?_) (fun _ => ?_))) | (refine w_list (e_extract (by first | rfl | assumption) (by rfl)) ?_) | (refine w_list (e_nil (by first | rfl | assumption)) ?_) | (refine w_list (e_not (by first | rfl | assumption)) ?_) | (refine w_new (e_bytes1 (by first | rfl | assumption)) ?_) | (refine w_new (e_bytes5 (by first | rfl | assumption) (by first | rfl | assumption) (by first | rfl | assumption) (by first | rfl | assumption) (by first | rfl | assumption)) ?_))
  · exact f_end1 (s := 2) (by kernel_rfl) (v := .bool false) (by rfl) ⟨Below.refl _ _, _, rfl⟩ _ (.inr rfl)
  refine c_loop (fun m g' w' => g' 8 = .slice p n c ∧ g' 9 = .int .i64 n ∧ Below w.heap.size w w' ∧ ∃ i : Nat, g' 10 = .int .i64 i ∧ i + m = n) n ⟨(by rfl), (by rfl), Below.refl _ _, 0, (by rfl), by omega⟩ ?_
  clear h0
  rintro m g1 w1 ⟨k8, k9, hbl, i, k10, him⟩
  by_cases hi : i < n
  · obtain ⟨b, o, rfl, hlt, hcell⟩ := A0.cells (by omega)
    obtain ⟨L, hL⟩ : ∃ e, ls[i]? = some e := ⟨_, List.getElem?_eq_getElem (by omega)⟩
    have hLo := (A0.ok L (List.mem_of_getElem? hL)).below hbl
    have hc1 : w1.cell? ⟨b, o + ((i : Nat) : Int).toNat, none⟩ = some (.slice L.p L.n L.c) := by
      rw [Int.toNat_natCast, hbl.cell (p := ⟨b, o + i, none⟩) hlt]; exact hcell i L hL
    repeat' (first | refine c_seq ?_ | refine c_list ?_ | refine wp_block ?_ | refine wp_skip ?_ | refine wp_exit ?_ | refine wp_ret ?_ | refine c_normal ?_ | refine c_ret ?_ | refine c_in_normal ?_ | refine c_in_ret ?_ | refine c_in_exit ?_ | refine c_in_other (by rfl) ?_ | refine c_exit ?_ | (first | refine w_list (e_move (v := .int _ _) (by first | rfl | assumption)) ?_ | refine w_list (e_move (v := .slice _ _ _) (by first | rfl | assumption)) ?_ | refine w_list (e_move (v := .bool _) (by first | rfl | assumption)) ?_ | refine w_list (e_move (v := .pointer _) (by first | rfl | assumption)) ?_ | refine w_list (e_move (by rfl)) ?_ | refine w_list (e_assign (v := .int _ _) (by first | rfl | assumption)) ?_ | refine w_list (e_assign (v := .slice _ _ _) (by first | rfl | assumption)) ?_ | refine w_list (e_assign (v := .bool _) (by first | rfl | assumption)) ?_ | refine w_list (e_assign (v := .pointer _) (by first | rfl | assumption)) ?_ | refine w_list (e_assign (by rfl)) ?_ | refine w_list (e_lss (by first | rfl | assumption) (by first | rfl | assumption)) ?_ | refine w_list (e_index (by first | rfl | assumption) (by first | rfl | assumption) (by first | exact u2 | exact u3 | exact u5 | exact u21 | exact u26 | exact u32 | exact u33 | exact u35 | exact u48) (by exact z2) (by omega) (by omega)) ?_ | refine w_byte (by first | rfl | assumption) (by first | exact sc2 | exact sc3 | exact sc4 | exact sc5 | exact sc21 | exact sc26 | exact sc32) (by first | exact H _ (by omega) (by omega) | exact H2 _ (by omega) (by omega)) (fun _ _ => ?_) | refine w_nil ?_) | (refine w_undef (by rfl) (by rfl) ?_) | (first | refine c_yes (by first | rfl | assumption) ?_ | refine c_no (by first | rfl | assumption) ?_ | refine c_true (by first | rfl | assumption) (by assumption) ?_ | refine c_false (by first | rfl | assumption) (by assumption) ?_ | refine c_true (by first | rfl | assumption) (by omega) ?_ | refine c_false (by first | rfl | assumption) (by omega) ?_ | (refine c_cond (by first | rfl | assumption) (fun _ => ?_) (fun _ => ?_))) | (refine w_list (e_extract (by first | rfl | assumption) (by rfl)) ?_) | (refine w_list (e_nil (by first | rfl | assumption)) ?_) | (refine w_list (e_not (by first | rfl | assumption)) ?_) | (refine w_new (e_bytes1 (by first | rfl | assumption)) ?_) | (refine w_new (e_bytes5 (by first | rfl | assumption) (by first | rfl | assumption) (by first | rfl | assumption) (by first | rfl | assumption) (by first | rfl | assumption)) ?_))
    refine w_list (e_load (v := .slice L.p L.n L.c) (by rfl) scEls hc1) ?_
    repeat' (first | refine c_seq ?_ | refine c_list ?_ | refine wp_block ?_ | refine wp_skip ?_ | refine wp_exit ?_ | refine wp_ret ?_ | refine c_normal ?_ | refine c_ret ?_ | refine c_in_normal ?_ | refine c_in_ret ?_ | refine c_in_exit ?_ | refine c_in_other (by rfl) ?_ | refine c_exit ?_ | (first | refine w_list (e_move (v := .int _ _) (by first | rfl | assumption)) ?_ | refine w_list (e_move (v := .slice _ _ _) (by first | rfl | assumption)) ?_ | refine w_list (e_move (v := .bool _) (by first | rfl | assumption)) ?_ | refine w_list (e_move (v := .pointer _) (by first | rfl | assumption)) ?_ | refine w_list (e_move (by rfl)) ?_ | refine w_list (e_assign (v := .int _ _) (by first | rfl | assumption)) ?_ | refine w_list (e_assign (v := .slice _ _ _) (by first | rfl | assumption)) ?_ | refine w_list (e_assign (v := .bool _) (by first | rfl | assumption)) ?_ | refine w_list (e_assign (v := .pointer _) (by first | rfl | assumption)) ?_ | refine w_list (e_assign (by rfl)) ?_ | refine w_nil ?_) | (refine w_undef (by rfl) (by rfl) ?_) | (first | refine c_yes (by first | rfl | assumption) ?_ | refine c_no (by first | rfl | assumption) ?_ | refine c_true (by first | rfl | assumption) (by assumption) ?_ | refine c_false (by first | rfl | assumption) (by assumption) ?_ | refine c_true (by first | rfl | assumption) (by omega) ?_ | refine c_false (by first | rfl | assumption) (by omega) ?_ | (refine c_cond (by first | rfl | assumption) (fun _ => ?_) (fun _ => ?_))) | (refine w_list (e_extract (by first | rfl | assumption) (by rfl)) ?_) | (refine w_list (e_nil (by first | rfl | assumption)) ?_) | (refine w_list (e_not (by first | rfl | assumption)) ?_) | (refine w_new (e_bytes1 (by first | rfl | assumption)) ?_) | (refine w_new (e_bytes5 (by first | rfl | assumption) (by first | rfl | assumption) (by first | rfl | assumption) (by first | rfl | assumption) (by first | rfl | assumption)) ?_))
    refine w_call (e_call rfl en13 (args1 (by rfl))) ((fits4_any w1 L.p L.n L.c L.es hLo).mono ?_)
    rintro r w5 ⟨hB5, bb, rfl⟩
    have hbl5 := hbl.trans (below_down hB5 hbl.size)
    refine ⟨_, rfl, ?_⟩
    cases bb
    · repeat' (first | refine c_seq ?_ | refine c_list ?_ | refine wp_block ?_ | refine wp_skip ?_ | refine wp_exit ?_ | refine wp_ret ?_ | refine c_normal ?_ | refine c_ret ?_ | refine c_in_normal ?_ | refine c_in_ret ?_ | refine c_in_exit ?_ | refine c_in_other (by rfl) ?_ | refine c_exit ?_ | (first | refine w_list (e_move (v := .int _ _) (by first | rfl | assumption)) ?_ | refine w_list (e_move (v := .slice _ _ _) (by first | rfl | assumption)) ?_ | refine w_list (e_move (v := .bool _) (by first | rfl | assumption)) ?_ | refine w_list (e_move (v := .pointer _) (by first | rfl | assumption)) ?_ | refine w_list (e_move (by rfl)) ?_ | refine w_list (e_assign (v := .int _ _) (by first | rfl | assumption)) ?_ | refine w_list (e_assign (v := .slice _ _ _) (by first | rfl | assumption)) ?_ | refine w_list (e_assign (v := .bool _) (by first | rfl | assumption)) ?_ | refine w_list (e_assign (v := .pointer _) (by first | rfl | assumption)) ?_ | refine w_list (e_assign (by rfl)) ?_ | refine w_nil ?_) | (refine w_undef (by rfl) (by rfl) ?_) | (first | refine c_yes (by first | rfl | assumption) ?_ | refine c_no (by first | rfl | assumption) ?_ | refine c_true (by first | rfl | assumption) (by assumption) ?_ | refine c_false (by first | rfl | assumption) (by assumption) ?_ | refine c_true (by first | rfl | assumption) (by omega) ?_ | refine c_false (by first | rfl | assumption) (by omega) ?_ | (refine c_cond (by first | rfl | assumption) (fun _ => ?_) (fun _ => ?_))) | (refine w_list (e_extract (by first | rfl | assumption) (by rfl)) ?_) | (refine w_list (e_nil (by first | rfl | assumption)) ?_) | (refine w_list (e_not (by first | rfl | assumption)) ?_) | (refine w_new (e_bytes1 (by first | rfl | assumption)) ?_) | (refine w_new (e_bytes5 (by first | rfl | assumption) (by first | rfl | assumption) (by first | rfl | assumption) (by first | rfl | assumption) (by first | rfl | assumption)) ?_))
      exact f_end1 (s := 2) (by kernel_rfl) (v := .bool false) (by rfl) ⟨hbl5, _, rfl⟩ _ (by first | exact .inl rfl | exact .inr rfl)
    · repeat' (first | refine c_seq ?_ | refine c_list ?_ | refine wp_block ?_ | refine wp_skip ?_ | refine wp_exit ?_ | refine wp_ret ?_ | refine c_normal ?_ | refine c_ret ?_ | refine c_in_normal ?_ | refine c_in_ret ?_ | refine c_in_exit ?_ | refine c_in_other (by rfl) ?_ | refine c_exit ?_ | (first | refine w_list (e_move (v := .int _ _) (by first | rfl | assumption)) ?_ | refine w_list (e_move (v := .slice _ _ _) (by first | rfl | assumption)) ?_ | refine w_list (e_move (v := .bool _) (by first | rfl | assumption)) ?_ | refine w_list (e_move (v := .pointer _) (by first | rfl | assumption)) ?_ | refine w_list (e_move (by rfl)) ?_ | refine w_list (e_assign (v := .int _ _) (by first | rfl | assumption)) ?_ | refine w_list (e_assign (v := .slice _ _ _) (by first | rfl | assumption)) ?_ | refine w_list (e_assign (v := .bool _) (by first | rfl | assumption)) ?_ | refine w_list (e_assign (v := .pointer _) (by first | rfl | assumption)) ?_ | refine w_list (e_assign (by rfl)) ?_ | refine w_list (e_add (by first | rfl | assumption) (by rfl) (by exact IntWalk.i64_in _ (by omega))) ?_ | refine w_nil ?_) | (refine w_undef (by rfl) (by rfl) ?_) | (first | refine c_yes (by first | rfl | assumption) ?_ | refine c_no (by first | rfl | assumption) ?_ | refine c_true (by first | rfl | assumption) (by assumption) ?_ | refine c_false (by first | rfl | assumption) (by assumption) ?_ | refine c_true (by first | rfl | assumption) (by omega) ?_ | refine c_false (by first | rfl | assumption) (by omega) ?_ | (refine c_cond (by first | rfl | assumption) (fun _ => ?_) (fun _ => ?_))) | (refine w_list (e_extract (by first | rfl | assumption) (by rfl)) ?_) | (refine w_list (e_nil (by first | rfl | assumption)) ?_) | (refine w_list (e_not (by first | rfl | assumption)) ?_) | (refine w_new (e_bytes1 (by first | rfl | assumption)) ?_) | (refine w_new (e_bytes5 (by first | rfl | assumption) (by first | rfl | assumption) (by first | rfl | assumption) (by first | rfl | assumption) (by first | rfl | assumption)) ?_))
      exact ⟨m - 1, by omega, _, rfl, (by first | rfl | assumption), (by first | rfl | assumption), hbl5, i + 1, (by rfl), by omega⟩
  · repeat' (first | refine c_seq ?_ | refine c_list ?_ | refine wp_block ?_ | refine wp_skip ?_ | refine wp_exit ?_ | refine wp_ret ?_ | refine c_normal ?_ | refine c_ret ?_ | refine c_in_normal ?_ | refine c_in_ret ?_ | refine c_in_exit ?_ | refine c_in_other (by rfl) ?_ | refine c_exit ?_ | (first | refine w_list (e_move (v := .int _ _) (by first | rfl | assumption)) ?_ | refine w_list (e_move (v := .slice _ _ _) (by first | rfl | assumption)) ?_ | refine w_list (e_move (v := .bool _) (by first | rfl | assumption)) ?_ | refine w_list (e_move (v := .pointer _) (by first | rfl | assumption)) ?_ | refine w_list (e_move (by rfl)) ?_ | refine w_list (e_assign (v := .int _ _) (by first | rfl | assumption)) ?_ | refine w_list (e_assign (v := .slice _ _ _) (by first | rfl | assumption)) ?_ | refine w_list (e_assign (v := .bool _) (by first | rfl | assumption)) ?_ | refine w_list (e_assign (v := .pointer _) (by first | rfl | assumption)) ?_ | refine w_list (e_assign (by rfl)) ?_ | refine w_list (e_lss (by first | rfl | assumption) (by first | rfl | assumption)) ?_ | refine w_nil ?_) | (refine w_undef (by rfl) (by rfl) ?_) | (first | refine c_yes (by first | rfl | assumption) ?_ | refine c_no (by first | rfl | assumption) ?_ | refine c_true (by first | rfl | assumption) (by assumption) ?_ | refine c_false (by first | rfl | assumption) (by assumption) ?_ | refine c_true (by first | rfl | assumption) (by omega) ?_ | refine c_false (by first | rfl | assumption) (by omega) ?_ | (refine c_cond (by first | rfl | assumption) (fun _ => ?_) (fun _ => ?_))) | (refine w_list (e_extract (by first | rfl | assumption) (by rfl)) ?_) | (refine w_list (e_nil (by first | rfl | assumption)) ?_) | (refine w_list (e_not (by first | rfl | assumption)) ?_) | (refine w_new (e_bytes1 (by first | rfl | assumption)) ?_) | (refine w_new (e_bytes5 (by first | rfl | assumption) (by first | rfl | assumption) (by first | rfl | assumption) (by first | rfl | assumption) (by first | rfl | assumption)) ?_))
    exact f_end1 (s := 2) (by kernel_rfl) (v := .bool true) (by rfl) ⟨hbl, _, rfl⟩ _ (by first | exact .inl rfl | exact .inr rfl)
set_option maxRecDepth 100000 in
set_option maxHeartbeats 4000000 in
theorem s2concat_any (w : World) (gp K c : Nat) (l : List PB) (hK : l.length = K) (hK2 : K ≤ 100) (Bp : ∀ i b, l[i]? = some b → w.cell? ⟨gp, i, none⟩ = some b.q.val) (hgw : gp < w.heap.size) (hS : ∀ b ∈ l, b.ok w) (hT : ∀ b ∈ l, b.bs.length ≤ 1048576) (hbd : (uv (sumT l) ++ allB l).length ≤ 140737488355328) :
    Calls Tryd.prog 21 #[.slice none 0 0, .slice (some ⟨gp, 0, none⟩) K c] w fun e w' => Below w.heap.size w w' ∧ ∃ q k, SlAt w' q (uv (sumT l) ++ allB l).length k (uv (sumT l) ++ allB l) ∧ e = .returned (.tuple #[.slice q (uv (sumT l) ++ allB l).length k, .bool true]) := by
  refine calls_of_fr (fn := Tryd.f21) (by kernel_rfl) (by kernel_rfl) 15 (by kernel_rfl) (by simp) fun g hg => ?_
  have h0 : g 0 = .slice none 0 0 := by rw [hg]; rfl
  have h1 : g 1 = .slice (some ⟨gp, 0, none⟩) K c := by rw [hg]; rfl
  clear hg
  conv => arg 2; whnf
  repeat' (first | refine c_seq ?_ | refine c_list ?_ | refine wp_block ?_ | refine wp_skip ?_ | refine wp_exit ?_ | refine wp_ret ?_ | refine c_normal ?_ | refine c_ret ?_ | refine c_in_normal ?_ | refine c_in_ret ?_ | refine c_in_exit ?_ | refine c_in_other (by rfl) ?_ | refine c_exit ?_ | (first | refine w_list (e_move (v := .int _ _) (by first | rfl | assumption)) ?_ | refine w_list (e_move (v := .slice _ _ _) (by first | rfl | assumption)) ?_ | refine w_list (e_move (v := .bool _) (by first | rfl | assumption)) ?_ | refine w_list (e_move (v := .pointer _) (by first | rfl | assumption)) ?_ | refine w_list (e_move (by rfl)) ?_ | refine w_list (e_assign (v := .int _ _) (by first | rfl | assumption)) ?_ | refine w_list (e_assign (v := .slice _ _ _) (by first | rfl | assumption)) ?_ | refine w_list (e_assign (v := .bool _) (by first | rfl | assumption)) ?_ | refine w_list (e_assign (v := .pointer _) (by first | rfl | assumption)) ?_ | refine w_list (e_assign (by rfl)) ?_ | refine w_nil ?_) | (refine w_undef (by rfl) (by rfl) ?_) | (first | refine c_yes (by first | rfl | assumption) ?_ | refine c_no (by first | rfl | assumption) ?_ | refine c_true (by first | rfl | assumption) (by assumption) ?_ | refine c_false (by first | rfl | assumption) (by assumption) ?_ | refine c_true (by first | rfl | assumption) (by omega) ?_ | refine c_false (by first | rfl | assumption) (by omega) ?_ | (refine c_cond (by first | rfl | assumption) (fun _ => ?_) (fun _ => ?_))) | (refine w_list (e_extract (by first | rfl | assumption) (by rfl)) ?_) | (refine w_list (e_nil (by first | rfl | assumption)) ?_) | (refine w_list (e_not (by first | rfl | assumption)) ?_) | (refine w_new (e_bytes1 (by first | rfl | assumption)) ?_) | (refine w_new (e_bytes5 (by first | rfl | assumption) (by first | rfl | assumption) (by first | rfl | assumption) (by first | rfl | assumption) (by first | rfl | assumption)) ?_))
  refine w_call (e_call (args := #[.slice none 0 0]) rfl en35 (args1 (by rfl))) ((copied_any w none 0 0 [] ⟨rfl, Nat.le_refl _, by omega, fun _ => rfl, Lib.BytesIn.nil _ _ _, Byt.nil⟩ (by omega)).mono ?_)
  rintro e w1 ⟨v, rfl, own, hB1⟩
  refine ⟨_, rfl, ?_⟩
  repeat' (first | refine c_seq ?_ | refine c_list ?_ | refine wp_block ?_ | refine wp_skip ?_ | refine wp_exit ?_ | refine wp_ret ?_ | refine c_normal ?_ | refine c_ret ?_ | refine c_in_normal ?_ | refine c_in_ret ?_ | refine c_in_exit ?_ | refine c_in_other (by rfl) ?_ | refine c_exit ?_ | (first | refine w_list (e_move (v := .int _ _) (by first | rfl | assumption)) ?_ | refine w_list (e_move (v := .slice _ _ _) (by first | rfl | assumption)) ?_ | refine w_list (e_move (v := .bool _) (by first | rfl | assumption)) ?_ | refine w_list (e_move (v := .pointer _) (by first | rfl | assumption)) ?_ | refine w_list (e_move (by rfl)) ?_ | refine w_list (e_assign (v := .int _ _) (by first | rfl | assumption)) ?_ | refine w_list (e_assign (v := .slice _ _ _) (by first | rfl | assumption)) ?_ | refine w_list (e_assign (v := .bool _) (by first | rfl | assumption)) ?_ | refine w_list (e_assign (v := .pointer _) (by first | rfl | assumption)) ?_ | refine w_list (e_assign (by rfl)) ?_ | refine w_nil ?_) | (refine w_undef (by rfl) (by rfl) ?_) | (first | refine c_yes (by first | rfl | assumption) ?_ | refine c_no (by first | rfl | assumption) ?_ | refine c_true (by first | rfl | assumption) (by assumption) ?_ | refine c_false (by first | rfl | assumption) (by assumption) ?_ | refine c_true (by first | rfl | assumption) (by omega) ?_ | refine c_false (by first | rfl | assumption) (by omega) ?_ | (refine c_cond (by first | rfl | assumption) (fun _ => ?_) (fun _ => ?_))) | (refine w_list (e_extract (by first | rfl | assumption) (by rfl)) ?_) | (refine w_list (e_nil (by first | rfl | assumption)) ?_) | (refine w_list (e_not (by first | rfl | assumption)) ?_) | (refine w_new (e_bytes1 (by first | rfl | assumption)) ?_) | (refine w_new (e_bytes5 (by first | rfl | assumption) (by first | rfl | assumption) (by first | rfl | assumption) (by first | rfl | assumption) (by first | rfl | assumption)) ?_))
  refine w_call (e_call rfl en46 (args2 (by rfl) (by rfl))) ((concat_any w1 w.heap.size v gp K l own hB1.size hK hK2 c (fun i b hb => by rw [hB1.cell (p := ⟨gp, i, none⟩) hgw]; exact Bp i b hb) hgw (Nat.lt_of_lt_of_le hgw hB1.size) (fun b hb => (hS b hb).below hB1) (fun b hb a ha => by
    have hb0 := hS b hb
    have hn : 0 < b.q.n := by
      rw [← hb0.at_.len, hb0.xs, List.length_append]
      have := uv_len b.t (by have := hb0.t; omega)
      omega
    exact hb0.at_.blk hn a ha)).mono ?_)
  rintro e w2 ⟨hB2, q, k, A2, rfl⟩
  have hB12 := hB1.trans hB2
  refine ⟨_, rfl, ?_⟩
  repeat' (first | refine c_seq ?_ | refine c_list ?_ | refine wp_block ?_ | refine wp_skip ?_ | refine wp_exit ?_ | refine wp_ret ?_ | refine c_normal ?_ | refine c_ret ?_ | refine c_in_normal ?_ | refine c_in_ret ?_ | refine c_in_exit ?_ | refine c_in_other (by rfl) ?_ | refine c_exit ?_ | (first | refine w_list (e_move (v := .int _ _) (by first | rfl | assumption)) ?_ | refine w_list (e_move (v := .slice _ _ _) (by first | rfl | assumption)) ?_ | refine w_list (e_move (v := .bool _) (by first | rfl | assumption)) ?_ | refine w_list (e_move (v := .pointer _) (by first | rfl | assumption)) ?_ | refine w_list (e_move (by rfl)) ?_ | refine w_list (e_assign (v := .int _ _) (by first | rfl | assumption)) ?_ | refine w_list (e_assign (v := .slice _ _ _) (by first | rfl | assumption)) ?_ | refine w_list (e_assign (v := .bool _) (by first | rfl | assumption)) ?_ | refine w_list (e_assign (v := .pointer _) (by first | rfl | assumption)) ?_ | refine w_list (e_assign (by rfl)) ?_ | refine w_nil ?_) | (refine w_undef (by rfl) (by rfl) ?_) | (first | refine c_yes (by first | rfl | assumption) ?_ | refine c_no (by first | rfl | assumption) ?_ | refine c_true (by first | rfl | assumption) (by assumption) ?_ | refine c_false (by first | rfl | assumption) (by assumption) ?_ | refine c_true (by first | rfl | assumption) (by omega) ?_ | refine c_false (by first | rfl | assumption) (by omega) ?_ | (refine c_cond (by first | rfl | assumption) (fun _ => ?_) (fun _ => ?_))) | (refine w_list (e_extract (by first | rfl | assumption) (by rfl)) ?_) | (refine w_list (e_nil (by first | rfl | assumption)) ?_) | (refine w_list (e_not (by first | rfl | assumption)) ?_) | (refine w_new (e_bytes1 (by first | rfl | assumption)) ?_) | (refine w_new (e_bytes5 (by first | rfl | assumption) (by first | rfl | assumption) (by first | rfl | assumption) (by first | rfl | assumption) (by first | rfl | assumption)) ?_))
  refine w_call (e_call rfl en42 (args2 (v1 := .slice q (uv (sumT l) ++ allB l).length k) (v2 := .nilIface) (by rfl) (by rfl))) ((told_yes w2 q _ k _ A2 hbd).mono ?_)
  rintro e w3 ⟨hB3, q3, k3, S3, rfl⟩
  refine ⟨_, rfl, ?_⟩
  repeat' (first | refine c_seq ?_ | refine c_list ?_ | refine wp_block ?_ | refine wp_skip ?_ | refine wp_exit ?_ | refine wp_ret ?_ | refine c_normal ?_ | refine c_ret ?_ | refine c_in_normal ?_ | refine c_in_ret ?_ | refine c_in_exit ?_ | refine c_in_other (by rfl) ?_ | refine c_exit ?_ | (first | refine w_list (e_move (v := .int _ _) (by first | rfl | assumption)) ?_ | refine w_list (e_move (v := .slice _ _ _) (by first | rfl | assumption)) ?_ | refine w_list (e_move (v := .bool _) (by first | rfl | assumption)) ?_ | refine w_list (e_move (v := .pointer _) (by first | rfl | assumption)) ?_ | refine w_list (e_move (by rfl)) ?_ | refine w_list (e_assign (v := .int _ _) (by first | rfl | assumption)) ?_ | refine w_list (e_assign (v := .slice _ _ _) (by first | rfl | assumption)) ?_ | refine w_list (e_assign (v := .bool _) (by first | rfl | assumption)) ?_ | refine w_list (e_assign (v := .pointer _) (by first | rfl | assumption)) ?_ | refine w_list (e_assign (by rfl)) ?_ | refine w_nil ?_) | (refine w_undef (by rfl) (by rfl) ?_) | (first | refine c_yes (by first | rfl | assumption) ?_ | refine c_no (by first | rfl | assumption) ?_ | refine c_true (by first | rfl | assumption) (by assumption) ?_ | refine c_false (by first | rfl | assumption) (by assumption) ?_ | refine c_true (by first | rfl | assumption) (by omega) ?_ | refine c_false (by first | rfl | assumption) (by omega) ?_ | (refine c_cond (by first | rfl | assumption) (fun _ => ?_) (fun _ => ?_))) | (refine w_list (e_extract (by first | rfl | assumption) (by rfl)) ?_) | (refine w_list (e_nil (by first | rfl | assumption)) ?_) | (refine w_list (e_not (by first | rfl | assumption)) ?_) | (refine w_new (e_bytes1 (by first | rfl | assumption)) ?_) | (refine w_new (e_bytes5 (by first | rfl | assumption) (by first | rfl | assumption) (by first | rfl | assumption) (by first | rfl | assumption) (by first | rfl | assumption)) ?_))
  exact f_end2 (s := 4) (t := 5) (by kernel_rfl) (by rfl) (by rfl) ⟨hB12.trans (below_down hB3 hB12.size), q3, k3, S3, rfl⟩ _ (by first | exact .inl rfl | exact .inr rfl)
end Go.Proofs.YtcpceompoihboaaDoor
