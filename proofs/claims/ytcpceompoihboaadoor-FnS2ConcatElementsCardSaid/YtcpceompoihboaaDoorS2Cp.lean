/- s2.s2Decode: the heads of copies in the first loop. -/
import Derived.Test.YtcpceompoihboaaDoorS2Lit
namespace Go.Proofs.YtcpceompoihboaaDoor
open Go.RowKit
set_option linter.unusedSimpArgs false
set_option linter.unusedVariables false
attribute [local irreducible] Code.wp wpList wpStill Exit.then Exit.inBlock execOp Sem.run bits IntKind.wrap

/-- a copy's head has been read -/
structure Cp (gd n b o m c : Nat) (src : List Int) (s d : Nat) (off : Int) (g : Nat → Value) (p : Nat) (len off' : Int) (e : Option Int) : Prop where
  h0 : g 0 = .slice (some ⟨gd, 0, none⟩) n n
  h1 : g 1 = .slice (some ⟨b, o, none⟩) m c
  h5 : g 5 = .int .i64 d
  h6 : ∃ pi : Int, g 6 = .int .i64 pi ∧ pi = p
  h7 : ∃ li : Int, g 7 = .int .i64 li ∧ li = len
  h8 : ∃ oi : Int, g 8 = .int .i64 oi ∧ oi = off'
  hp : parseEl true src s = some (.cp e len, p)
  ho : e.getD off = off'
  l0 : 1 ≤ len
  l1 : len ≤ 4294967296
  o0 : 0 ≤ off'
  o1 : off' ≤ 4294967296
  pm : p ≤ m
  sp : s < p

theorem cp_some {gd n b o m c : Nat} {src : List Int} {s d : Nat} {off : Int} {g : Nat → Value} {p : Nat} {len x : Int} (h0 : g 0 = .slice (some ⟨gd, 0, none⟩) n n) (h1 : g 1 = .slice (some ⟨b, o, none⟩) m c) (h5 : g 5 = .int .i64 d) (h6 : ∃ pi : Int, g 6 = .int .i64 pi ∧ pi = p) (h7 : ∃ li : Int, g 7 = .int .i64 li ∧ li = len) (h8 : ∃ oi : Int, g 8 = .int .i64 oi ∧ oi = x) (hp : parseEl true src s = some (.cp (some x) len, p)) (l0 : 1 ≤ len) (l1 : len ≤ 4294967296) (o0 : 0 ≤ x) (o1 : x ≤ 4294967296) (pm : p ≤ m) (sp : s < p) : Cp gd n b o m c src s d off g p len x (some x) := ⟨h0, h1, h5, h6, h7, h8, hp, rfl, l0, l1, o0, o1, pm, sp⟩
theorem cp_none {gd n b o m c : Nat} {src : List Int} {s d : Nat} {off : Int} {g : Nat → Value} {p : Nat} {len : Int} (h0 : g 0 = .slice (some ⟨gd, 0, none⟩) n n) (h1 : g 1 = .slice (some ⟨b, o, none⟩) m c) (h5 : g 5 = .int .i64 d) (h6 : ∃ pi : Int, g 6 = .int .i64 pi ∧ pi = p) (h7 : ∃ li : Int, g 7 = .int .i64 li ∧ li = len) (h8 : ∃ oi : Int, g 8 = .int .i64 oi ∧ oi = off) (hp : parseEl true src s = some (.cp none len, p)) (l0 : 1 ≤ len) (l1 : len ≤ 4294967296) (o0 : 0 ≤ off) (o1 : off ≤ 4294967296) (pm : p ≤ m) (sp : s < p) : Cp gd n b o m c src s d off g p len off none := ⟨h0, h1, h5, h6, h7, h8, hp, rfl, l0, l1, o0, o1, pm, sp⟩
theorem na (s : Nat) (k : Int) (j : Nat) (h : 2 - k = j) : ((s : Int) + 2 - k).toNat = s + j := by omega
theorem drop_at (xs : List Int) (k i : Nat) : (xs.drop k).getD i 0 = xs.getD (k + i) 0 := by simp [List.getD]

noncomputable def cpCode : Code := subCode (Tryd.f71.body.getD .skip) [1, 1, 1, 0, 0, 0, 1, 0, 0, 1, 0, 1, 1]
section
variable {gd n b o m c : Nat} {src : List Int} {Q : Exit → Act → World → Prop}

set_option maxRecDepth 100000 in
set_option maxHeartbeats 4000000 in
theorem cp1 {g : Nat → Value} {w : World} {s d : Nat} {off : Int} (hq : ∀ g' w' p len off' e, Below w.heap.size w w' → Cp gd n b o m c src s d off g' p len off' e → Q .normal ⟨fr 743 g', []⟩ w')
    (h0 : g 0 = .slice (some ⟨gd, 0, none⟩) n n) (h1 : g 1 = .slice (some ⟨b, o, none⟩) m c) (h5 : g 5 = .int .i64 d) (h6 : g 6 = .int .i64 s) (h8 : g 8 = .int .i64 off) (h29 : g 29 = .int .u8 (src.getD (s : Int).toNat 0 % 4))
    (H : Reads w b o m src) (hl : src.length = m) (ho0 : 0 ≤ off) (ho1 : off ≤ 4294967296)
    (hm : m ≤ 4294967295) (hmc : m ≤ c) (hc : c ≤ 9223372036854775807) (hs : (s : Int) < (m : Int) - 5) (ht0 : 0 ≤ src.getD (s : Int).toNat 0) (ht1 : src.getD (s : Int).toNat 0 < 256) (ht : ¬ src.getD (s : Int).toNat 0 % 4 = 0) : cpCode.wp Tryd.prog Q ⟨fr 743 g, []⟩ w := by
  have H2 := H.sub ((s : Int) + 2).toNat
  unfold cpCode
  conv => arg 2; whnf
  repeat' (first | refine c_seq ?_ | refine c_list ?_ | refine wp_block ?_ | refine wp_skip ?_ | refine wp_exit ?_ | refine wp_ret ?_ | refine c_normal ?_ | refine c_ret ?_ | refine c_in_normal ?_ | refine c_in_ret ?_ | refine c_in_exit ?_ | refine c_in_other (by rfl) ?_ | refine c_exit ?_ | (first | refine w_list (e_move (v := .int _ _) (by first | rfl | assumption)) ?_ | refine w_list (e_move (v := .slice _ _ _) (by first | rfl | assumption)) ?_ | refine w_list (e_move (v := .bool _) (by first | rfl | assumption)) ?_ | refine w_list (e_move (v := .pointer _) (by first | rfl | assumption)) ?_ | refine w_list (e_move (by rfl)) ?_ | refine w_list (e_assign (v := .int _ _) (by first | rfl | assumption)) ?_ | refine w_list (e_assign (v := .slice _ _ _) (by first | rfl | assumption)) ?_ | refine w_list (e_assign (v := .bool _) (by first | rfl | assumption)) ?_ | refine w_list (e_assign (v := .pointer _) (by first | rfl | assumption)) ?_ | refine w_list (e_assign (by rfl)) ?_ | refine w_list (e_add (by first | rfl | assumption) (by rfl) (by exact IntWalk.i64_in _ (by omega))) ?_ | refine w_list (e_sub (by first | rfl | assumption) (by rfl) (by exact IntWalk.i64_in _ (by omega))) ?_ | refine w_list (e_eql (by first | rfl | assumption) (by rfl)) ?_ | refine w_list (e_and (by first | rfl | assumption) (by rfl) (by first | exact u8_and3 _ (by omega) (by omega) | exact i64_and7 _ (by omega) (by omega))) ?_ | refine w_list (e_shr (by first | rfl | assumption) (by rfl) (by first | exact sh_8 rfl | exact sh_16 rfl | exact sh_24 rfl | exact sh_2 rfl) (by rfl)) ?_ | refine w_list (e_conv (by first | rfl | assumption) (by first | exact u2 | exact u3 | exact u5 | exact u21 | exact u26 | exact u32 | exact u33 | exact u35 | exact u50 | exact u68) (by exact u2) (by exact IntWalk.i64_in _ (by omega))) ?_ | refine w_list (e_index (by first | rfl | assumption) (by rfl) (by first | exact u2 | exact u3 | exact u5 | exact u21 | exact u26) (by exact z2) (by omega) (by omega)) ?_ | refine w_list (e_slice_lhs (by first | rfl | assumption) (by rfl) (by rfl) (by first | exact u2 | exact u3 | exact u5 | exact u21 | exact u26) (by exact z2) (by omega) (by omega) (by omega) (by omega)) ?_ | refine w_byte (by first | rfl | assumption) (by first | exact sc2 | exact sc3 | exact sc4 | exact sc5) (by exact H _ (by omega) (by omega)) (fun _ _ => ?_) | refine w_nil ?_) | (refine w_undef (by rfl) (by rfl) ?_) | (first | refine c_yes (by first | rfl | assumption) ?_ | refine c_no (by first | rfl | assumption) ?_ | refine c_true (by first | rfl | assumption) (by assumption) ?_ | refine c_false (by first | rfl | assumption) (by assumption) ?_ | refine c_true (by first | rfl | assumption) (by omega) ?_ | refine c_false (by first | rfl | assumption) (by omega) ?_ | (refine c_cond (by first | rfl | assumption) (fun _ => ?_) (fun _ => ?_))) | (first | (refine w_call (e_call rfl en91 (args2 (by first | rfl | assumption) (by rfl))) ((ld16 _ _ _ _ _ _ (by exact H) _ (by omega) (by omega) (by omega) (by omega)).mono ?_); rintro _ wl ⟨rfl, hB, ⟨_, _⟩, ⟨_, _⟩⟩; replace H := Reads.below (by exact H) hB; refine ⟨_, rfl, ?_⟩) | (refine w_call (e_call rfl en92 (args2 (by first | rfl | assumption) (by rfl))) ((ld32 _ _ _ _ _ _ (by exact H) _ (by omega) (by omega) (by omega) (by omega)).mono ?_); rintro _ wl ⟨rfl, hB, ⟨_, _⟩, ⟨_, _⟩, ⟨_, _⟩, ⟨_, _⟩⟩; replace H := Reads.below (by exact H) hB; refine ⟨_, rfl, ?_⟩)) | refine c_still mixed (by kernel_rfl) ?_ | (first | refine q_list (e_move (v := .int _ _) (by first | rfl | assumption)) ?_ | refine q_list (e_move (v := .slice _ _ _) (by first | rfl | assumption)) ?_ | refine q_list (e_move (v := .bool _) (by first | rfl | assumption)) ?_ | refine q_list (e_move (v := .pointer _) (by first | rfl | assumption)) ?_ | refine q_list (e_move (by rfl)) ?_ | refine q_list (e_assign (v := .int _ _) (by first | rfl | assumption)) ?_ | refine q_list (e_assign (v := .slice _ _ _) (by first | rfl | assumption)) ?_ | refine q_list (e_assign (v := .bool _) (by first | rfl | assumption)) ?_ | refine q_list (e_assign (v := .pointer _) (by first | rfl | assumption)) ?_ | refine q_list (e_assign (by rfl)) ?_ | refine q_list (e_add (by first | rfl | assumption) (by rfl) (by exact IntWalk.i64_in _ (by omega))) ?_ | refine q_list (e_sub (by first | rfl | assumption) (by rfl) (by exact IntWalk.i64_in _ (by omega))) ?_ | refine q_list (e_and (by first | rfl | assumption) (by rfl) (by first | exact u8_and3 _ (by omega) (by omega) | exact i64_and7 _ (by omega) (by omega) | exact u32_and224 _ (by omega) (by omega))) ?_ | refine q_list (e_or (by first | rfl | assumption) (by rfl) (by first | exact u32_or8 _ _ (by omega) (by omega) (by omega) (by omega) (by omega) | exact u32_or16 _ _ (by omega) (by omega) (by omega) (by omega) (by omega) | exact u32_or24 _ _ (by omega) (by omega) (by omega) (by omega) (by omega) | exact u32_hi8 _ _ (by omega) (by omega) (by omega) (by omega) (by omega) | exact u32_hi16 _ _ (by omega) (by omega) (by omega) (by omega) (by omega))) ?_ | refine q_list (e_shl (by first | rfl | assumption) (by rfl) (by first | exact sh_8 rfl | exact sh_16 rfl | exact sh_24 rfl | exact sh_2 rfl | exact sh_3 rfl) (by first | exact IntWalk.i64_in _ (by omega) | exact IntWalk.u32_in _ (by omega))) ?_ | refine q_list (e_conv (by first | rfl | assumption) (by first | exact u2 | exact u3 | exact u5 | exact u21 | exact u26 | exact u32 | exact u33 | exact u35 | exact u50 | exact u68) (by first | exact u2 | exact u3 | exact u5 | exact u21 | exact u26 | exact u32 | exact u33 | exact u35 | exact u50 | exact u68) (by first | exact IntWalk.i64_in _ (by omega) | exact IntWalk.u32_in _ (by omega))) ?_ | refine q_list (e_index (by first | rfl | assumption) (by rfl) (by first | exact u2 | exact u3 | exact u5 | exact u21 | exact u26) (by exact z2) (by omega) (by omega)) ?_ | refine q_byte (by first | rfl | assumption) (by first | exact sc2 | exact sc3 | exact sc4 | exact sc5) (by first | exact H _ (by omega) (by omega) | exact H2 _ (by omega) (by omega)) (fun _ _ => ?_) | refine q_nil ?_))
  · simp only [n0, na s 2 0 rfl, na s 1 1 rfl, nk s 1 1 rfl, nk s 2 2 rfl, nk2 s 1 1 2 rfl, nk2 s 1 2 3 rfl, nk2 s 1 3 4 rfl, nk2 s 2 1 3 rfl, Nat.add_zero] at *
    have hp := p_rep1 (s2 := true) (src := src) (s := s) rfl (by omega) (by omega) (by omega) rfl (by omega)
    rw [if_pos (by omega), little1] at hp
    (try simp only [Nat.add_assoc, Nat.reduceAdd] at hp)
    exact hq _ _ _ _ _ _ (below_drewN' _ _ _) (cp_none (by first | rfl | assumption) (by first | rfl | assumption) (by first | rfl | assumption) ⟨_, (by rfl), by omega⟩ ⟨_, (by rfl), by omega⟩ ⟨_, (by first | rfl | assumption), rfl⟩ hp (by omega) (by omega) (by omega) (by omega) (by omega) (by omega))
  · simp only [n0, na s 2 0 rfl, na s 1 1 rfl, nk s 1 1 rfl, nk s 2 2 rfl, nk2 s 1 1 2 rfl, nk2 s 1 2 3 rfl, nk2 s 1 3 4 rfl, nk2 s 2 1 3 rfl, Nat.add_zero] at *
    have hp := p_rep2 (s2 := true) (src := src) (s := s) rfl (by omega) (by omega) (by omega) rfl (by omega)
    rw [if_pos (by omega), little2] at hp
    (try simp only [Nat.add_assoc, Nat.reduceAdd] at hp)
    exact hq _ _ _ _ _ _ (below_trans1 hB) (cp_none (by first | rfl | assumption) (by first | rfl | assumption) (by first | rfl | assumption) ⟨_, (by rfl), by omega⟩ ⟨_, (by rfl), by omega⟩ ⟨_, (by first | rfl | assumption), rfl⟩ hp (by omega) (by omega) (by omega) (by omega) (by omega) (by omega))
  · simp only [n0, na s 2 0 rfl, na s 1 1 rfl, nk s 1 1 rfl, nk s 2 2 rfl, nk2 s 1 1 2 rfl, nk2 s 1 2 3 rfl, nk2 s 1 3 4 rfl, nk2 s 2 1 3 rfl, Nat.add_zero] at *
    simp only [drop_at, show Int.toNat 2 = 2 from rfl, show Int.toNat 1 = 1 from rfl, show Int.toNat 0 = 0 from rfl, Nat.add_assoc, Nat.reduceAdd, Nat.add_zero] at *
    have hp := p_rep3 (s2 := true) (src := src) (s := s) rfl (by omega) (by omega) (by omega) rfl (by omega)
    rw [if_pos (by omega), little3] at hp
    (try simp only [Nat.add_assoc, Nat.reduceAdd] at hp)
    exact hq _ _ _ _ _ _ (below_trans1 (below_drewN' _ _ _)) (cp_none (by first | rfl | assumption) (by first | rfl | assumption) (by first | rfl | assumption) ⟨_, (by rfl), by omega⟩ ⟨_, (by rfl), by omega⟩ ⟨_, (by first | rfl | assumption), rfl⟩ hp (by omega) (by omega) (by omega) (by omega) (by omega) (by omega))
  · simp only [n0, na s 2 0 rfl, na s 1 1 rfl, nk s 1 1 rfl, nk s 2 2 rfl, nk2 s 1 1 2 rfl, nk2 s 1 2 3 rfl, nk2 s 1 3 4 rfl, nk2 s 2 1 3 rfl, Nat.add_zero] at *
    have hp := p_rep0 (s2 := true) (src := src) (s := s) rfl (by omega) (by omega) (by omega) rfl (by omega)
    (try simp only [Nat.add_assoc, Nat.reduceAdd] at hp)
    exact hq _ _ _ _ _ _ (below_drewN' _ _ _) (cp_none (by first | rfl | assumption) (by first | rfl | assumption) (by first | rfl | assumption) ⟨_, (by rfl), by omega⟩ ⟨_, (by rfl), by omega⟩ ⟨_, (by first | rfl | assumption), rfl⟩ hp (by omega) (by omega) (by omega) (by omega) (by omega) (by omega))
  · simp only [n0, na s 2 0 rfl, na s 1 1 rfl, nk s 1 1 rfl, nk s 2 2 rfl, nk2 s 1 1 2 rfl, nk2 s 1 2 3 rfl, nk2 s 1 3 4 rfl, nk2 s 2 1 3 rfl, Nat.add_zero] at *
    have hp := p_cp1 (s2 := true) (src := src) (s := s) rfl (by omega) (by omega) (.inl (by omega))
    (try simp only [Nat.add_assoc, Nat.reduceAdd] at hp)
    exact hq _ _ _ _ _ _ (below_drewN' _ _ _) (cp_some (by first | rfl | assumption) (by first | rfl | assumption) (by first | rfl | assumption) ⟨_, (by rfl), by omega⟩ ⟨_, (by rfl), by omega⟩ ⟨_, (by rfl), by omega⟩ hp (by omega) (by omega) (by omega) (by omega) (by omega) (by omega))
  · simp only [n0, na s 2 0 rfl, na s 1 1 rfl, nk s 1 1 rfl, nk s 2 2 rfl, nk2 s 1 1 2 rfl, nk2 s 1 2 3 rfl, nk2 s 1 3 4 rfl, nk2 s 2 1 3 rfl, Nat.add_zero] at *
    have hp := p_cp2 (s2 := true) (src := src) (s := s) rfl (by omega)
    rw [if_pos (by omega), little2] at hp
    (try simp only [Nat.add_assoc, Nat.reduceAdd] at hp)
    exact hq _ _ _ _ _ _ hB (cp_some (by first | rfl | assumption) (by first | rfl | assumption) (by first | rfl | assumption) ⟨_, (by rfl), by omega⟩ ⟨_, (by rfl), by omega⟩ ⟨_, (by rfl), by omega⟩ hp (by omega) (by omega) (by omega) (by omega) (by omega) (by omega))
  · simp only [n0, na s 2 0 rfl, na s 1 1 rfl, nk s 1 1 rfl, nk s 2 2 rfl, nk2 s 1 1 2 rfl, nk2 s 1 2 3 rfl, nk2 s 1 3 4 rfl, nk2 s 2 1 3 rfl, Nat.add_zero] at *
    have hp := p_cp4 (s2 := true) (src := src) (s := s) rfl (by omega)
    rw [if_pos (by omega), little4] at hp
    (try simp only [Nat.add_assoc, Nat.reduceAdd] at hp)
    exact hq _ _ _ _ _ _ hB (cp_some (by first | rfl | assumption) (by first | rfl | assumption) (by first | rfl | assumption) ⟨_, (by rfl), by omega⟩ ⟨_, (by rfl), by omega⟩ ⟨_, (by rfl), by omega⟩ hp (by omega) (by omega) (by omega) (by omega) (by omega) (by omega))
end
end Go.Proofs.YtcpceompoihboaaDoor
