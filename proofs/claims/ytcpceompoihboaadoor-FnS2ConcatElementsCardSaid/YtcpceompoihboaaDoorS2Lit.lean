/- s2.s2Decode: the state of its loops; a literal in the first one. -/
import Derived.Test.YtcpceompoihboaaDoorRowFr
import Derived.Test.YtcpceompoihboaaDoorDec2
import Derived.Test.YtcpceompoihboaaDoorLd
namespace Go.Proofs.YtcpceompoihboaaDoor
open Go.RowKit
set_option linter.unusedSimpArgs false
set_option linter.unusedVariables false
attribute [local irreducible] Code.wp wpList wpStill Exit.then Exit.inBlock execOp Sem.run bits IntKind.wrap

/-- what holds at the head of a round: s bytes read, d made -/
structure St (w0 : World) (gd ty n : Nat) (p : Option Addr) (m c : Nat) (src : List Int) (res : Option (List Int)) (f : Nat) (g : Nat → Value) (w : World) (s d : Nat) (off : Int) (cur : List Int) : Prop where
  h0 : g 0 = .slice (some ⟨gd, 0, none⟩) n n
  h1 : g 1 = .slice p m c
  h5 : g 5 = .int .i64 d
  h6 : g 6 = .int .i64 s
  h8 : g 8 = .int .i64 off
  row : Row w gd ty cur
  len : cur.length = n
  byt : Byt cur
  gb : w0.grownBy w (some gd)
  hd : d ≤ n
  hs : s ≤ m
  off0 : 0 ≤ off
  off1 : off ≤ 4294967296
  fuel : m < s + f
  go : decGo true src n f s (cur.take d) off = res

/-- what a call hands back that found an error -/
structure Bad (w0 : World) (gd ty n : Nat) (res : Option (List Int)) (g : Nat → Value) (w : World) : Prop where
  h4 : g 4 = .int .i64 1
  gb : w0.grownBy w (some gd)
  row : ∃ cur, Row w gd ty cur ∧ cur.length = n
  res : res = none

noncomputable def litCode : Code := subCode (Tryd.f71.body.getD .skip) [1, 1, 1, 0, 0, 0, 1, 0, 0, 1, 0, 1, 0]
section
variable {w0 : World} {gd ty n b o m c : Nat} {src : List Int} {res : Option (List Int)} {f : Nat} {Q : Exit → Act → World → Prop}

theorem n0 (s : Nat) : ((s : Nat) : Int).toNat = s := Int.toNat_natCast s
theorem nk (s : Nat) (k : Int) (j : Nat) (h : k = j) : ((s : Int) + k).toNat = s + j := by omega
theorem nk2 (s : Nat) (k i : Int) (j : Nat) (h : k + i = j) : ((s : Int) + k + i).toNat = s + j := by omega
set_option maxRecDepth 100000 in
set_option maxHeartbeats 4000000 in
theorem lit1 (hx : ∀ g' w' s d off cur, St w0 gd ty n (some ⟨b, o, none⟩) m c src res f g' w' s d off cur → Q (.exit 1) ⟨fr 743 g', []⟩ w') (hr : ∀ g' w', Bad w0 gd ty n res g' w' → Q .ret ⟨fr 743 g', []⟩ w')
    {g : Nat → Value} {w : World} {s d : Nat} {off : Int} {cur : List Int} (T : St w0 gd ty n (some ⟨b, o, none⟩) m c src res (f + 1) g w s d off cur) (H : Reads w b o m src) (hsb : Byt src) (hl : src.length = m) (hne : b ≠ gd)
    (hm : m ≤ 4294967295) (hmc : m ≤ c) (hc : c ≤ 9223372036854775807) (hn : n ≤ 4294967295) (hs : (s : Int) < (m : Int) - 5) (ht : src.getD (s : Int).toNat 0 % 4 = 0) : litCode.wp Tryd.prog Q ⟨fr 743 g, []⟩ w := by
  obtain ⟨h0, h1, h5, h6, h8, R, hcl, hcb, hgb, hd, hs0, ho0, ho1, hf, hgo⟩ := T
  unfold litCode
  conv => arg 2; whnf
  refine c_seq (c_list ?_)
  repeat (first | refine w_list (e_move (v := .int _ _) (by first | rfl | assumption)) ?_ | refine w_list (e_move (v := .slice _ _ _) (by first | rfl | assumption)) ?_ | refine w_list (e_move (v := .bool _) (by first | rfl | assumption)) ?_ | refine w_list (e_move (v := .pointer _) (by first | rfl | assumption)) ?_ | refine w_list (e_move (by rfl)) ?_ | refine w_list (e_assign (v := .int _ _) (by first | rfl | assumption)) ?_ | refine w_list (e_assign (v := .slice _ _ _) (by first | rfl | assumption)) ?_ | refine w_list (e_assign (v := .bool _) (by first | rfl | assumption)) ?_ | refine w_list (e_assign (v := .pointer _) (by first | rfl | assumption)) ?_ | refine w_list (e_assign (by rfl)) ?_ | refine w_list (e_shr (by first | rfl | assumption) (by rfl) (by first | exact sh_8 rfl | exact sh_16 rfl | exact sh_24 rfl | exact sh_2 rfl) (by rfl)) ?_ | refine w_list (e_conv (by first | rfl | assumption) (by first | exact u2 | exact u3 | exact u5) (by first | exact u2 | exact u3 | exact u5 | exact u21 | exact u26 | exact u32 | exact u33 | exact u35 | exact u50 | exact u68) (by first | exact IntWalk.i64_in _ (by omega) | exact IntWalk.u32_in _ (by omega))) ?_ | refine w_list (e_index (by first | rfl | assumption) (by rfl) (by first | exact u2 | exact u3 | exact u5 | exact u21 | exact u26) (by exact z2) (by omega) (by omega)) ?_ | refine w_byte (by first | rfl | assumption) (by first | exact sc2 | exact sc3 | exact sc4 | exact sc5) (by exact H _ (by omega) (by omega)) (fun _ _ => ?_) | refine w_nil ?_)
  refine c_normal ?_
  refine c_cut (fun g' w' => Below w.heap.size w w' ∧ g' 0 = .slice (some ⟨gd, 0, none⟩) n n ∧ g' 1 = .slice (some ⟨b, o, none⟩) m c ∧ g' 5 = .int .i64 d ∧ g' 8 = .int .i64 off ∧
    ∃ (x si : Int) (s' : Nat), g' 9 = .int .u32 x ∧ g' 6 = .int .i64 si ∧ si = s' ∧ parseEl true src s = some (.lit (x + 1), s') ∧ 0 ≤ x ∧ x ≤ 4294967295 ∧ s' ≤ m ∧ s < s') ?_ ?_
  · repeat' (first | refine c_seq ?_ | refine c_list ?_ | refine wp_block ?_ | refine wp_skip ?_ | refine wp_exit ?_ | refine wp_ret ?_ | refine c_normal ?_ | refine c_ret ?_ | refine c_in_normal ?_ | refine c_in_ret ?_ | refine c_in_exit ?_ | refine c_in_other (by rfl) ?_ | refine c_exit ?_ | (first | refine w_list (e_move (v := .int _ _) (by first | rfl | assumption)) ?_ | refine w_list (e_move (v := .slice _ _ _) (by first | rfl | assumption)) ?_ | refine w_list (e_move (v := .bool _) (by first | rfl | assumption)) ?_ | refine w_list (e_move (v := .pointer _) (by first | rfl | assumption)) ?_ | refine w_list (e_move (by rfl)) ?_ | refine w_list (e_assign (v := .int _ _) (by first | rfl | assumption)) ?_ | refine w_list (e_assign (v := .slice _ _ _) (by first | rfl | assumption)) ?_ | refine w_list (e_assign (v := .bool _) (by first | rfl | assumption)) ?_ | refine w_list (e_assign (v := .pointer _) (by first | rfl | assumption)) ?_ | refine w_list (e_assign (by rfl)) ?_ | refine w_list (e_add (by first | rfl | assumption) (by rfl) (by exact IntWalk.i64_in _ (by omega))) ?_ | refine w_list (e_lss (by first | rfl | assumption) (by rfl)) ?_ | refine w_list (e_eql (by first | rfl | assumption) (by rfl)) ?_ | refine w_list (e_shr (by first | rfl | assumption) (by rfl) (by exact sh_8 rfl) (by rfl)) ?_ | refine w_list (e_conv (by first | rfl | assumption) (by first | exact u2 | exact u3 | exact u5 | exact u21 | exact u26 | exact u32 | exact u33 | exact u35) (by first | exact u2 | exact u3 | exact u5 | exact u21 | exact u26 | exact u32 | exact u33 | exact u35 | exact u50 | exact u68) (by first | exact IntWalk.i64_in _ (by omega) | exact IntWalk.u32_in _ (by omega))) ?_ | refine w_list (e_index (by first | rfl | assumption) (by rfl) (by first | exact u2 | exact u3 | exact u5 | exact u21 | exact u26) (by exact z2) (by omega) (by omega)) ?_ | refine w_byte (by first | rfl | assumption) (by first | exact sc2 | exact sc3 | exact sc4 | exact sc5) (by exact H _ (by omega) (by omega)) (fun _ _ => ?_) | refine w_nil ?_) | (refine w_undef (by rfl) (by rfl) ?_) | (first | refine c_yes (by first | rfl | assumption) ?_ | refine c_no (by first | rfl | assumption) ?_ | refine c_true (by first | rfl | assumption) (by assumption) ?_ | refine c_false (by first | rfl | assumption) (by assumption) ?_ | refine c_true (by first | rfl | assumption) (by omega) ?_ | refine c_false (by first | rfl | assumption) (by omega) ?_ | (refine c_cond (by first | rfl | assumption) (fun _ => ?_) (fun _ => ?_))) | (first | (refine w_call (e_call rfl en91 (args2 (by first | rfl | assumption) (by rfl))) ((ld16 _ _ _ _ _ _ (by exact H) _ (by omega) (by omega) (by omega) (by omega)).mono ?_); rintro _ wl ⟨rfl, hB, ⟨_, _⟩, ⟨_, _⟩⟩; replace H := Reads.below (by exact H) hB; refine ⟨_, rfl, ?_⟩) | (refine w_call (e_call rfl en92 (args2 (by first | rfl | assumption) (by first | rfl | assumption))) ((ld32 _ _ _ _ _ _ (by exact H) _ (by omega) (by omega) (by omega) (by omega)).mono ?_); rintro _ wl ⟨rfl, hB, ⟨_, _⟩, ⟨_, _⟩, ⟨_, _⟩, ⟨_, _⟩⟩; replace H := Reads.below (by exact H) hB; refine ⟨_, rfl, ?_⟩)))
    · exact ⟨_, rfl, below_eq _ rfl, (by first | rfl | assumption), (by first | rfl | assumption), (by first | rfl | assumption), (by first | rfl | assumption), _, _, s + 1, (by rfl), (by rfl), by omega, p_lit0 (by rw [n0]) ht (by assumption), by omega, by omega, by omega, by omega⟩
    · exact ⟨_, rfl, below_eq _ rfl, (by first | rfl | assumption), (by first | rfl | assumption), (by first | rfl | assumption), (by first | rfl | assumption), _, _, s + 2, (by rfl), (by rfl), by omega, (p_lit1 (by rw [n0]) ht (by assumption)).trans (by rw [if_pos (by omega), little1, nk s 1 1 rfl]), by omega, by omega, by omega, by omega⟩
    · exact ⟨_, rfl, hB, (by first | rfl | assumption), (by first | rfl | assumption), (by first | rfl | assumption), (by first | rfl | assumption), _, _, s + 3, (by rfl), (by rfl), by omega, (p_lit2 (by rw [n0]) ht (by assumption)).trans (by rw [if_pos (by omega), little2, nk s 1 1 rfl, nk2 s 1 1 2 rfl]), by omega, by omega, by omega, by omega⟩
    · refine ⟨_, rfl, hB, (by first | rfl | assumption), (by first | rfl | assumption), (by first | rfl | assumption), (by first | rfl | assumption), _, _, s + 4, (by rfl), (by rfl), by omega, (p_lit3 (by rw [n0]) ht (by assumption)).trans ?_, by omega, by omega, by omega, by omega⟩
      rw [if_pos (by omega), little3]
      have h9 : src.getD (s + 1) 0 + 256 * (src.getD (s + 1 + 1) 0 + 256 * src.getD (s + 1 + 2) 0) = (src.getD (s : Int).toNat 0 + 256 * (src.getD ((s : Int) + 1).toNat 0 + 256 * (src.getD ((s : Int) + 2).toNat 0 + 256 * src.getD ((s : Int) + 3).toNat 0))) / 256 := by
        rw [n0, nk s 1 1 rfl, nk s 2 2 rfl, nk s 3 3 rfl, show s + 1 + 1 = s + 2 from rfl, show s + 1 + 2 = s + 3 from rfl] at *; omega
      rw [h9]
    · exact ⟨_, rfl, hB, (by first | rfl | assumption), (by first | rfl | assumption), (by first | rfl | assumption), (by first | rfl | assumption), _, _, s + 5, (by rfl), (by rfl), by omega, (p_lit4 (by rw [n0]) ht (by omega)).trans (by rw [if_pos (by omega), little4, nk s 1 1 rfl, nk2 s 1 1 2 rfl, nk2 s 1 2 3 rfl, nk2 s 1 3 4 rfl]), by omega, by omega, by omega, by omega⟩
  · rintro g' w' ⟨hB, k0, k1, k5, k8, x, _, s', k9, k6, rfl, hp, hx0, hx1, hs', hss'⟩
    have R' : Row w' gd ty cur := R.below hB R.lt
    have H' : Reads w' b o m src := H.below hB
    have gb' : w0.grownBy w' (some gd) := gb_trans hgb (gb_below hB)
    clear h0 h1 h5 h6 h8 R H hgb hB
    have htl : (cur.take d).length = d := by rw [List.length_take]; omega
    repeat' (first | refine c_seq ?_ | refine c_list ?_ | refine wp_block ?_ | refine wp_skip ?_ | refine wp_exit ?_ | refine wp_ret ?_ | refine c_normal ?_ | refine c_ret ?_ | refine c_in_normal ?_ | refine c_in_ret ?_ | refine c_in_exit ?_ | refine c_in_other (by rfl) ?_ | refine c_exit ?_ | (first | refine w_list (e_move (v := .int _ _) (by first | rfl | assumption)) ?_ | refine w_list (e_move (v := .slice _ _ _) (by first | rfl | assumption)) ?_ | refine w_list (e_move (v := .bool _) (by first | rfl | assumption)) ?_ | refine w_list (e_move (v := .pointer _) (by first | rfl | assumption)) ?_ | refine w_list (e_move (by rfl)) ?_ | refine w_list (e_assign (v := .int _ _) (by first | rfl | assumption)) ?_ | refine w_list (e_assign (v := .slice _ _ _) (by first | rfl | assumption)) ?_ | refine w_list (e_assign (v := .bool _) (by first | rfl | assumption)) ?_ | refine w_list (e_assign (v := .pointer _) (by first | rfl | assumption)) ?_ | refine w_list (e_assign (by rfl)) ?_ | refine w_list (e_add (by first | rfl | assumption) (by rfl) (by exact IntWalk.i64_in _ (by omega))) ?_ | refine w_list (e_sub (by first | rfl | assumption) (by rfl) (by exact IntWalk.i64_in _ (by omega))) ?_ | refine w_list (e_gtr (by first | rfl | assumption) (by rfl)) ?_ | refine w_list (e_conv (by first | rfl | assumption) (by first | exact u2 | exact u3 | exact u5 | exact u21 | exact u26 | exact u32 | exact u33 | exact u35 | exact u50 | exact u68) (by exact u2) (by exact IntWalk.i64_in _ (by omega))) ?_ | refine w_list (e_len (by first | rfl | assumption) (by first | exact u2 | exact u3 | exact u5 | exact u21 | exact u26)) ?_ | refine w_list (e_pick (v := .bool _) (by first | rfl | assumption) (by first | rfl | exact decide_eq_true (by assumption) | exact decide_eq_false (by assumption) | exact decide_eq_true (by omega) | exact decide_eq_false (by omega)) (by rfl)) ?_ | refine w_list (e_pick2 (v := .bool _) (by first | rfl | assumption) (by first | rfl | exact decide_eq_true (by assumption) | exact decide_eq_false (by assumption)) (by rfl)) ?_ | refine w_nil ?_) | (first | refine w_undef (by rfl) (by rfl) ?_ | refine w_on (by rfl) (by rfl) (by first | rfl | exact decide_eq_true (by assumption) | exact decide_eq_false (by assumption)) ?_ | refine w_off (by rfl) (by rfl) (by first | rfl | exact decide_eq_true (by assumption) | exact decide_eq_false (by assumption)) ?_ | refine w_on (by rfl) (by rfl) (by first | exact decide_eq_true (by omega) | exact decide_eq_false (by omega)) ?_ | refine w_off (by rfl) (by rfl) (by first | exact decide_eq_true (by omega) | exact decide_eq_false (by omega)) ?_ | (refine w_by (by rfl) (by rfl) (fun _ => ?_) (fun _ => ?_))) | (first | refine c_yes (by first | rfl | assumption) ?_ | refine c_no (by first | rfl | assumption) ?_ | refine c_true (by first | rfl | assumption) (by assumption) ?_ | refine c_false (by first | rfl | assumption) (by assumption) ?_ | refine c_true (by first | rfl | assumption) (by omega) ?_ | refine c_false (by first | rfl | assumption) (by omega) ?_ | (refine c_cond (by first | rfl | assumption) (fun _ => ?_) (fun _ => ?_))))
    · exact hr _ _ ⟨(by rfl), gb', ⟨cur, R', hcl⟩, by rw [← hgo]; exact dec_step (by omega) hp (step_lit_no (by omega))⟩
    · exact hr _ _ ⟨(by rfl), gb', ⟨cur, R', hcl⟩, by rw [← hgo]; exact dec_step (by omega) hp (step_lit_no (by omega))⟩
    · refine c_tail 9 mixed (by kernel_rfl) ?_
      repeat (first | refine q_list (e_move (v := .int _ _) (by first | rfl | assumption)) ?_ | refine q_list (e_move (v := .slice _ _ _) (by first | rfl | assumption)) ?_ | refine q_list (e_move (v := .bool _) (by first | rfl | assumption)) ?_ | refine q_list (e_move (v := .pointer _) (by first | rfl | assumption)) ?_ | refine q_list (e_move (by rfl)) ?_ | refine q_list (e_assign (v := .int _ _) (by first | rfl | assumption)) ?_ | refine q_list (e_assign (v := .slice _ _ _) (by first | rfl | assumption)) ?_ | refine q_list (e_assign (v := .bool _) (by first | rfl | assumption)) ?_ | refine q_list (e_assign (v := .pointer _) (by first | rfl | assumption)) ?_ | refine q_list (e_assign (by rfl)) ?_ | refine q_list (e_add (by first | rfl | assumption) (by rfl) (by exact IntWalk.i64_in _ (by omega))) ?_ | refine q_list (e_slice_lhs (by first | rfl | assumption) (by rfl) (by rfl) (by first | exact u2 | exact u3 | exact u5 | exact u21 | exact u26) (by exact z2) (by omega) (by omega) (by omega) (by omega)) ?_ | refine q_list (e_slice_ls (by first | rfl | assumption) (by rfl) (by first | exact u2 | exact u3 | exact u5 | exact u21 | exact u26) (by exact z2) (by omega) (by omega) (by omega)) ?_ | refine q_nil ?_)
      have hyl : ((src.drop s').take (x + 1).toNat).length = (x + 1).toNat := by rw [List.length_take, List.length_drop]; omega
      refine w_copy (by rfl) (by rfl) u26 z5 gd d ty cur ((src.drop s').take (x + 1).toNat) (R'.drewN 1) ?_ (fun h => ?_) (fun h => ⟨b, o + s', ?_, fun i hi => ?_⟩) (by omega) fun w2 R2 gb2 => ?_
      · show _ = min _ _
        rw [hyl]; omega
      · rw [Int.toNat_natCast, Nat.zero_add]
      · rw [Int.toNat_natCast]
      · have h9 := (H' ((s' + i : Nat) : Int) (by omega) (by omega)).1
        rw [Int.toNat_natCast] at h9
        rw [getD_sub _ _ _ _ (by omega), Nat.add_assoc]
        exact h9
      · repeat' (first | refine c_seq ?_ | refine c_list ?_ | refine wp_block ?_ | refine wp_skip ?_ | refine wp_exit ?_ | refine wp_ret ?_ | refine c_normal ?_ | refine c_ret ?_ | refine c_in_normal ?_ | refine c_in_ret ?_ | refine c_in_exit ?_ | refine c_in_other (by rfl) ?_ | refine c_exit ?_ | (first | refine w_list (e_move (v := .int _ _) (by first | rfl | assumption)) ?_ | refine w_list (e_move (v := .slice _ _ _) (by first | rfl | assumption)) ?_ | refine w_list (e_move (v := .bool _) (by first | rfl | assumption)) ?_ | refine w_list (e_move (v := .pointer _) (by first | rfl | assumption)) ?_ | refine w_list (e_move (by rfl)) ?_ | refine w_list (e_assign (v := .int _ _) (by first | rfl | assumption)) ?_ | refine w_list (e_assign (v := .slice _ _ _) (by first | rfl | assumption)) ?_ | refine w_list (e_assign (v := .bool _) (by first | rfl | assumption)) ?_ | refine w_list (e_assign (v := .pointer _) (by first | rfl | assumption)) ?_ | refine w_list (e_assign (by rfl)) ?_ | refine w_list (e_add (by first | rfl | assumption) (by rfl) (by exact IntWalk.i64_in _ (by omega))) ?_ | refine w_nil ?_) | (refine w_undef (by rfl) (by rfl) ?_) | (first | refine c_yes (by first | rfl | assumption) ?_ | refine c_no (by first | rfl | assumption) ?_ | refine c_true (by first | rfl | assumption) (by assumption) ?_ | refine c_false (by first | rfl | assumption) (by assumption) ?_ | refine c_true (by first | rfl | assumption) (by omega) ?_ | refine c_false (by first | rfl | assumption) (by omega) ?_ | (refine c_cond (by first | rfl | assumption) (fun _ => ?_) (fun _ => ?_))))
        refine hx _ _ (s' + (x + 1).toNat) (d + (x + 1).toNat) off (splice cur d ((src.drop s').take (x + 1).toNat)) ⟨(by first | rfl | assumption), (by first | rfl | assumption), ?_, ?_, (by first | rfl | assumption), R2, ?_, ?_, gb_trans gb' (gb_undrew gb2), by omega, by omega, ho0, ho1, by omega, ?_⟩
        · refine Eq.trans (b := Value.int .i64 (d + (x + 1))) rfl (congrArg _ (by omega))
        · refine Eq.trans (b := Value.int .i64 (s' + (x + 1))) rfl (congrArg _ (by omega))
        · rw [splice_length _ _ _ (by omega)]; exact hcl
        · exact splice_byt hcb (((hsb.drop _).take _)) _
        · rw [← hgo, dec_go (by omega) hp (step_lit (by omega) (by omega))]
          have h9 := splice_take cur ((src.drop s').take (x + 1).toNat) d (by omega)
          rw [hyl] at h9
          rw [h9]
end
end Go.Proofs.YtcpceompoihboaaDoor
