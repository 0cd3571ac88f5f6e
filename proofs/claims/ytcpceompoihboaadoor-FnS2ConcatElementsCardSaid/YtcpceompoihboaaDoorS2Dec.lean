/- s2.s2Decode, whole: its two loops, and what it hands back. (Printed by gen_s2dec.py.) -/
import Derived.Test.YtcpceompoihboaaDoorS2Tail
import Derived.Test.YtcpceompoihboaaDoorS2Cp2
namespace Go.Proofs.YtcpceompoihboaaDoor
open Go.RowKit
set_option linter.unusedSimpArgs false
set_option linter.unusedVariables false
attribute [local irreducible] Code.wp wpList wpStill Exit.then Exit.inBlock execOp Sem.run bits IntKind.wrap


section
variable {w0 : World} {gd ty n m c : Nat} {p : Option Addr} {src : List Int} {res : Option (List Int)} {f : Nat} {Q : Exit → Act → World → Prop}

noncomputable def loopCode1 : Code := subCode (Tryd.f71.body.getD .skip) [1, 1, 1, 0]
set_option maxRecDepth 100000 in
set_option maxHeartbeats 4000000 in
theorem phase1 (hex : ∀ g' w' f s d off cur, St w0 gd ty n p m c src res f g' w' s d off cur → ¬ ((s : Int) < (m : Int) - 5) → Q .normal ⟨fr 743 g', []⟩ w')
    (hr : ∀ g' w', Bad w0 gd ty n res g' w' → Q .ret ⟨fr 743 g', []⟩ w') (S : SlAt w0 p m c src) (hne : 0 < m → ∀ a, p = some a → a.block ≠ gd) (hm : m ≤ 4294967295) (hn : n ≤ 4294967295)
    {g : Nat → Value} {w : World} {s d : Nat} {off : Int} {cur : List Int} (T : St w0 gd ty n p m c src res f g w s d off cur) : loopCode1.wp Tryd.prog Q ⟨fr 743 g, []⟩ w := by
  have hl := S.len
  have hmc := S.cap
  have hc := S.big
  unfold loopCode1
  conv => arg 2; whnf
  refine wp_block ?_
  refine c_loop (fun f' g' w' => ∃ s d off cur, St w0 gd ty n p m c src res f' g' w' s d off cur) f ⟨s, d, off, cur, T⟩ ?_
  clear T
  rintro f1 g1 w1 ⟨s, d, off, cur, T⟩
  have hf1 := T.fuel
  have hs1 := T.hs
  obtain ⟨f2, rfl⟩ : ∃ k, f1 = k + 1 := ⟨f1 - 1, by omega⟩
  have T1 := T
  obtain ⟨h0, h1, h5, h6, h8, R, hcl, hcb, hgb, hd, hs0, ho0, ho1, hf, hgo⟩ := T1
  refine c_cut (fun g' w' => w' = w1 ∧ ((s : Int) < (m : Int) - 5) ∧ g' 0 = .slice (some ⟨gd, 0, none⟩) n n ∧ g' 1 = .slice p m c ∧ g' 5 = .int .i64 d ∧ g' 6 = .int .i64 s ∧ g' 8 = .int .i64 off) ?_ ?_
  · repeat' (first | refine c_seq ?_ | refine c_list ?_ | refine wp_block ?_ | refine wp_skip ?_ | refine wp_exit ?_ | refine wp_ret ?_ | refine c_normal ?_ | refine c_ret ?_ | refine c_in_normal ?_ | refine c_in_ret ?_ | refine c_in_exit ?_ | refine c_in_other (by rfl) ?_ | refine c_exit ?_ | (first | refine w_list (e_move (v := .int _ _) (by first | rfl | assumption)) ?_ | refine w_list (e_move (v := .slice _ _ _) (by first | rfl | assumption)) ?_ | refine w_list (e_move (v := .bool _) (by first | rfl | assumption)) ?_ | refine w_list (e_move (v := .pointer _) (by first | rfl | assumption)) ?_ | refine w_list (e_move (by rfl)) ?_ | refine w_list (e_assign (v := .int _ _) (by first | rfl | assumption)) ?_ | refine w_list (e_assign (v := .slice _ _ _) (by first | rfl | assumption)) ?_ | refine w_list (e_assign (v := .bool _) (by first | rfl | assumption)) ?_ | refine w_list (e_assign (v := .pointer _) (by first | rfl | assumption)) ?_ | refine w_list (e_assign (by rfl)) ?_ | refine w_list (e_sub (by first | rfl | assumption) (by rfl) (by exact IntWalk.i64_in _ (by omega))) ?_ | refine w_list (e_lss (by first | rfl | assumption) (by rfl)) ?_ | refine w_list (e_len (by first | rfl | assumption) (by first | exact u2 | exact u3 | exact u5 | exact u21 | exact u26)) ?_ | refine w_nil ?_) | (refine w_undef (by rfl) (by rfl) ?_) | (first | refine c_yes (by first | rfl | assumption) ?_ | refine c_no (by first | rfl | assumption) ?_ | refine c_true (by first | rfl | assumption) (by assumption) ?_ | refine c_false (by first | rfl | assumption) (by assumption) ?_ | refine c_true (by first | rfl | assumption) (by omega) ?_ | refine c_false (by first | rfl | assumption) (by omega) ?_ | (refine c_cond (by first | rfl | assumption) (fun _ => ?_) (fun _ => ?_))))
    · exact ⟨_, rfl, rfl, by assumption, (by first | rfl | assumption), (by first | rfl | assumption), (by first | rfl | assumption), (by first | rfl | assumption), (by first | rfl | assumption)⟩
    · exact hex _ _ _ s d off cur ⟨(by first | rfl | assumption), (by first | rfl | assumption), (by first | rfl | assumption), (by first | rfl | assumption), (by first | rfl | assumption), R, hcl, hcb, hgb, hd, hs0, ho0, ho1, hf, hgo⟩ (by assumption)
  · clear h0 h1 h5 h6 h8 T
    rintro g2 _ ⟨rfl, hlt, h0, h1, h5, h6, h8⟩
    obtain ⟨b, o, rfl, hb, H0⟩ := S.reads (by omega)
    have H := H0.grown hgb (fun e => hne (by omega) _ rfl (Option.some.inj e))
    refine wp_block ?_
    refine c_cut (fun g' w' => ∃ p' len off' e, Below w'.heap.size w' w' ∧ Row w' gd ty cur ∧ w0.grownBy w' (some gd) ∧ Cp gd n b o m c src s d off g' p' len off' e) ?_ ?_
    · refine c_seq (c_list ?_)
      repeat (first | refine w_list (e_move (v := .int _ _) (by first | rfl | assumption)) ?_ | refine w_list (e_move (v := .slice _ _ _) (by first | rfl | assumption)) ?_ | refine w_list (e_move (v := .bool _) (by first | rfl | assumption)) ?_ | refine w_list (e_move (v := .pointer _) (by first | rfl | assumption)) ?_ | refine w_list (e_move (by rfl)) ?_ | refine w_list (e_assign (v := .int _ _) (by first | rfl | assumption)) ?_ | refine w_list (e_assign (v := .slice _ _ _) (by first | rfl | assumption)) ?_ | refine w_list (e_assign (v := .bool _) (by first | rfl | assumption)) ?_ | refine w_list (e_assign (v := .pointer _) (by first | rfl | assumption)) ?_ | refine w_list (e_assign (by rfl)) ?_ | refine w_list (e_and (by first | rfl | assumption) (by rfl) (by exact u8_and3 _ (by omega) (by omega))) ?_ | refine w_list (e_index (by first | rfl | assumption) (by rfl) (by first | exact u2 | exact u3 | exact u5 | exact u21 | exact u26) (by exact z2) (by omega) (by omega)) ?_ | refine w_byte (by first | rfl | assumption) (by first | exact sc2 | exact sc3 | exact sc4 | exact sc5) (by exact H _ (by omega) (by omega)) (fun _ _ => ?_) | refine w_nil ?_)
      refine c_normal (wp_block (c_seq (c_list ?_)))
      repeat (first | refine w_list (e_move (v := .int _ _) (by first | rfl | assumption)) ?_ | refine w_list (e_move (v := .slice _ _ _) (by first | rfl | assumption)) ?_ | refine w_list (e_move (v := .bool _) (by first | rfl | assumption)) ?_ | refine w_list (e_move (v := .pointer _) (by first | rfl | assumption)) ?_ | refine w_list (e_move (by rfl)) ?_ | refine w_list (e_assign (v := .int _ _) (by first | rfl | assumption)) ?_ | refine w_list (e_assign (v := .slice _ _ _) (by first | rfl | assumption)) ?_ | refine w_list (e_assign (v := .bool _) (by first | rfl | assumption)) ?_ | refine w_list (e_assign (v := .pointer _) (by first | rfl | assumption)) ?_ | refine w_list (e_assign (by rfl)) ?_ | refine w_list (e_eql (by first | rfl | assumption) (by rfl)) ?_ | refine w_nil ?_)
      refine c_normal ?_
      refine c_cond (by rfl) (fun ht => ?_) (fun ht => ?_)
      · refine lit1 (fun g' w' s' d' off' cur' T' => ?_) (fun g' w' B => ?_) ⟨(by first | rfl | assumption), (by first | rfl | assumption), (by first | rfl | assumption), (by first | rfl | assumption), (by first | rfl | assumption), R, hcl, hcb, hgb, hd, hs0, ho0, ho1, hf, hgo⟩ H S.byt hl (fun e => hne (by omega) _ rfl e) hm hmc hc hn (by omega) ht
        · refine c_in_other (by rfl) (c_exit (c_in_exit (c_normal ?_)))
          exact ⟨f2, Nat.lt_succ_self _, _, rfl, _, _, _, _, T'⟩
        · exact c_in_ret (c_ret (c_in_ret (c_ret (c_in_ret (hr _ _ B)))))
      · refine cp1 (fun g' w' p' len off' e hB C => ?_) (by first | rfl | assumption) (by first | rfl | assumption) (by first | rfl | assumption) (by first | rfl | assumption) (by first | rfl | assumption) (by rfl) H hl ho0 ho1 hm hmc hc (by omega) (by assumption) (by assumption) ht
        exact c_in_normal (c_normal ⟨_, rfl, _, _, _, _, Below.refl _ _, R.below hB R.lt, gb_trans hgb (gb_below hB), C⟩)
    · rintro g3 w3 ⟨p', len, off', e, _, R3, hgb3, C⟩
      refine tail1 (f := f2) (fun g' w' s' d' off' cur' T' => ?_) (fun g' w' s' d' off' cur' T' => ?_) (fun g' w' B => ?_) C R3 hcl hcb hgb3 hd (by omega) hl hf hgo hm hn
      · refine c_in_exit (c_normal ?_)
        exact ⟨f2, Nat.lt_succ_self _, _, rfl, _, _, _, _, T'⟩
      · refine c_in_normal (c_normal ?_)
        exact ⟨f2, Nat.lt_succ_self _, _, rfl, _, _, _, _, T'⟩
      · exact c_in_ret (c_ret (c_in_ret (hr _ _ B)))

noncomputable def loopCode2 : Code := subCode (Tryd.f71.body.getD .skip) [1, 1, 1, 1, 0]
set_option maxRecDepth 100000 in
set_option maxHeartbeats 4000000 in
theorem phase2 (hex : ∀ g' w' f s d off cur, St w0 gd ty n p m c src res f g' w' s d off cur → ¬ ((s : Int) < (m : Int)) → Q .normal ⟨fr 743 g', []⟩ w')
    (hr : ∀ g' w', Bad w0 gd ty n res g' w' → Q .ret ⟨fr 743 g', []⟩ w') (S : SlAt w0 p m c src) (hne : 0 < m → ∀ a, p = some a → a.block ≠ gd) (hm : m ≤ 4294967295) (hn : n ≤ 4294967295)
    {g : Nat → Value} {w : World} {s d : Nat} {off : Int} {cur : List Int} (T : St w0 gd ty n p m c src res f g w s d off cur) : loopCode2.wp Tryd.prog Q ⟨fr 743 g, []⟩ w := by
  have hl := S.len
  have hmc := S.cap
  have hc := S.big
  unfold loopCode2
  conv => arg 2; whnf
  refine wp_block ?_
  refine c_loop (fun f' g' w' => ∃ s d off cur, St w0 gd ty n p m c src res f' g' w' s d off cur) f ⟨s, d, off, cur, T⟩ ?_
  clear T
  rintro f1 g1 w1 ⟨s, d, off, cur, T⟩
  have hf1 := T.fuel
  have hs1 := T.hs
  obtain ⟨f2, rfl⟩ : ∃ k, f1 = k + 1 := ⟨f1 - 1, by omega⟩
  have T1 := T
  obtain ⟨h0, h1, h5, h6, h8, R, hcl, hcb, hgb, hd, hs0, ho0, ho1, hf, hgo⟩ := T1
  refine c_cut (fun g' w' => w' = w1 ∧ ((s : Int) < (m : Int)) ∧ g' 0 = .slice (some ⟨gd, 0, none⟩) n n ∧ g' 1 = .slice p m c ∧ g' 5 = .int .i64 d ∧ g' 6 = .int .i64 s ∧ g' 8 = .int .i64 off) ?_ ?_
  · repeat' (first | refine c_seq ?_ | refine c_list ?_ | refine wp_block ?_ | refine wp_skip ?_ | refine wp_exit ?_ | refine wp_ret ?_ | refine c_normal ?_ | refine c_ret ?_ | refine c_in_normal ?_ | refine c_in_ret ?_ | refine c_in_exit ?_ | refine c_in_other (by rfl) ?_ | refine c_exit ?_ | (first | refine w_list (e_move (v := .int _ _) (by first | rfl | assumption)) ?_ | refine w_list (e_move (v := .slice _ _ _) (by first | rfl | assumption)) ?_ | refine w_list (e_move (v := .bool _) (by first | rfl | assumption)) ?_ | refine w_list (e_move (v := .pointer _) (by first | rfl | assumption)) ?_ | refine w_list (e_move (by rfl)) ?_ | refine w_list (e_assign (v := .int _ _) (by first | rfl | assumption)) ?_ | refine w_list (e_assign (v := .slice _ _ _) (by first | rfl | assumption)) ?_ | refine w_list (e_assign (v := .bool _) (by first | rfl | assumption)) ?_ | refine w_list (e_assign (v := .pointer _) (by first | rfl | assumption)) ?_ | refine w_list (e_assign (by rfl)) ?_ | refine w_list (e_lss (by first | rfl | assumption) (by rfl)) ?_ | refine w_list (e_len (by first | rfl | assumption) (by first | exact u2 | exact u3 | exact u5 | exact u21 | exact u26)) ?_ | refine w_nil ?_) | (refine w_undef (by rfl) (by rfl) ?_) | (first | refine c_yes (by first | rfl | assumption) ?_ | refine c_no (by first | rfl | assumption) ?_ | refine c_true (by first | rfl | assumption) (by assumption) ?_ | refine c_false (by first | rfl | assumption) (by assumption) ?_ | refine c_true (by first | rfl | assumption) (by omega) ?_ | refine c_false (by first | rfl | assumption) (by omega) ?_ | (refine c_cond (by first | rfl | assumption) (fun _ => ?_) (fun _ => ?_))))
    · exact ⟨_, rfl, rfl, by assumption, (by first | rfl | assumption), (by first | rfl | assumption), (by first | rfl | assumption), (by first | rfl | assumption), (by first | rfl | assumption)⟩
    · exact hex _ _ _ s d off cur ⟨(by first | rfl | assumption), (by first | rfl | assumption), (by first | rfl | assumption), (by first | rfl | assumption), (by first | rfl | assumption), R, hcl, hcb, hgb, hd, hs0, ho0, ho1, hf, hgo⟩ (by assumption)
  · clear h0 h1 h5 h6 h8 T
    rintro g2 _ ⟨rfl, hlt, h0, h1, h5, h6, h8⟩
    obtain ⟨b, o, rfl, hb, H0⟩ := S.reads (by omega)
    have H := H0.grown hgb (fun e => hne (by omega) _ rfl (Option.some.inj e))
    refine wp_block ?_
    refine c_cut (fun g' w' => ∃ p' len off' e, Below w'.heap.size w' w' ∧ Row w' gd ty cur ∧ w0.grownBy w' (some gd) ∧ Cp gd n b o m c src s d off g' p' len off' e) ?_ ?_
    · refine c_seq (c_list ?_)
      repeat (first | refine w_list (e_move (v := .int _ _) (by first | rfl | assumption)) ?_ | refine w_list (e_move (v := .slice _ _ _) (by first | rfl | assumption)) ?_ | refine w_list (e_move (v := .bool _) (by first | rfl | assumption)) ?_ | refine w_list (e_move (v := .pointer _) (by first | rfl | assumption)) ?_ | refine w_list (e_move (by rfl)) ?_ | refine w_list (e_assign (v := .int _ _) (by first | rfl | assumption)) ?_ | refine w_list (e_assign (v := .slice _ _ _) (by first | rfl | assumption)) ?_ | refine w_list (e_assign (v := .bool _) (by first | rfl | assumption)) ?_ | refine w_list (e_assign (v := .pointer _) (by first | rfl | assumption)) ?_ | refine w_list (e_assign (by rfl)) ?_ | refine w_list (e_and (by first | rfl | assumption) (by rfl) (by exact u8_and3 _ (by omega) (by omega))) ?_ | refine w_list (e_index (by first | rfl | assumption) (by rfl) (by first | exact u2 | exact u3 | exact u5 | exact u21 | exact u26) (by exact z2) (by omega) (by omega)) ?_ | refine w_byte (by first | rfl | assumption) (by first | exact sc2 | exact sc3 | exact sc4 | exact sc5) (by exact H _ (by omega) (by omega)) (fun _ _ => ?_) | refine w_nil ?_)
      refine c_normal (wp_block (c_seq (c_list ?_)))
      repeat (first | refine w_list (e_move (v := .int _ _) (by first | rfl | assumption)) ?_ | refine w_list (e_move (v := .slice _ _ _) (by first | rfl | assumption)) ?_ | refine w_list (e_move (v := .bool _) (by first | rfl | assumption)) ?_ | refine w_list (e_move (v := .pointer _) (by first | rfl | assumption)) ?_ | refine w_list (e_move (by rfl)) ?_ | refine w_list (e_assign (v := .int _ _) (by first | rfl | assumption)) ?_ | refine w_list (e_assign (v := .slice _ _ _) (by first | rfl | assumption)) ?_ | refine w_list (e_assign (v := .bool _) (by first | rfl | assumption)) ?_ | refine w_list (e_assign (v := .pointer _) (by first | rfl | assumption)) ?_ | refine w_list (e_assign (by rfl)) ?_ | refine w_list (e_eql (by first | rfl | assumption) (by rfl)) ?_ | refine w_nil ?_)
      refine c_normal ?_
      refine c_cond (by rfl) (fun ht => ?_) (fun ht => ?_)
      · refine lit2 (fun g' w' s' d' off' cur' T' => ?_) (fun g' w' B => ?_) ⟨(by first | rfl | assumption), (by first | rfl | assumption), (by first | rfl | assumption), (by first | rfl | assumption), (by first | rfl | assumption), R, hcl, hcb, hgb, hd, hs0, ho0, ho1, hf, hgo⟩ H S.byt hl hm hmc hc hn (by omega) ht
        · refine c_in_other (by rfl) (c_exit (c_in_exit (c_normal ?_)))
          exact ⟨f2, Nat.lt_succ_self _, _, rfl, _, _, _, _, T'⟩
        · exact c_in_ret (c_ret (c_in_ret (c_ret (c_in_ret (hr _ _ B)))))
      · refine cp2 (w0 := w0) (ty := ty) (res := res) (f := f2) (cur := cur) (fun g' w' p' len off' e hB C => ?_) (fun g' w' B => c_in_ret (c_ret (c_in_ret (c_ret (c_in_ret (hr _ _ B)))))) R hcl hgb hgo (by first | rfl | assumption) (by first | rfl | assumption) (by first | rfl | assumption) (by first | rfl | assumption) (by first | rfl | assumption) (by rfl) H hl ho0 ho1 hm hmc hc (by omega) (by assumption) (by assumption) ht
        exact c_in_normal (c_normal ⟨_, rfl, _, _, _, _, Below.refl _ _, R.below hB R.lt, gb_trans hgb (gb_below hB), C⟩)
    · rintro g3 w3 ⟨p', len, off', e, _, R3, hgb3, C⟩
      refine tail2 (f := f2) (fun g' w' s' d' off' cur' T' => ?_) (fun g' w' s' d' off' cur' T' => ?_) (fun g' w' B => ?_) C R3 hcl hcb hgb3 hd (by omega) hl hf hgo hm hn
      · refine c_in_exit (c_normal ?_)
        exact ⟨f2, Nat.lt_succ_self _, _, rfl, _, _, _, _, T'⟩
      · refine c_in_normal (c_normal ?_)
        exact ⟨f2, Nat.lt_succ_self _, _, rfl, _, _, _, _, T'⟩
      · exact c_in_ret (c_ret (c_in_ret (hr _ _ B)))
end

set_option maxRecDepth 100000 in
set_option maxHeartbeats 4000000 in
/-- THE CONTRACT: a row that is known whole, as long as what the block stands for, takes it just if the elements stand for so many bytes. -/
theorem s2dec (w : World) (gd ty n m c : Nat) (p : Option Addr) (src cur : List Int) (R : Row w gd ty cur) (hcl : cur.length = n) (hcb : Byt cur) (S : SlAt w p m c src) (hne : 0 < m → ∀ a, p = some a → a.block ≠ gd) (hm : m ≤ 4294967295) (hn : n ≤ 4294967295) :
    Calls Tryd.prog 71 #[.slice (some ⟨gd, 0, none⟩) n n, .slice p m c] w fun e w' => w.grownBy w' (some gd) ∧ ∃ cur', Row w' gd ty cur' ∧ cur'.length = n ∧ ((dec true src n = some cur' ∧ e = .returned (.int .i64 0)) ∨ (dec true src n = none ∧ e = .returned (.int .i64 1))) := by
  refine calls_of_fr (fn := Tryd.f71) (by kernel_rfl) (by kernel_rfl) 743 (by kernel_rfl) (by simp) fun g hg => ?_
  have h0 : g 0 = .slice (some ⟨gd, 0, none⟩) n n := by rw [hg]; rfl
  have h1 : g 1 = .slice p m c := by rw [hg]; rfl
  clear hg
  have hl := S.len
  conv => arg 2; whnf
  refine c_seq (c_list ?_)
  repeat (first | refine w_list (e_move (v := .int _ _) (by first | rfl | assumption)) ?_ | refine w_list (e_move (v := .slice _ _ _) (by first | rfl | assumption)) ?_ | refine w_list (e_move (v := .bool _) (by first | rfl | assumption)) ?_ | refine w_list (e_move (v := .pointer _) (by first | rfl | assumption)) ?_ | refine w_list (e_move (by rfl)) ?_ | refine w_list (e_assign (v := .int _ _) (by first | rfl | assumption)) ?_ | refine w_list (e_assign (v := .slice _ _ _) (by first | rfl | assumption)) ?_ | refine w_list (e_assign (v := .bool _) (by first | rfl | assumption)) ?_ | refine w_list (e_assign (v := .pointer _) (by first | rfl | assumption)) ?_ | refine w_list (e_assign (by rfl)) ?_ | refine w_nil ?_)
  refine c_normal (c_seq (c_list ?_))
  repeat (first | refine w_list (e_move (v := .int _ _) (by first | rfl | assumption)) ?_ | refine w_list (e_move (v := .slice _ _ _) (by first | rfl | assumption)) ?_ | refine w_list (e_move (v := .bool _) (by first | rfl | assumption)) ?_ | refine w_list (e_move (v := .pointer _) (by first | rfl | assumption)) ?_ | refine w_list (e_move (by rfl)) ?_ | refine w_list (e_assign (v := .int _ _) (by first | rfl | assumption)) ?_ | refine w_list (e_assign (v := .slice _ _ _) (by first | rfl | assumption)) ?_ | refine w_list (e_assign (v := .bool _) (by first | rfl | assumption)) ?_ | refine w_list (e_assign (v := .pointer _) (by first | rfl | assumption)) ?_ | refine w_list (e_assign (by rfl)) ?_ | refine w_nil ?_)
  refine c_normal (c_seq (c_list ?_))
  repeat (first | refine w_list (e_move (v := .int _ _) (by first | rfl | assumption)) ?_ | refine w_list (e_move (v := .slice _ _ _) (by first | rfl | assumption)) ?_ | refine w_list (e_move (v := .bool _) (by first | rfl | assumption)) ?_ | refine w_list (e_move (v := .pointer _) (by first | rfl | assumption)) ?_ | refine w_list (e_move (by rfl)) ?_ | refine w_list (e_assign (v := .int _ _) (by first | rfl | assumption)) ?_ | refine w_list (e_assign (v := .slice _ _ _) (by first | rfl | assumption)) ?_ | refine w_list (e_assign (v := .bool _) (by first | rfl | assumption)) ?_ | refine w_list (e_assign (v := .pointer _) (by first | rfl | assumption)) ?_ | refine w_list (e_assign (by rfl)) ?_ | refine w_nil ?_)
  refine c_normal (c_seq ?_)
  have T : St w gd ty n p m c src (dec true src n) (src.length + 1) (upd (upd (upd (upd (upd g 4 (.int .i64 0)) 5 (.int .i64 0)) 6 (.int .i64 0)) 7 (.int .i64 0)) 8 (.int .i64 0)) w 0 0 0 cur :=
    ⟨h0, h1, rfl, rfl, rfl, R, hcl, hcb, gb_refl _ _, by omega, by omega, by omega, by omega, by omega, rfl⟩
  have hbad : ∀ g' w', Bad w gd ty n (dec true src n) g' w' → bodyPost Tryd.prog Tryd.f71 (fun e w' => w.grownBy w' (some gd) ∧ ∃ cur', Row w' gd ty cur' ∧ cur'.length = n ∧ ((dec true src n = some cur' ∧ e = .returned (.int .i64 0)) ∨ (dec true src n = none ∧ e = .returned (.int .i64 1)))) .ret ⟨fr 743 g', []⟩ w' := fun g' w' B => by
    obtain ⟨k4, kg, ⟨cur', R', hcl'⟩, kr⟩ := B
    exact f_end1 (N := 743) (g := g') (s := 4) (by kernel_rfl) (v := .int .i64 1) k4 ⟨kg, cur', R', hcl', .inr ⟨kr, rfl⟩⟩ _ (.inr rfl)
  refine phase1 ?_ ?_ S hne hm hn T
  case refine_2 => exact fun g' w' B => c_ret (hbad _ _ B)
  intro g' w' f s d off cur' T' _
  refine c_normal (c_seq ?_)
  refine phase2 ?_ ?_ S hne hm hn T'
  case refine_2 => exact fun g' w' B => c_ret (hbad _ _ B)
  clear T'
  intro g' w' f s d off cur' T' hs
  obtain ⟨k0, k1, k5, k6, k8, R', hcl', hcb', hgb, hd, hs0, ho0, ho1, hf, hgo⟩ := T'
  obtain ⟨f2, rfl⟩ : ∃ k, f = k + 1 := ⟨f - 1, by omega⟩
  have htl : (cur'.take d).length = d := by rw [List.length_take]; omega
  rw [dec_end (by omega), htl] at hgo
  clear h0 h1
  repeat' (first | refine c_seq ?_ | refine c_list ?_ | refine wp_block ?_ | refine wp_skip ?_ | refine wp_exit ?_ | refine wp_ret ?_ | refine c_normal ?_ | refine c_ret ?_ | refine c_in_normal ?_ | refine c_in_ret ?_ | refine c_in_exit ?_ | refine c_in_other (by rfl) ?_ | refine c_exit ?_ | (first | refine w_list (e_move (v := .int _ _) (by first | rfl | assumption)) ?_ | refine w_list (e_move (v := .slice _ _ _) (by first | rfl | assumption)) ?_ | refine w_list (e_move (v := .bool _) (by first | rfl | assumption)) ?_ | refine w_list (e_move (v := .pointer _) (by first | rfl | assumption)) ?_ | refine w_list (e_move (by rfl)) ?_ | refine w_list (e_assign (v := .int _ _) (by first | rfl | assumption)) ?_ | refine w_list (e_assign (v := .slice _ _ _) (by first | rfl | assumption)) ?_ | refine w_list (e_assign (v := .bool _) (by first | rfl | assumption)) ?_ | refine w_list (e_assign (v := .pointer _) (by first | rfl | assumption)) ?_ | refine w_list (e_assign (by rfl)) ?_ | refine w_list (e_neq (by first | rfl | assumption) (by rfl)) ?_ | refine w_list (e_len (by first | rfl | assumption) (by first | exact u2 | exact u3 | exact u5 | exact u21 | exact u26)) ?_ | refine w_nil ?_) | (refine w_undef (by rfl) (by rfl) ?_) | (first | refine c_yes (by first | rfl | assumption) ?_ | refine c_no (by first | rfl | assumption) ?_ | refine c_true (by first | rfl | assumption) (by assumption) ?_ | refine c_false (by first | rfl | assumption) (by assumption) ?_ | refine c_true (by first | rfl | assumption) (by omega) ?_ | refine c_false (by first | rfl | assumption) (by omega) ?_ | (refine c_cond (by first | rfl | assumption) (fun _ => ?_) (fun _ => ?_))))
  · refine f_end1 (s := 4) (by kernel_rfl) (v := .int .i64 1) (by rfl) ⟨hgb, cur', R', hcl', .inr ⟨?_, rfl⟩⟩ _ (.inr rfl)
    rw [← hgo, if_neg (by omega)]
  · refine f_end1 (s := 4) (by kernel_rfl) (v := .int .i64 0) (by rfl) ⟨hgb, cur', R', hcl', .inl ⟨?_, rfl⟩⟩ _ (.inr rfl)
    rw [← hgo, if_pos (by omega), List.take_of_length_le (by omega)]
end Go.Proofs.YtcpceompoihboaaDoor
