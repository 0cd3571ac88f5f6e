/- The loads of two and of four bytes. -/
import Derived.Test.YtcpceompoihboaaDoorFacts
import Derived.Test.YtcpceompoihboaaDoorShelf
namespace Go.Proofs.YtcpceompoihboaaDoor
open Go.RowKit
attribute [local irreducible] Code.wp wpList wpStill Exit.then Exit.inBlock execOp Sem.run bits IntKind.wrap

theorem u132 : Tryd.prog.underlying 132 = some (.struct #[]) := by kernel_rfl
theorem z132 : (Tryd.prog.info? 132).map (·.size) = some 0 := by kernel_rfl

theorem below_trans1 {w w' : World} (h : Below (w.drewN 1).heap.size (w.drewN 1) w') : Below w.heap.size w w' := ⟨h.os, h.tape, h.output, h.size, h.block⟩

set_option maxRecDepth 100000 in
theorem ld16 (w : World) (b o m c : Nat) (xs : List Int) (H : Reads w b o m xs) (i : Int) (h0 : 0 ≤ i) (h1 : i + 2 ≤ m) (hmc : m ≤ c) (hc : c ≤ 9223372036854775807) :
    Calls Tryd.prog 91 #[.slice (some ⟨b, o, none⟩) m c, .int .i64 i] w fun e w' => e = .returned (.int .u16 (xs.getD i.toNat 0 + 256 * xs.getD (i + 1).toNat 0)) ∧ Below w.heap.size w w' ∧ (0 ≤ xs.getD i.toNat 0 ∧ xs.getD i.toNat 0 < 256) ∧ (0 ≤ xs.getD (i + 1).toNat 0 ∧ xs.getD (i + 1).toNat 0 < 256) := by
  refine calls_of_fr (fn := Tryd.f91) (by kernel_rfl) (by kernel_rfl) 10 (by kernel_rfl) (by simp) fun g hg => ?_
  have h0' : g 0 = .slice (some ⟨b, o, none⟩) m c := by rw [hg]; rfl
  have h1' : g 1 = .int .i64 i := by rw [hg]; rfl
  conv => arg 2; whnf
  repeat (first | refine c_seq ?_ | refine c_list ?_ | refine wp_block ?_ | refine wp_skip ?_ | refine wp_exit ?_ | refine wp_ret ?_ | refine c_normal ?_ | refine c_ret ?_ | refine c_in_normal ?_ | refine c_in_ret ?_ | refine c_in_exit ?_ | refine c_in_other (by rfl) ?_ | refine c_exit ?_ | (first | refine w_list (e_move (v := .int _ _) (by first | rfl | assumption)) ?_ | refine w_list (e_move (v := .slice _ _ _) (by first | rfl | assumption)) ?_ | refine w_list (e_move (v := .bool _) (by first | rfl | assumption)) ?_ | refine w_list (e_move (v := .pointer _) (by first | rfl | assumption)) ?_ | refine w_list (e_move (by rfl)) ?_ | refine w_list (e_assign (v := .int _ _) (by first | rfl | assumption)) ?_ | refine w_list (e_assign (v := .slice _ _ _) (by first | rfl | assumption)) ?_ | refine w_list (e_assign (v := .bool _) (by first | rfl | assumption)) ?_ | refine w_list (e_assign (v := .pointer _) (by first | rfl | assumption)) ?_ | refine w_list (e_assign (by rfl)) ?_ | refine w_nil ?_))
  refine c_tail 4 mixed (by kernel_rfl) ?_
  refine q_list (e_load0 (by rfl) u132 z132) ?_
  repeat (first | refine q_list (e_move (v := .int _ _) (by first | rfl | assumption)) ?_ | refine q_list (e_move (v := .slice _ _ _) (by first | rfl | assumption)) ?_ | refine q_list (e_move (v := .bool _) (by first | rfl | assumption)) ?_ | refine q_list (e_move (v := .pointer _) (by first | rfl | assumption)) ?_ | refine q_list (e_move (by rfl)) ?_ | refine q_list (e_assign (v := .int _ _) (by first | rfl | assumption)) ?_ | refine q_list (e_assign (v := .slice _ _ _) (by first | rfl | assumption)) ?_ | refine q_list (e_assign (v := .bool _) (by first | rfl | assumption)) ?_ | refine q_list (e_assign (v := .pointer _) (by first | rfl | assumption)) ?_ | refine q_list (e_assign (by rfl)) ?_ | refine q_list (e_slice_ls (by first | rfl | assumption) (by rfl) (by first | exact u2 | exact u3 | exact u5 | exact u21 | exact u26) (by exact z2) (by omega) (by omega) (by omega)) ?_ | refine q_nil ?_)
  have hb0 := H i (by omega) (by omega)
  have hb1 := H (i + 1) (by omega) (by omega)
  refine w_call (e_call rfl en98 (args2 rfl rfl)) ?_
  refine (Tryd.binary_LE_Uint16_z ⟨b, o + i.toNat, none⟩ _ _ [xs.getD i.toNat 0, xs.getD (i + 1).toNat 0] _ (by omega) (by simp) (fun k hk => ?_) (fun z hz => ?_)).mono fun e w' h => ?_
  · simp only [List.length_cons, List.length_nil] at hk
    have h5 : k = 0 ∨ k = 1 := by omega
    rcases h5 with rfl | rfl
    · rw [Addr.add_lit, show o + i.toNat + 0 = o + i.toNat by omega]; exact hb0.1
    · rw [Addr.add_lit, show o + i.toNat + 1 = o + (i + 1).toNat by omega]; exact hb1.1
  · simp only [List.mem_cons, List.not_mem_nil, or_false] at hz
    have h5 : 0 ≤ z ∧ z < 256 := by
      rcases hz with rfl | rfl
      · exact hb0.2
      · exact hb1.2
    simp [Lit.wf, IntKind.min, IntKind.max, IntKind.signed, IntKind.bits]; omega
  · obtain ⟨rfl, hB⟩ := h
    refine ⟨_, rfl, ?_⟩
    repeat' (first | refine c_seq ?_ | refine c_list ?_ | refine wp_block ?_ | refine wp_skip ?_ | refine wp_exit ?_ | refine wp_ret ?_ | refine c_normal ?_ | refine c_ret ?_ | refine c_in_normal ?_ | refine c_in_ret ?_ | refine c_in_exit ?_ | refine c_in_other (by rfl) ?_ | refine c_exit ?_ | (first | refine w_list (e_move (v := .int _ _) (by first | rfl | assumption)) ?_ | refine w_list (e_move (v := .slice _ _ _) (by first | rfl | assumption)) ?_ | refine w_list (e_move (v := .bool _) (by first | rfl | assumption)) ?_ | refine w_list (e_move (v := .pointer _) (by first | rfl | assumption)) ?_ | refine w_list (e_move (by rfl)) ?_ | refine w_list (e_assign (v := .int _ _) (by first | rfl | assumption)) ?_ | refine w_list (e_assign (v := .slice _ _ _) (by first | rfl | assumption)) ?_ | refine w_list (e_assign (v := .bool _) (by first | rfl | assumption)) ?_ | refine w_list (e_assign (v := .pointer _) (by first | rfl | assumption)) ?_ | refine w_list (e_assign (by rfl)) ?_ | refine w_nil ?_) | (refine w_undef (by rfl) (by rfl) ?_) | (first | refine c_yes (by first | rfl | assumption) ?_ | refine c_no (by first | rfl | assumption) ?_ | refine c_true (by first | rfl | assumption) (by assumption) ?_ | refine c_false (by first | rfl | assumption) (by assumption) ?_ | refine c_true (by first | rfl | assumption) (by omega) ?_ | refine c_false (by first | rfl | assumption) (by omega) ?_ | (refine c_cond (by first | rfl | assumption) (fun _ => ?_) (fun _ => ?_))))
    refine f_end1 (s := 4) (by kernel_rfl) rfl ?_ _ (.inr rfl)
    refine ⟨?_, below_trans1 hB, hb0.2, hb1.2⟩
    simp [Lib.leZ]; rfl

set_option maxRecDepth 100000 in
theorem ld32 (w : World) (b o m c : Nat) (xs : List Int) (H : Reads w b o m xs) (i : Int) (h0 : 0 ≤ i) (h1 : i + 4 ≤ m) (hmc : m ≤ c) (hc : c ≤ 9223372036854775807) :
    Calls Tryd.prog 92 #[.slice (some ⟨b, o, none⟩) m c, .int .i64 i] w fun e w' => e = .returned (.int .u32 (xs.getD i.toNat 0 + 256 * (xs.getD (i + 1).toNat 0 + 256 * (xs.getD (i + 2).toNat 0 + 256 * xs.getD (i + 3).toNat 0)))) ∧ Below w.heap.size w w' ∧ (0 ≤ xs.getD i.toNat 0 ∧ xs.getD i.toNat 0 < 256) ∧ (0 ≤ xs.getD (i + 1).toNat 0 ∧ xs.getD (i + 1).toNat 0 < 256) ∧ (0 ≤ xs.getD (i + 2).toNat 0 ∧ xs.getD (i + 2).toNat 0 < 256) ∧ (0 ≤ xs.getD (i + 3).toNat 0 ∧ xs.getD (i + 3).toNat 0 < 256) := by
  refine calls_of_fr (fn := Tryd.f92) (by kernel_rfl) (by kernel_rfl) 10 (by kernel_rfl) (by simp) fun g hg => ?_
  have h0' : g 0 = .slice (some ⟨b, o, none⟩) m c := by rw [hg]; rfl
  have h1' : g 1 = .int .i64 i := by rw [hg]; rfl
  conv => arg 2; whnf
  repeat (first | refine c_seq ?_ | refine c_list ?_ | refine wp_block ?_ | refine wp_skip ?_ | refine wp_exit ?_ | refine wp_ret ?_ | refine c_normal ?_ | refine c_ret ?_ | refine c_in_normal ?_ | refine c_in_ret ?_ | refine c_in_exit ?_ | refine c_in_other (by rfl) ?_ | refine c_exit ?_ | (first | refine w_list (e_move (v := .int _ _) (by first | rfl | assumption)) ?_ | refine w_list (e_move (v := .slice _ _ _) (by first | rfl | assumption)) ?_ | refine w_list (e_move (v := .bool _) (by first | rfl | assumption)) ?_ | refine w_list (e_move (v := .pointer _) (by first | rfl | assumption)) ?_ | refine w_list (e_move (by rfl)) ?_ | refine w_list (e_assign (v := .int _ _) (by first | rfl | assumption)) ?_ | refine w_list (e_assign (v := .slice _ _ _) (by first | rfl | assumption)) ?_ | refine w_list (e_assign (v := .bool _) (by first | rfl | assumption)) ?_ | refine w_list (e_assign (v := .pointer _) (by first | rfl | assumption)) ?_ | refine w_list (e_assign (by rfl)) ?_ | refine w_nil ?_))
  refine c_tail 4 mixed (by kernel_rfl) ?_
  refine q_list (e_load0 (by rfl) u132 z132) ?_
  repeat (first | refine q_list (e_move (v := .int _ _) (by first | rfl | assumption)) ?_ | refine q_list (e_move (v := .slice _ _ _) (by first | rfl | assumption)) ?_ | refine q_list (e_move (v := .bool _) (by first | rfl | assumption)) ?_ | refine q_list (e_move (v := .pointer _) (by first | rfl | assumption)) ?_ | refine q_list (e_move (by rfl)) ?_ | refine q_list (e_assign (v := .int _ _) (by first | rfl | assumption)) ?_ | refine q_list (e_assign (v := .slice _ _ _) (by first | rfl | assumption)) ?_ | refine q_list (e_assign (v := .bool _) (by first | rfl | assumption)) ?_ | refine q_list (e_assign (v := .pointer _) (by first | rfl | assumption)) ?_ | refine q_list (e_assign (by rfl)) ?_ | refine q_list (e_slice_ls (by first | rfl | assumption) (by rfl) (by first | exact u2 | exact u3 | exact u5 | exact u21 | exact u26) (by exact z2) (by omega) (by omega) (by omega)) ?_ | refine q_nil ?_)
  have hb0 := H i (by omega) (by omega)
  have hb1 := H (i + 1) (by omega) (by omega)
  have hb2 := H (i + 2) (by omega) (by omega)
  have hb3 := H (i + 3) (by omega) (by omega)
  refine w_call (e_call rfl en104 (args2 rfl rfl)) ?_
  refine (Tryd.binary_LE_Uint32_z ⟨b, o + i.toNat, none⟩ _ _ [xs.getD i.toNat 0, xs.getD (i + 1).toNat 0, xs.getD (i + 2).toNat 0, xs.getD (i + 3).toNat 0] _ (by omega) (by simp) (fun k hk => ?_) (fun z hz => ?_)).mono fun e w' h => ?_
  · simp only [List.length_cons, List.length_nil] at hk
    have h5 : k = 0 ∨ k = 1 ∨ k = 2 ∨ k = 3 := by omega
    rcases h5 with rfl | rfl | rfl | rfl
    · rw [Addr.add_lit, show o + i.toNat + 0 = o + i.toNat by omega]; exact hb0.1
    · rw [Addr.add_lit, show o + i.toNat + 1 = o + (i + 1).toNat by omega]; exact hb1.1
    · rw [Addr.add_lit, show o + i.toNat + 2 = o + (i + 2).toNat by omega]; exact hb2.1
    · rw [Addr.add_lit, show o + i.toNat + 3 = o + (i + 3).toNat by omega]; exact hb3.1
  · simp only [List.mem_cons, List.not_mem_nil, or_false] at hz
    have h5 : 0 ≤ z ∧ z < 256 := by
      rcases hz with rfl | rfl | rfl | rfl
      · exact hb0.2
      · exact hb1.2
      · exact hb2.2
      · exact hb3.2
    simp [Lit.wf, IntKind.min, IntKind.max, IntKind.signed, IntKind.bits]; omega
  · obtain ⟨rfl, hB⟩ := h
    refine ⟨_, rfl, ?_⟩
    repeat' (first | refine c_seq ?_ | refine c_list ?_ | refine wp_block ?_ | refine wp_skip ?_ | refine wp_exit ?_ | refine wp_ret ?_ | refine c_normal ?_ | refine c_ret ?_ | refine c_in_normal ?_ | refine c_in_ret ?_ | refine c_in_exit ?_ | refine c_in_other (by rfl) ?_ | refine c_exit ?_ | (first | refine w_list (e_move (v := .int _ _) (by first | rfl | assumption)) ?_ | refine w_list (e_move (v := .slice _ _ _) (by first | rfl | assumption)) ?_ | refine w_list (e_move (v := .bool _) (by first | rfl | assumption)) ?_ | refine w_list (e_move (v := .pointer _) (by first | rfl | assumption)) ?_ | refine w_list (e_move (by rfl)) ?_ | refine w_list (e_assign (v := .int _ _) (by first | rfl | assumption)) ?_ | refine w_list (e_assign (v := .slice _ _ _) (by first | rfl | assumption)) ?_ | refine w_list (e_assign (v := .bool _) (by first | rfl | assumption)) ?_ | refine w_list (e_assign (v := .pointer _) (by first | rfl | assumption)) ?_ | refine w_list (e_assign (by rfl)) ?_ | refine w_nil ?_) | (refine w_undef (by rfl) (by rfl) ?_) | (first | refine c_yes (by first | rfl | assumption) ?_ | refine c_no (by first | rfl | assumption) ?_ | refine c_true (by first | rfl | assumption) (by assumption) ?_ | refine c_false (by first | rfl | assumption) (by assumption) ?_ | refine c_true (by first | rfl | assumption) (by omega) ?_ | refine c_false (by first | rfl | assumption) (by omega) ?_ | (refine c_cond (by first | rfl | assumption) (fun _ => ?_) (fun _ => ?_))))
    refine f_end1 (s := 4) (by kernel_rfl) rfl ?_ _ (.inr rfl)
    refine ⟨?_, below_trans1 hB, hb0.2, hb1.2, hb2.2, hb3.2⟩
    simp [Lib.leZ]; rfl
end Go.Proofs.YtcpceompoihboaaDoor
