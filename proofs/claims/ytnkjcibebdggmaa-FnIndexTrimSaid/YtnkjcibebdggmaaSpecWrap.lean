/- spec.S2IndexWrap: the same heads around numbers, by the format. -/
import Derived.Test.YtnkjcibebdggmaaRestore
namespace Go.Proofs.Ytnkjcibebdggmaa
open Go.RowKit

set_option maxHeartbeats 1000000 in
theorem specWrap_any (w : World) (p : Option Addr) (n c : Nat) (xs : List Int) (S : SlAt w p n c xs) (hn : 0 < n) (hbd : n ≤ 65536) :
    Calls Try.prog 8 #[.slice p n c] w fun e w' => ∃ v, e = .returned v ∧ w'.ownsRow w.heap.size 5 1 v (n + 20) ((wrapB xs).map (Value.int .u8)) ∧ Below w.heap.size w w' := by
  have hnz : ((n : Int) == 0) = false := by rw [beq_eq_false_iff_ne]; omega
  have hcap := S.cap
  have hbig := S.big
  have hl := S.len
  go_enter Try.func8, Try.ntmps8
  go_wp2_with (at_builtin; refine app_bytes _ _ _ rfl rfl w.heap.size _ 4 [153, ((n : Int) + 10 + 10 - 4) % 256, ((n : Int) + 10 + 10 - 4) / 256 % 256, ((n : Int) + 10 + 10 - 4) / 65536] rfl (World.ownsRow_lit (size := 1) w _ 4 (Nat.le_refl _) (by unfold maxLen; omega) rfl) _ 6 [115, 50, 105, 100, 120, 0] rfl (src_str _ Try.underlying9 _ 6 _ rfl rfl) (by omega) (by simp) ?_; intro v1 w1 hown1 hg1 _; refine stopAt ?_)
  refine Stop.mk ?_
  have B1 := below_app ((Below.refl _ _).alloc (Nat.le_refl _) _) (by simp) (World.ownsRow_lit (size := 1) w _ 4 (Nat.le_refl _) (by unfold maxLen; omega) rfl) hg1
  have z1 := B1.size
  clear hg1
  go_wp2_with (at_builtin; refine app_bytes _ _ _ rfl rfl w.heap.size v1 _ _ rfl hown1 _ n xs rfl ((S.below B1).src Try.underlying22) (by omega) z1 ?_; intro v2 w2 hown2 hg2 _; refine stopAt ?_)
  refine Stop.mk ?_
  have B2 := below_app B1 z1 hown1 hg2
  have z2 := B2.size
  clear hg2 hown1
  go_wp2_with (at_builtin; refine app_bytes _ _ _ rfl rfl w.heap.size v2 _ _ rfl (hown2.alloc _) _ 4 [((n : Int) + 10 + 10) % 256, ((n : Int) + 10 + 10) / 256 % 256, ((n : Int) + 10 + 10) / 65536, ((n : Int) + 10 + 10) / 16777216] rfl (src_new w2 Try.underlying22 [_, _, _, _] _ _ 4 4 rfl) (by omega) (by simp; omega) ?_; intro v3 w3 hown3 hg3 _; refine stopAt ?_)
  refine Stop.mk ?_
  have B3 := below_app (B2.alloc z2 _) (by simp; omega) (hown2.alloc _) hg3
  have z3 := B3.size
  clear hg3 hown2
  go_wp2_with (at_builtin; refine app_bytes _ _ _ rfl rfl w.heap.size v3 _ _ rfl hown3 _ 6 [0, 120, 100, 105, 50, 115] rfl (src_str _ Try.underlying9 _ 6 _ rfl rfl) (by omega) z3 ?_; intro v4 w4 hown4 hg4 _; refine stopAt ?_)
  refine Stop.mk ?_
  have B4 := below_app B3 z3 hown3 hg4
  clear hg4 hown3
  have hN : n + 20 = 4 + 6 + n + 4 + 6 := by omega
  have HN := Lib.hid hN
  have HL := Lib.hid hl
  clear hN hl
  go_wp2
  go_ret
  refine ⟨_, rfl, ?_, B4⟩
  rw [HN.out]
  refine Eq.mp (congrArg _ ?_) hown4
  simp [wrapB, wrapHead, le4, HL.out]
  omega
end Go.Proofs.Ytnkjcibebdggmaa
