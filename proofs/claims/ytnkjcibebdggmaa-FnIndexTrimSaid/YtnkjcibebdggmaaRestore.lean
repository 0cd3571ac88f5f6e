/- s2.RestoreIndexHeaders: heads around numbers. -/
import Derived.Test.YtnkjcibebdggmaaPut32
import Derived.StillTailTactics
import Derived.Deep.DeepMust
import Derived.Lib.SlBytesConst
namespace Go.Proofs.Ytnkjcibebdggmaa
open Go.RowKit

def wrapHead (n : Nat) : List Int := [153, ((n : Int) - 4) % 256, ((n : Int) - 4) / 256 % 256, ((n : Int) - 4) / 65536 % 256]
def le4 (n : Nat) : List Int := [(n : Int) % 256, (n : Int) / 256 % 256, (n : Int) / 65536 % 256, (n : Int) / 16777216 % 256]
/-- what S2IndexWrap and RestoreIndexHeaders make of numbers -/
def wrapB (xs : List Int) : List Int :=
  wrapHead (xs.length + 20) ++ [115, 50, 105, 100, 120, 0] ++ xs ++ le4 (xs.length + 20) ++ [0, 120, 100, 105, 50, 115]

set_option maxHeartbeats 1000000 in
theorem restore_any (w : World) (p : Option Addr) (n c : Nat) (xs : List Int) (S : SlAt w p n c xs) (hn : 0 < n) (hbd : n ≤ 65536) :
    Calls Try.prog 12 #[.slice p n c] w fun e w' => ∃ v, e = .returned v ∧ w'.ownsRow w.heap.size 5 1 v (n + 20) ((wrapB xs).map (Value.int .u8)) ∧ Below w.heap.size w w' := by
  obtain ⟨i0, hi, hz0, hz1, hz2⟩ := info_parts info8
  have hnz : ((n : Int) == 0) = false := by rw [beq_eq_false_iff_ne]; omega
  have hcap := S.cap
  have hbig := S.big
  have kc := fun (w : World) (C : Array Value) (n c : Nat) => Lib.run_convert_bytes_const (P := Try.prog) w 22 5 C n c Try.underlying22 Try.underlying5
  go_enter Try.func12, Try.ntmps12
  go_wp2_with (at_make; refine wpList_make_own _ rfl _ _ _ rfl w.heap.size 5 i0 (.int .u8 0) 1 Try.underlying22 hi hz0 hz1 .i64 .i64 _ (n + 20) rfl rfl ?e1 ?b1 ?b2 ?b3 ?_)
  case e1 => omega
  case b1 => rw [hz2]; omega
  case b2 => unfold maxLen; omega
  case b3 => omega
  intro w1 hown1 hg1
  have B1 : Below w.heap.size w w1 := (Below.refl _ _).grown hg1 (Nat.le_refl _) (fun k hk => by cases hk)
  have z1 := B1.size
  clear hg1
  go_wp2_with (at_builtin; refine app_bytes _ _ _ rfl rfl w.heap.size _ 0 [] rfl (hown1.alloc _) _ 4 [153, 0, 0, 0] rfl (src_new w1 Try.underlying22 [153, 0, 0, 0] _ _ 4 4 rfl) (by omega) (by simp; omega) ?_; intro v2 w2 hown2 hg2 _; refine stopAt ?_)
  refine Stop.mk ?_
  have B2 := below_app (B1.alloc z1 _) (by simp; omega) (hown1.alloc _) hg2
  have z2 := B2.size
  clear hg2 hown1
  go_wp2_with (at_builtin; refine app_bytes _ _ _ rfl rfl w.heap.size v2 4 [153, 0, 0, 0] rfl (hown2.alloc _) _ 6 [115, 50, 105, 100, 120, 0] rfl (src_new w2 Try.underlying22 [115, 50, 105, 100, 120, 0] _ _ 6 6 rfl) (by omega) (by simp; omega) ?_; intro v3 w3 hown3 hg3 _; refine stopAt ?_)
  refine Stop.mk ?_
  have B3 := below_app (B2.alloc z2 _) (by simp; omega) (hown2.alloc _) hg3
  have z3 := B3.size
  clear hg3 hown2
  go_wp2_with (at_builtin; refine app_bytes _ _ _ rfl rfl w.heap.size v3 10 [153, 0, 0, 0, 115, 50, 105, 100, 120, 0] rfl hown3 _ n xs rfl ((S.below B3).src Try.underlying22) (by omega) z3 ?_; intro v4 w4 hown4 hg4 _; refine stopAt ?_)
  refine Stop.mk ?_
  have B4 := below_app B3 z3 hown3 hg4
  have z4 := B4.size
  clear hg4 hown3
  obtain ⟨p4, c4, rfl⟩ := own_form hown4
  go_wp2_with fail
  go_still_tail 7, (by kernel_rfl)
  go_wp2_with fail
  simp (disch := omega) only [IntWalk.i64_in, IntWalk.u32_in]
  refine (put32_any w4.heap.size (10 + (n : Int) + 4 + 6) (by omega) (by omega) _ (.int .u8 0) (.int .u8 0) (.int .u8 0) (.int .u8 0) 29 ?hb).mono ?_
  case hb => exact heap_alloc_new w4 _
  rintro e w5 ⟨rfl, hb5, hg5⟩
  have HB5 := Lib.hid hb5
  have B45 : Below w4.heap.size w4 w5 := (((Below.refl _ _).alloc (Nat.le_refl _) _).drew).grown hg5 (by simp) (fun k hk => by have := Option.some.inj hk; omega)
  have hown5 := own_below hown4 B45
  have B5 := B4.trans (B45.mono z4)
  have z5 := B5.size
  have z45 := blk_lt hb5
  clear hb5 hg5 hown4
  go_wp2_with (at_builtin; refine app_bytes _ _ _ rfl rfl w.heap.size _ (10 + n) ([153, 0, 0, 0, 115, 50, 105, 100, 120, 0] ++ xs) rfl hown5 _ 4 [(10 + (n : Int) + 4 + 6) % 256, (10 + (n : Int) + 4 + 6) / 256 % 256, (10 + (n : Int) + 4 + 6) / 65536 % 256, (10 + (n : Int) + 4 + 6) / 16777216] rfl (src_blk w5 Try.underlying22 w4.heap.size _ [] _ _ 4 4 rfl HB5.out) (by omega) z5 ?_; intro v6 w6 hown6 hg6 _; refine stopAt ?_)
  refine Stop.mk ?_
  have B6 := below_app B5 z5 hown5 hg6
  have z6 := B6.size
  clear hg6 hown5
  go_wp2_with (at_builtin; refine app_bytes _ _ _ rfl rfl w.heap.size v6 _ _ rfl (hown6.alloc _) _ 6 [0, 120, 100, 105, 50, 115] rfl (src_new w6 Try.underlying22 [0, 120, 100, 105, 50, 115] _ _ 6 6 rfl) (by omega) (by simp; omega) ?_; intro v7 w7 hown7 hg7 hne7; refine stopAt ?_)
  refine Stop.mk ?_
  have B7 := below_app (B6.alloc z6 _) (by simp; omega) (hown6.alloc _) hg7
  have z7 := B7.size
  clear hg7 hown6
  obtain ⟨g, c7, rfl, hBg, hg7, hc7, hcell, hfr⟩ := own_at hown7 (hne7 (by omega))
  have cell1 := hcell 1 (by omega)
  have cell2 := hcell 2 (by omega)
  have cell3 := hcell 3 (by omega)
  have fr1 := hfr 1
  have fr2 := hfr 2
  have fr3 := hfr 3
  clear hcell hfr hne7
  go_wp2
  go_ret
  have hs := (((hown7.stored 1 (.int .u8 ((10 + (n : Int) + 4 + 6 - 4) % 256))).1.stored 2 (.int .u8 ((10 + (n : Int) + 4 + 6 - 4) / 256 % 256))).1.stored 3 (.int .u8 ((10 + (n : Int) + 4 + 6 - 4) / 65536))).1
  have hl := S.len
  have hN : n + 20 = 10 + n + 4 + 6 := by omega
  refine ⟨_, rfl, ?_, ?_⟩
  · rw [hN]
    refine Eq.mp (congrArg _ ?_) hs
    simp [wrapB, wrapHead, le4, hl]
    omega
  · exact ((B7.setCell hBg _).setCell hBg _).setCell hBg _
end Go.Proofs.Ytnkjcibebdggmaa
