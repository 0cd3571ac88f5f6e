/- impl.copied: it gives a copy of a slice of bytes, in memory of its own. -/
import Derived.Test.YtcpceompoihboaaDoorOwn
namespace Go.Proofs.YtcpceompoihboaaDoor
open Go.RowKit

set_option maxHeartbeats 400000 in
theorem copied_any (w : World) (p : Option Addr) (n c : Nat) (xs : List Int) (S : SlAt w p n c xs) (hbd : n ≤ 140737488355328) :
    Calls Tryd.prog 35 #[.slice p n c] w fun e w' => ∃ v, e = .returned v ∧ w'.ownsRow w.heap.size 5 1 v n (xs.map (Value.int .u8)) ∧ Below w.heap.size w w' := by
  go_enter Tryd.func35, Tryd.ntmps35
  go_wp2_with (at_builtin; refine app_bytes _ _ _ rfl rfl w.heap.size _ 0 [] rfl ?own _ n xs rfl ?src ?b1 ?b2 ?_)
  case own => exact World.ownsRow_lit w #[] 0 (Nat.le_refl _) (by unfold maxLen; omega) rfl
  case src => exact (S.below ((Below.refl _ _).alloc (Nat.le_refl _) _)).src Tryd.underlying26
  case b1 => omega
  case b2 => simp
  intro v w1 hown hg hne
  go_wp2
  go_ret
  refine ⟨v, rfl, by simpa using hown, ?_⟩
  exact ((Below.refl _ _).alloc (Nat.le_refl _) _).grown hg (by simp) (fun k hk => by simp [Value.ownBlock] at hk; omega)
end Go.Proofs.YtcpceompoihboaaDoor
