/- laws.eq: it tells whether two slices of bytes hold the same. -/
import Derived.Test.YtcpceompoihboaaDoorBase
namespace Go.Proofs.YtcpceompoihboaaDoor
open Go.RowKit

theorem getD_ext (xs ys : List Int) (n : Nat) (hx : xs.length = n) (hy : ys.length = n) (h : ∀ t, t < n → xs.getD t 0 = ys.getD t 0) : xs = ys := by
  refine List.ext_getElem (by omega) fun i h1 h2 => ?_
  have := h i (by omega)
  simpa [List.getD, h1, h2] using this
theorem getD_ne {xs ys : List Int} {t : Nat} (h : ¬ xs.getD t 0 = ys.getD t 0) : xs ≠ ys := fun e => h (by rw [e])

set_option maxHeartbeats 400000 in
theorem eq_any (w : World) (p1 p2 : Option Addr) (n1 c1 n2 c2 : Nat) (xs ys : List Int) (S1 : SlAt w p1 n1 c1 xs) (S2 : SlAt w p2 n2 c2 ys) :
    Calls Tryd.prog 17 #[.slice p1 n1 c1, .slice p2 n2 c2] w fun e w' => e = .returned (.bool (decide (xs = ys))) ∧ ∃ k, w' = w.drewN k := by
  have hb1 : n1 ≤ 9223372036854775807 := Nat.le_trans S1.cap S1.big
  have hb2 : n2 ≤ 9223372036854775807 := Nat.le_trans S2.cap S2.big
  by_cases hn : n1 = n2
  · obtain rfl := hn
    have hne : ((n1 : Int) != (n1 : Int)) = false := by simp
    go_enter Tryd.func17, Tryd.ntmps17
    go_wp2
    go_loopg [13] n1 (fun m i wr => ∃ k : Nat, k ≤ n1 ∧ m = n1 - k ∧ i = .int .i64 k ∧ (∃ j, wr = w.drewN j) ∧ ∀ t, t < k → xs.getD t 0 = ys.getD t 0)
    case atStart => exact ⟨0, Nat.zero_le _, rfl, rfl, ⟨0, rfl⟩, fun t h => absurd h (Nat.not_lt_zero t)⟩
    case round =>
      obtain ⟨k, hk, rfl, rfl, ⟨j, rfl⟩, hall⟩ := hrel
      have HA := Lib.hid hall
      clear hall
      by_cases hlt : k < n1
      · obtain ⟨b1, o1, rfl, _, hc1⟩ := S1.at (by omega)
        obtain ⟨b2, o2, rfl, _, hc2⟩ := S2.at (by omega)
        have h1 := hc1 k hlt
        have h2 := hc2 k hlt
        clear hc1 hc2
        have hki : (k : Int) < (n1 : Int) := by omega
        go_wp2
        go_quiet (fail)
        go_wp2
        · have hne2 : ¬ xs.getD k 0 = ys.getD k 0 := by
            have h : (xs[k]?.getD 0 != ys[k]?.getD 0) = true := by assumption
            simpa [List.getD] using h
          go_ret
          exact ⟨by rw [decide_eq_false (getD_ne hne2)]; rfl, (by first | exact ⟨_, rfl⟩ | exact ⟨_, World.drewN_drewN _ _ _⟩)⟩
        · have heq : xs.getD k 0 = ys.getD k 0 := by
            have h : (xs[k]?.getD 0 != ys[k]?.getD 0) = false := by assumption
            simpa [List.getD] using h
          go_roundg (n1 - (k + 1))
          case measure => omega
          case rel =>
            refine ⟨k + 1, by omega, rfl, by go_num, (by first | exact ⟨_, rfl⟩ | exact ⟨_, World.drewN_drewN _ _ _⟩), fun t ht => ?_⟩
            rcases Nat.lt_succ_iff_lt_or_eq.1 ht with h | rfl
            · exact HA.out t h
            · exact heq
      · go_wp2
        go_ret
        exact ⟨by rw [decide_eq_true (getD_ext xs ys n1 S1.len S2.len (fun t ht => HA.out t (by omega)))]; rfl, j, rfl⟩
  · have hne : ((n1 : Int) != (n2 : Int)) = true := by rw [bne_iff_ne]; omega
    have hd : decide (xs = ys) = false := by
      rw [decide_eq_false_iff_not]; intro e; apply hn; rw [← S1.len, ← S2.len, e]
    have H := Lib.hid hd
    clear hd
    go_enter Tryd.func17, Tryd.ntmps17
    go_wp2
    go_ret
    exact ⟨by rw [H.out]; rfl, 0, rfl⟩
end Go.Proofs.YtcpceompoihboaaDoor
