/- laws.FnIndexWrap: the walk. -/
import Derived.Test.YtnkjcibebdggmaaSpecWrap
import Derived.Test.YtnkjcibebdggmaaCopied
import Derived.Test.YtnkjcibebdggmaaEq
namespace Go.Proofs.Ytnkjcibebdggmaa
open Go.RowKit

theorem byt_mod (x : Int) (m : Int) (h : 0 < m) (h2 : m ≤ 256) : 0 ≤ x % m ∧ x % m < 256 := by
  have := Int.emod_nonneg x (by omega : m ≠ 0)
  have := Int.emod_lt_of_pos x h
  omega
theorem byt_wrapB {xs : List Int} (h : Byt xs) : Byt (wrapB xs) := by
  unfold wrapB wrapHead le4
  refine Byt.append (Byt.append (Byt.append (Byt.append ?_ ?_) h) ?_) ?_
  all_goals (intro x hx; simp only [List.mem_cons, List.not_mem_nil, or_false] at hx; omega)

theorem implRestore_any (w : World) (p : Option Addr) (n c : Nat) (xs : List Int) (S : SlAt w p n c xs) (hn : 0 < n) (hbd : n ≤ 65536) :
    Calls Try.prog 7 #[.slice p n c] w fun e w' => ∃ v, e = .returned v ∧ w'.ownsRow w.heap.size 5 1 v (n + 20) ((wrapB xs).map (Value.int .u8)) ∧ Below w.heap.size w w' := by
  go_enter Try.func7, Try.ntmps7
  go_wp2_with fail
  refine (restore_any w p n c xs S hn hbd).mono ?_
  rintro e w1 ⟨v1, rfl, hown1, B1⟩
  obtain ⟨p1, c1, rfl, S1, hp1⟩ := own_slAt hown1 (byt_wrapB S.byt)
  have z1 := B1.size
  clear hown1
  go_wp2_with fail
  refine (copied_any w1 p1 (n + 20) c1 _ S1 (by omega)).mono ?_
  rintro e w2 ⟨v2, rfl, hown2, B2⟩
  go_wp2
  go_ret
  exact ⟨_, rfl, own_mono hown2 z1, B1.trans (B2.mono z1)⟩

set_option maxHeartbeats 400000 in
theorem law_wrap (w : World) (p : Option Addr) (n c : Nat) (xs : List Int) (S : SlAt w p n c xs) :
    Calls Try.prog 3 #[.slice p n c] w fun e w' => e = .returned (.bool true) ∧ Below w.heap.size w w' := by
  have hcap := S.cap
  have hbig := S.big
  by_cases h1 : 2147483647 < n
  · have t1 : (2147483647 : Int) < (n : Int) := by omega
    go_enter Try.func3, Try.ntmps3
    go_wp2
    go_ret
    exact ⟨rfl, Below.refl _ _⟩
  · have t1 : ¬ (2147483647 : Int) < (n : Int) := by omega
    by_cases h2 : n < 1
    · go_enter Try.func3, Try.ntmps3
      go_wp2
      go_ret
      exact ⟨rfl, Below.refl _ _⟩
    · by_cases h3 : 65536 < n
      · go_enter Try.func3, Try.ntmps3
        go_wp2
        go_ret
        exact ⟨rfl, Below.refl _ _⟩
      · go_enter Try.func3, Try.ntmps3
        go_wp2_with fail
        refine (implRestore_any w p n c xs S (by omega) (by omega)).mono ?_
        rintro e w1 ⟨v1, rfl, hown1, B1⟩
        obtain ⟨p1, c1, rfl, S1, _⟩ := own_slAt hown1 (byt_wrapB S.byt)
        have z1 := B1.size
        clear hown1
        go_wp2_with fail
        refine (specWrap_any w1 p n c xs (S.below B1) (by omega) (by omega)).mono ?_
        rintro e w2 ⟨v2, rfl, hown2, B2⟩
        obtain ⟨p2, c2, rfl, S2, _⟩ := own_slAt hown2 (byt_wrapB S.byt)
        clear hown2
        go_wp2_with fail
        refine (eq_any w2 p1 p2 _ c1 _ c2 _ _ (S1.below B2) S2).mono ?_
        rintro e w3 ⟨rfl, k, rfl⟩
        go_wp2
        go_ret
        exact ⟨rfl, (B1.trans (B2.mono z1)).trans (below_drewN' _ _ _)⟩
end Go.Proofs.Ytnkjcibebdggmaa
