/- laws.FnS2Head: the walk. -/
import Derived.Test.YtnkjcibebdggmaaDoorDecLen
import Derived.Test.YtnkjcibebdggmaaDoorSentinel
namespace Go.Proofs.YtnkjcibebdggmaaDoor
open Go.RowKit

set_option maxHeartbeats 400000 in
theorem law_head (w : World) (p : Option Addr) (n c : Nat) (xs : List Int) (S : SlAt w p n c xs) (E : LenErr w) :
    Calls Tryd.prog 3 #[.slice p n c] w fun e w' => e = .returned (.bool true) ∧ Below w.heap.size w w' := by
  have hcap := S.cap
  have hbig := S.big
  have hag := len_agree xs S.byt
  have hok := s2len_ok xs.length xs 0 0 (by omega)
  have hs := s2len_any w p n c xs S
  rw [show s2lenFrom xs.length 0 0 xs = s2len xs from rfl] at hok
  generalize s2len xs = t at *
  obtain ⟨v, k, ok⟩ := t
  dsimp only at *
  by_cases h1 : 2147483647 < n
  · have t1 : (2147483647 : Int) < (n : Int) := by omega
    clear hs hag hok
    go_enter Tryd.func3, Tryd.ntmps3
    go_wp2
    go_ret
    exact ⟨rfl, Below.refl _ _⟩
  · have t1 : ¬ (2147483647 : Int) < (n : Int) := by omega
    have HS := Lib.hid hs
    clear hs
    rcases hok with hok | hok | hok
    · have HD := Lib.hid (hag.2 hok)
      clear hag
      obtain rfl := hok
      go_enter Tryd.func3, Tryd.ntmps3
      go_wp2_with fail
      refine HS.out.mono ?_
      rintro e w1 ⟨rfl, rfl⟩
      go_wp2_with fail
      refine (implLen_no _ p n c xs S E HD.out).mono ?_
      rintro e w2 ⟨rfl, B⟩
      go_wp2
      go_ret
      exact ⟨rfl, B⟩
    · have HD := Lib.hid (hag.1 hok)
      clear hag
      obtain rfl := hok
      go_enter Tryd.func3, Tryd.ntmps3
      go_wp2_with fail
      refine HS.out.mono ?_
      rintro e w1 ⟨rfl, rfl⟩
      go_wp2_with fail
      refine (implLen_yes _ p n c xs S v k HD.out).mono ?_
      rintro e w2 ⟨rfl, B⟩
      go_wp2
      go_ret
      exact ⟨by first | rfl | (simp [go_sem]; done), B⟩
    · clear hag
      obtain rfl := hok
      go_enter Tryd.func3, Tryd.ntmps3
      go_wp2_with fail
      refine HS.out.mono ?_
      rintro e w1 ⟨rfl, rfl⟩
      go_wp2
      go_ret
      exact ⟨rfl, Below.refl _ _⟩
end Go.Proofs.YtnkjcibebdggmaaDoor
