/- s2.MaxEncodedLen and laws.FnS2MaxLen: the walks. -/
import Derived.Test.YtnkjcibebdggmaaBase
import Derived.Test.YtnkjcibebdggmaaShelf
namespace Go.Proofs.Ytnkjcibebdggmaa
open Go.RowKit

/-- literalExtraSize -/
def les (n : Int) : Int := if n = 0 then 0 else if n < 60 then 1 else if n < 256 then 2 else if n < 65536 then 3 else if n < 16777216 then 4 else 5
theorem les_bd (n : Int) : 0 ≤ les n ∧ les n ≤ 5 := by unfold les; repeat' split <;> try omega

set_option maxHeartbeats 400000 in
theorem les_any (n : Int) (w : World) (h0 : 0 ≤ n) (h1 : n ≤ 4294967295) :
    Calls Try.prog 17 #[.int .i64 n] w fun e w' => e = .returned (.int .i64 (les n)) ∧ w = w' := by
  have hles : ∀ k : Int, les n = k → Ending.returned (.int .i64 k) = Ending.returned (.int .i64 (les n)) := fun k h => by rw [h]
  go_enter Try.func17, Try.ntmps17
  go_wp2
  all_goals go_ret
  · have h : (n == 0) = true := by assumption
    have h' : n = 0 := by simpa using h
    exact ⟨hles _ (by rw [les, if_pos h']), rfl⟩
  all_goals
    have h : (n == 0) = false := by assumption
    have h' : ¬ n = 0 := by simpa using h
  · exact ⟨hles _ (by rw [les, if_neg h', if_pos (by assumption)]), rfl⟩
  · exact ⟨hles _ (by rw [les, if_neg h', if_neg (by omega), if_pos (by assumption)]), rfl⟩
  · exact ⟨hles _ (by rw [les, if_neg h', if_neg (by omega), if_neg (by omega), if_pos (by assumption)]), rfl⟩
  · exact ⟨hles _ (by rw [les, if_neg h', if_neg (by omega), if_neg (by omega), if_neg (by omega), if_pos (by assumption)]), rfl⟩
  · exact ⟨hles _ (by rw [les, if_neg h', if_neg (by omega), if_neg (by omega), if_neg (by omega), if_neg (by omega)]), rfl⟩

/-- the bits of a number -/
def bl (n : Int) : Int := (Lib.bitLen n.toNat : Int)

/-- MaxEncodedLen -/
def melBody (n : Int) : Int := n + (bl n + 7) / 7 + les n
def mel (n : Int) : Int := if n < 0 ∨ 4294967295 < n then -1 else if 4294967295 < melBody n then -1 else melBody n
theorem bl_bd (n : Int) (h0 : 0 ≤ n) (h1 : n ≤ 4294967295) : 0 ≤ bl n ∧ bl n ≤ 32 := by
  have := Lib.bitLen_le n.toNat 32 (by omega) (by omega)
  exact ⟨by unfold bl; omega, by unfold bl; omega⟩
theorem blAux_mono : ∀ (f a b : Nat), a ≤ b → Lib.bitLenAux f a ≤ Lib.bitLenAux f b
  | 0, _, _, _ => Nat.le_refl _
  | f + 1, a, b, h => by
    simp only [Lib.bitLenAux]
    have := blAux_mono f (a / 2) (b / 2) (by omega)
    split <;> split <;> omega
theorem bl_mono (a b : Int) (h : a ≤ b) : bl a ≤ bl b := by
  have := blAux_mono 64 a.toNat b.toNat (by omega)
  unfold bl Lib.bitLen
  omega
theorem les_mono (a b : Int) (h0 : 0 ≤ a) (h : a ≤ b) : les a ≤ les b := by
  unfold les
  repeat' split
  all_goals omega

set_option maxHeartbeats 400000 in
theorem mel_any (n : Int) (w : World) (h0 : -9223372036854775808 ≤ n) (h1 : n ≤ 9223372036854775807) :
    Calls Try.prog 13 #[.int .i64 n] w fun e w' => e = .returned (.int .i64 (mel n)) ∧ w = w' := by
  by_cases hn : n < 0
  · have hw : 4294967295 < IntKind.u64.wrap n := by rw [IntKind.wrap_u64]; omega
    have hm : Ending.returned (.int .i64 (-1)) = Ending.returned (.int .i64 (mel n)) := by rw [mel, if_pos (Or.inl hn)]
    go_enter Try.func13, Try.ntmps13
    go_wp2
    go_ret
    exact ⟨hm, rfl⟩
  · by_cases hb : 4294967295 < n
    · have hm : Ending.returned (.int .i64 (-1)) = Ending.returned (.int .i64 (mel n)) := by rw [mel, if_pos (Or.inr hb)]
      go_enter Try.func13, Try.ntmps13
      go_wp2
      go_ret
      exact ⟨hm, rfl⟩
    · have b1 := bl_bd n (by omega) (by omega)
      have b2 := les_bd n
      have hc : ∀ w, Calls Try.prog 16 #[.int .u64 n] w fun e w' => e = .returned (.int .i64 (bl n)) ∧ w = w' := fun w =>
        (Try.bits_Len64 n w (by omega) (by omega)).mono fun e w' h => ⟨h.1, h.2.symm⟩
      have HC := Lib.hid hc
      clear hc
      go_enter Try.func13, Try.ntmps13
      go_wp2_with fail
      refine (HC.out _).mono ?_
      rintro e w' ⟨rfl, rfl⟩
      go_wp2_with fail
      refine (les_any n _ (by omega) (by omega)).mono ?_
      rintro e w' ⟨rfl, rfl⟩
      go_wp2
      all_goals go_ret
      · have h : 4294967295 < melBody n := by assumption
        exact ⟨by rw [mel, if_neg (by omega), if_pos h]; rfl, rfl⟩
      · have h : ¬ 4294967295 < melBody n := Int.not_lt.2 (by assumption)
        exact ⟨by rw [mel, if_neg (by omega), if_neg h]; rfl, rfl⟩

theorem bl_top (n : Int) (h : 2147483648 ≤ n) : 32 ≤ bl n := by
  have h1 := bl_mono 2147483648 n h
  have h2 : bl 2147483648 = 32 := by decide +kernel
  omega
theorem mel_big (a : Int) (h : 4294967285 < a) : mel a < 0 := by
  unfold mel
  split
  · omega
  · rename_i h1
    have b1 := bl_top a (by omega)
    have b2 : les a = 5 := by unfold les; repeat' split <;> omega
    rw [if_pos (by unfold melBody; omega)]
    omega
theorem mel_small (a : Int) (h0 : 0 ≤ a) (h : a ≤ 4294967285) : mel a = melBody a ∧ a < melBody a := by
  have b1 := bl_bd a h0 (by omega)
  have b2 := les_bd a
  have b3 : melBody a ≤ 4294967295 := by unfold melBody; omega
  refine ⟨by rw [mel, if_neg (by omega), if_neg (by omega)], by unfold melBody; omega⟩
theorem mel_mono (a b : Int) (h0 : 0 ≤ a) (h : a ≤ b) (hb : b ≤ 4294967285) : mel a ≤ mel b := by
  rw [(mel_small a h0 (by omega)).1, (mel_small b (by omega) hb).1]
  have b1 := bl_mono a b h
  have b2 := les_mono a b h0 h
  unfold melBody
  omega
theorem mel_range (a : Int) (h0 : -9223372036854775808 ≤ a) (h1 : a ≤ 9223372036854775807) : -1 ≤ mel a ∧ mel a ≤ 4294967295 := by
  unfold mel
  split
  · omega
  · split
    · omega
    · rename_i h h'
      have b1 := bl_bd a (by omega) (by omega)
      have b2 := les_bd a
      unfold melBody at *
      omega

theorem implMel_any (n : Int) (w : World) (h0 : -9223372036854775808 ≤ n) (h1 : n ≤ 9223372036854775807) :
    Calls Try.prog 9 #[.int .i64 n] w fun e w' => e = .returned (.int .i64 (mel n)) ∧ w = w' := by
  go_enter Try.func9, Try.ntmps9
  go_wp2_with fail
  refine (mel_any n _ h0 h1).mono ?_
  rintro e w' ⟨rfl, rfl⟩
  go_wp2
  go_ret
  exact ⟨rfl, rfl⟩

set_option maxHeartbeats 400000 in
theorem law_maxlen (a b : Int) (w : World) (h0 : -9223372036854775808 ≤ a) (h1 : a ≤ 9223372036854775807) (h2 : -9223372036854775808 ≤ b) (h3 : b ≤ 9223372036854775807) :
    Calls Try.prog 4 #[.int .i64 a, .int .i64 b] w fun e w' => e = .returned (.bool true) ∧ w = w' := by
  have r1 := mel_range a h0 h1
  have r2 := mel_range b h2 h3
  have f1 : 4294967285 < a → mel a < 0 := mel_big a
  have f2 : 0 ≤ a → a ≤ 4294967285 → a < mel a := fun x y => by have := mel_small a x y; omega
  have f3 : 0 ≤ a → a ≤ b → b ≤ 4294967285 → mel a ≤ mel b := mel_mono a b
  have hx := implMel_any a w h0 h1
  have hy := implMel_any b w h2 h3
  have HX := Lib.hid hx
  have HY := Lib.hid hy
  clear hx hy
  generalize mel a = x at *
  generalize mel b = y at *
  by_cases c1 : a < 0
  · clear f1 f2 f3
    go_enter Try.func4, Try.ntmps4
    go_wp2_with fail
    refine HX.out.mono ?_
    rintro e w' ⟨rfl, rfl⟩
    go_wp2_with fail
    refine HY.out.mono ?_
    rintro e w' ⟨rfl, rfl⟩
    go_wp2
    go_ret
    exact ⟨rfl, rfl⟩
  · by_cases c2 : b < 0
    · clear f1 f2 f3
      go_enter Try.func4, Try.ntmps4
      go_wp2_with fail
      refine HX.out.mono ?_
      rintro e w' ⟨rfl, rfl⟩
      go_wp2_with fail
      refine HY.out.mono ?_
      rintro e w' ⟨rfl, rfl⟩
      go_wp2
      go_ret
      exact ⟨rfl, rfl⟩
    · by_cases c3 : 4294967285 < a
      · have g := f1 c3
        clear f1 f2 f3
        go_enter Try.func4, Try.ntmps4
        go_wp2_with fail
        refine HX.out.mono ?_
        rintro e w' ⟨rfl, rfl⟩
        go_wp2_with fail
        refine HY.out.mono ?_
        rintro e w' ⟨rfl, rfl⟩
        go_wp2
        go_ret
        exact ⟨by first | rfl | (simp [go_sem]; done), rfl⟩
      · have g := f2 (by omega) (by omega)
        have g' : 4294967285 < b ∨ b < a ∨ x ≤ y := by
          by_cases c4 : 4294967285 < b
          · exact Or.inl c4
          · by_cases c5 : b < a
            · exact Or.inr (Or.inl c5)
            · exact Or.inr (Or.inr (f3 (by omega) (by omega) (by omega)))
        clear f1 f2 f3
        rcases g' with g' | g' | g'
        all_goals
          go_enter Try.func4, Try.ntmps4
          go_wp2_with fail
          refine HX.out.mono ?_
          rintro e w' ⟨rfl, rfl⟩
          go_wp2_with fail
          refine HY.out.mono ?_
          rintro e w' ⟨rfl, rfl⟩
          go_wp2
          all_goals go_ret
          all_goals exact ⟨by first | rfl | (simp [go_sem]; done), rfl⟩
end Go.Proofs.Ytnkjcibebdggmaa
