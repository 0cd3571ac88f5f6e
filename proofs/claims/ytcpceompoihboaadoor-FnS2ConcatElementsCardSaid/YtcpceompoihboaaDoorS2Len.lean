/- spec.S2Len: the length at the head of a block, by the format. -/
import Derived.Test.YtcpceompoihboaaDoorBase
import Derived.Test.YtcpceompoihboaaDoorBits
import Derived.Deep.Cut
import Derived.Deep.CutBlock
namespace Go.Proofs.YtcpceompoihboaaDoor
open Go.RowKit

/-- S2Len, from the byte i on: n is what the bytes before tell -/
def s2lenFrom (tot : Nat) : Nat → Int → List Int → Int × Int × Int
  | _, _, [] => if 5 < tot then (0, 0, 2) else (0, 0, 0)
  | i, n, b :: r =>
    if i = 10 then (if 5 < tot then (0, 0, 2) else (0, 0, 0)) else
    let n' := if i < 9 ∧ n < 1099511627776 then n + b % 128 * 2 ^ (7 * i) else n
    if 128 ≤ b then s2lenFrom tot (i + 1) n' r
    else if 4294967296 ≤ n' then (0, 0, 0)
    else if 0 < i ∧ b = 0 ∨ 4 < i then (n', (i : Int) + 1, 2)
    else (n', (i : Int) + 1, 1)
def s2len (xs : List Int) : Int × Int × Int := s2lenFrom xs.length 0 0 xs

theorem drop_getD (xs : List Int) (k : Nat) (h : k < xs.length) : xs.drop k = xs.getD k 0 :: xs.drop (k + 1) := by
  rw [List.drop_eq_getElem_cons h]
  simp [List.getD, h]

/-- the number behind a byte -/
def lenNext (i : Nat) (n b : Int) : Int := if i < 9 ∧ n < 1099511627776 then n + b % 128 * 2 ^ (7 * i) else n
theorem s2len_more {tot i : Nat} {n b : Int} {r : List Int} (hi : i < 10) (h : 128 ≤ b) : s2lenFrom tot i n (b :: r) = s2lenFrom tot (i + 1) (lenNext i n b) r := by
  rw [s2lenFrom, if_neg (by omega)]; simp only [if_pos h]; rfl
theorem s2len_no {tot i : Nat} {n b : Int} {r : List Int} (hi : i < 10) (h : b < 128) (h2 : 4294967296 ≤ lenNext i n b) : s2lenFrom tot i n (b :: r) = (0, 0, 0) := by
  unfold lenNext at h2
  rw [s2lenFrom, if_neg (by omega)]; simp only [if_neg (Int.not_le.2 h), if_pos h2]
theorem s2len_open {tot i : Nat} {n b : Int} {r : List Int} (hi : i < 10) (h : b < 128) (h2 : lenNext i n b < 4294967296) (h3 : 0 < i ∧ b = 0 ∨ 4 < i) : s2lenFrom tot i n (b :: r) = (lenNext i n b, (i : Int) + 1, 2) := by
  unfold lenNext at *
  rw [s2lenFrom, if_neg (by omega)]; simp only [if_neg (Int.not_le.2 h), if_neg (Int.not_le.2 h2), if_pos h3]
theorem s2len_yes {tot i : Nat} {n b : Int} {r : List Int} (hi : i < 10) (h : b < 128) (h2 : lenNext i n b < 4294967296) (h3 : ¬ (0 < i ∧ b = 0 ∨ 4 < i)) : s2lenFrom tot i n (b :: r) = (lenNext i n b, (i : Int) + 1, 1) := by
  unfold lenNext at *
  rw [s2lenFrom, if_neg (by omega)]; simp only [if_neg (Int.not_le.2 h), if_neg (Int.not_le.2 h2), if_neg h3]
theorem tuple3 {a b c : Int} {t : Int × Int × Int} (h : t = (a, b, c)) : Ending.returned (.tuple #[.int .i64 a, .int .i64 b, .int .i64 c]) = Ending.returned (.tuple #[.int .i64 t.1, .int .i64 t.2.1, .int .i64 t.2.2]) := by rw [h]

/-- a bound on what the bytes tell, kept small -/
def lenTop : Int := 9151594822560186240

set_option maxRecDepth 100000 in
set_option maxHeartbeats 1000000 in
theorem s2len_any (w : World) (p : Option Addr) (n c : Nat) (xs : List Int) (S : SlAt w p n c xs) :
    Calls Tryd.prog 73 #[.slice p n c] w fun e w' => e = .returned (.tuple #[.int .i64 (s2len xs).1, .int .i64 (s2len xs).2.1, .int .i64 (s2len xs).2.2]) ∧ w = w' := by
  have hcap := S.cap
  have hbig := S.big
  go_enter Tryd.func73, Tryd.ntmps73
  go_wp2
  go_loopg [2, 5] 10 (fun m vn vi wr => ∃ (k : Nat) (acc : Int), k ≤ 10 ∧ k ≤ n ∧ m = 10 - k ∧ vi = .int .i64 k ∧ vn = .int .i64 acc ∧ 0 ≤ acc ∧ acc ≤ lenTop ∧ wr = w ∧ s2len xs = s2lenFrom n k acc (xs.drop k))
  case atStart => exact ⟨0, 0, by omega, by omega, rfl, rfl, rfl, by omega, by unfold lenTop; omega, rfl, by rw [s2len, S.len]; rfl⟩
  case round =>
    obtain ⟨k, acc, hk, hkn, rfl, rfl, rfl, hacc0, hacc, rfl, heq⟩ := hrel
    have HE := Lib.hid heq
    have HA := Lib.hid hacc
    clear heq hacc
    by_cases hlt : k < n
    · by_cases h10 : k < 10
      · obtain ⟨b, o, rfl, _, hc⟩ := S.at (by omega)
        have h1 := hc k hlt
        have hb := S.byt.getD k
        have HD := Lib.hid (drop_getD xs k (by rw [S.len]; exact hlt))
        generalize xs.getD k 0 = x at *
        clear hc S
        have hki : (k : Int) < (n : Int) := by omega
        have hx := i64_and127 x (by omega) (by omega)
        have hp : ((2 : Int) ^ (7 * k)) = ((2 ^ (7 * k) : Nat) : Int) := by rw [Int.natCast_pow]; rfl
        have hN : 0 ≤ lenNext k acc x ∧ lenNext k acc x ≤ lenTop := by
          have := HA.out
          unfold lenNext lenTop at *
          split
          · rename_i h9
            have hp2 : 2 ^ (7 * k) ≤ 2 ^ 56 := Nat.pow_le_pow_right (by omega) (by omega)
            have hp3 : x % 128 * ((2 ^ (7 * k) : Nat) : Int) ≤ 127 * ((2 ^ 56 : Nat) : Int) := Int.mul_le_mul (by omega) (Int.ofNat_le.2 hp2) (Int.natCast_nonneg _) (by omega)
            have hp4 : 0 ≤ x % 128 * ((2 ^ (7 * k) : Nat) : Int) := Int.mul_nonneg (by omega) (Int.natCast_nonneg _)
            rw [hp]
            omega
          · exact ⟨hacc0, this⟩
        have hy : k < 9 ∧ acc < 1099511627776 → wrap64 (acc + wrap64 (bits .and .i64 x 127 * 2 ^ (7 * k))) = lenNext k acc x := by
          intro h9
          have := hN
          have e : lenNext k acc x = acc + x % 128 * 2 ^ (7 * k) := by unfold lenNext; rw [if_pos h9]
          rw [e] at this ⊢
          have t2 : 0 ≤ x % 128 * (2 : Int) ^ (7 * k) := by rw [hp]; exact Int.mul_nonneg (by omega) (Int.natCast_nonneg _)
          unfold lenTop at this
          rw [hx, wrap64_in (x % 128 * 2 ^ (7 * k)) (by omega) (by omega), wrap64_in _ (by omega) (by omega)]
        have hy2 : ¬ (k < 9 ∧ acc < 1099511627776) → acc = lenNext k acc x := fun h => by unfold lenNext; rw [if_neg h]
        have HY := Lib.hid hy
        have HY2 := Lib.hid hy2
        have HN := Lib.hid hN
        clear hx hp hN hy hy2
        have fin : ∀ a b c : Int, s2lenFrom n k acc (x :: xs.drop (k + 1)) = (a, b, c) → s2len xs = (a, b, c) := fun a b c h => by rw [HE.out, HD.out]; exact h
        have FIN := Lib.hid fin
        clear fin
        have hmore := @s2len_more n k acc x (xs.drop (k + 1)) h10
        have hno := @s2len_no n k acc x (xs.drop (k + 1)) h10
        have hopen := @s2len_open n k acc x (xs.drop (k + 1)) h10
        have hyes := @s2len_yes n k acc x (xs.drop (k + 1)) h10
        have MORE := Lib.hid hmore
        have NO := Lib.hid hno
        have OPEN := Lib.hid hopen
        have YES := Lib.hid hyes
        clear hmore hno hopen hyes
        generalize lenNext k acc x = y at *
        have hy0 := HN.out.1
        by_cases h9 : k < 9 ∧ acc < 1099511627776
        · go_upto_if 36 with (fail)
          rw [HY.out h9]
          clear HY HY2
          by_cases c1 : 128 ≤ x
          · go_wp2
            go_roundg (10 - (k + 1))
            case measure => omega
            case rel => exact ⟨k + 1, y, by omega, by omega, rfl, by go_num, rfl, hy0, HN.out.2, rfl, by rw [HE.out, HD.out]; exact MORE.out c1⟩
          · by_cases c2 : 4294967296 ≤ y
            · go_wp2
              go_ret3
              exact ⟨tuple3 (FIN.out _ _ _ (NO.out (by omega) c2)), rfl⟩
            · by_cases c3 : 4 < k
              · go_wp2
                all_goals go_ret3
                all_goals exact ⟨tuple3 (FIN.out _ _ _ (OPEN.out (by omega) (by omega) (Or.inr c3))), rfl⟩
              · by_cases c4 : 0 < k ∧ x = 0
                · obtain ⟨c4, rfl⟩ := c4
                  go_wp2
                  all_goals go_ret3
                  all_goals exact ⟨tuple3 (FIN.out _ _ _ (OPEN.out (by omega) (by omega) (Or.inl ⟨c4, by first | rfl | trivial⟩))), rfl⟩
                · by_cases c5 : 0 < k
                  · have c6 : (x == 0) = false := by rw [beq_eq_false_iff_ne]; exact fun h => c4 ⟨c5, h⟩
                    go_wp2
                    all_goals go_ret3
                    all_goals exact ⟨tuple3 (FIN.out _ _ _ (YES.out (by omega) (by omega) (by omega))), rfl⟩
                  · go_wp2
                    all_goals go_ret3
                    all_goals exact ⟨tuple3 (FIN.out _ _ _ (YES.out (by omega) (by omega) (by omega))), rfl⟩
        · obtain rfl := HY2.out h9
          have h9' : k < 9 → 1099511627776 ≤ acc := fun h => Int.not_lt.1 (fun h' => h9 ⟨h, h'⟩)
          have H9 := Lib.hid h9'
          clear h9 h9'
          by_cases h8 : k < 9
          all_goals
            have h7 := H9.out
            first | (have h6 := h7 h8; clear h7) | clear h7
            go_upto_if 36 with (fail)
            clear HY HY2
            by_cases c1 : 128 ≤ x
            · go_wp2
              go_roundg (10 - (k + 1))
              case measure => omega
              case rel => exact ⟨k + 1, acc, by omega, by omega, rfl, by go_num, rfl, hy0, HN.out.2, rfl, by rw [HE.out, HD.out]; exact MORE.out c1⟩
            · by_cases c2 : 4294967296 ≤ acc
              · go_wp2
                go_ret3
                exact ⟨tuple3 (FIN.out _ _ _ (NO.out (by omega) c2)), rfl⟩
              · by_cases c3 : 4 < k
                · go_wp2
                  all_goals go_ret3
                  all_goals exact ⟨tuple3 (FIN.out _ _ _ (OPEN.out (by omega) (by omega) (Or.inr c3))), rfl⟩
                · by_cases c4 : 0 < k ∧ x = 0
                  · obtain ⟨c4, rfl⟩ := c4
                    go_wp2
                    all_goals go_ret3
                    all_goals exact ⟨tuple3 (FIN.out _ _ _ (OPEN.out (by omega) (by omega) (Or.inl ⟨c4, by first | rfl | trivial⟩))), rfl⟩
                  · by_cases c5 : 0 < k
                    · have c6 : (x == 0) = false := by rw [beq_eq_false_iff_ne]; exact fun h => c4 ⟨c5, h⟩
                      go_wp2
                      all_goals go_ret3
                      all_goals exact ⟨tuple3 (FIN.out _ _ _ (YES.out (by omega) (by omega) (by omega))), rfl⟩
                    · go_wp2
                      all_goals go_ret3
                      all_goals exact ⟨tuple3 (FIN.out _ _ _ (YES.out (by omega) (by omega) (by omega))), rfl⟩
      · have h10' : k = 10 := by omega
        have e1 : s2len xs = (if 5 < n then (0, 0, 2) else (0, 0, 0)) := by
          rw [HE.out]
          cases hd : xs.drop k with
          | nil => rfl
          | cons b r => rw [s2lenFrom, if_pos h10']
        have E1 := Lib.hid e1
        clear e1 h10'
        go_wp2
        all_goals go_ret3
        all_goals first | exact ⟨tuple3 (by rw [E1.out, if_pos (by omega)]), rfl⟩ | exact ⟨tuple3 (by rw [E1.out, if_neg (by omega)]), rfl⟩
    · have e1 : s2len xs = (if 5 < n then (0, 0, 2) else (0, 0, 0)) := by
        rw [HE.out, List.drop_of_length_le (by rw [S.len]; omega)]
        rfl
      have E1 := Lib.hid e1
      clear e1
      go_wp2
      all_goals go_ret3
      all_goals first | exact ⟨tuple3 (by rw [E1.out, if_pos (by omega)]), rfl⟩ | exact ⟨tuple3 (by rw [E1.out, if_neg (by omega)]), rfl⟩
end Go.Proofs.YtcpceompoihboaaDoor
