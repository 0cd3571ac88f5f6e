/- What the format says of a block's head, held against encoding/binary's Uvarint: plain lists, no program. -/
import Derived.Test.YtcpceompoihboaaDoorS2Len
import Derived.Lib.VarintDec
import Derived.Lib.Bytes
namespace Go.Proofs.YtcpceompoihboaaDoor

theorem bytesOf_toNat {x : Int} (h0 : 0 ≤ x) (h1 : x < 256) : (UInt8.ofNat x.toNat).toNat = x.toNat := by
  rw [UInt8.toNat_ofNat']; omega

theorem s2len_ge5 (tot : Nat) : ∀ (l : List Int) (i : Nat) (n : Int), 5 ≤ i → i ≤ 10 → (s2lenFrom tot i n l).2.2 ≠ 1
  | [], i, n, _, _ => by simp only [s2lenFrom]; split <;> decide
  | b :: r, i, n, hi, hi2 => by
    by_cases h10 : i = 10
    · rw [s2lenFrom, if_pos h10]; split <;> decide
    · by_cases h1 : 128 ≤ b
      · rw [s2len_more (by omega) h1]; exact s2len_ge5 tot r (i + 1) _ (by omega) (by omega)
      · by_cases h2 : 4294967296 ≤ lenNext i n b
        · rw [s2len_no (by omega) (by omega) h2]; simp
        · rw [s2len_open (by omega) (by omega) (by omega) (Or.inr (by omega))]; simp
theorem uv_ge5 : ∀ (l : List UInt8) (i acc : Nat), 5 ≤ i → (Lib.uvarintFrom i acc l).2 ≤ 0 ∨ 5 < (Lib.uvarintFrom i acc l).2
  | [], i, acc, _ => by simp [Lib.uvarintFrom]
  | b :: r, i, acc, hi => by
    simp only [Lib.uvarintFrom]
    by_cases h10 : i = 10
    · rw [if_pos h10]; exact Or.inl (by omega)
    · rw [if_neg h10]
      split
      · split
        · exact Or.inl (by dsimp only; omega)
        · exact Or.inr (by dsimp only; omega)
      · exact uv_ge5 r (i + 1) _ (by omega)

/-- the head is told: the length, and how many bytes -/
def dlen (xs : List Int) : Option (Int × Int) :=
  let d := Lib.uvarintDec (Lib.bytesOf xs)
  if 0 < d.2 ∧ d.2 ≤ 5 ∧ (d.1 : Int) ≤ 4294967295 then some ((d.1 : Int), d.2) else none

theorem agree_from (tot : Nat) : ∀ (l : List Int) (i : Nat) (n : Nat), i ≤ 5 → n < 2 ^ (7 * i) → Byt l →
    ((s2lenFrom tot i n l).2.2 = 1 → (((Lib.uvarintFrom i n (Lib.bytesOf l)).1 : Int) = (s2lenFrom tot i n l).1 ∧ (Lib.uvarintFrom i n (Lib.bytesOf l)).2 = (s2lenFrom tot i n l).2.1 ∧
      0 < (s2lenFrom tot i n l).2.1 ∧ (s2lenFrom tot i n l).2.1 ≤ 5 ∧ (s2lenFrom tot i n l).1 ≤ 4294967295)) ∧
    ((s2lenFrom tot i n l).2.2 = 0 → ¬ (0 < (Lib.uvarintFrom i n (Lib.bytesOf l)).2 ∧ (Lib.uvarintFrom i n (Lib.bytesOf l)).2 ≤ 5 ∧ ((Lib.uvarintFrom i n (Lib.bytesOf l)).1 : Int) ≤ 4294967295))
  | [], i, n, hi, hn, hb => by
    constructor
    · intro h
      simp only [s2lenFrom] at h
      split at h <;> simp at h
    · intro _
      simp [Lib.bytesOf, Lib.uvarintFrom]
  | b :: r, i, n, hi, hn, hb => by
    obtain ⟨hb0, hb1⟩ := hb b (List.mem_cons_self ..)
    have hr : Byt r := fun x hx => hb x (List.mem_cons_of_mem _ hx)
    by_cases h5 : i = 5
    · have h1 := s2len_ge5 tot (b :: r) i n (by omega) (by omega)
      have h2 := uv_ge5 (Lib.bytesOf (b :: r)) i n (by omega)
      exact ⟨fun h => absurd h h1, fun _ => by omega⟩
    · have hpow : 2 ^ (7 * i) ≤ 2 ^ 28 := Nat.pow_le_pow_right (by omega) (by omega)
      have hn' : (n : Int) < 1099511627776 := by omega
      have he : (Lib.bytesOf (b :: r)) = UInt8.ofNat b.toNat :: Lib.bytesOf r := rfl
      have hbt := bytesOf_toNat hb0 hb1
      rw [he]
      simp only [s2lenFrom, Lib.uvarintFrom]
      rw [if_neg (by omega : ¬ i = 10), if_neg (by omega : ¬ i = 10), if_pos (⟨by omega, hn'⟩ : i < 9 ∧ (n : Int) < 1099511627776), hbt]
      have hc : (n : Int) + b % 128 * 2 ^ (7 * i) = ((n + b.toNat % 128 * 2 ^ (7 * i) : Nat) : Int) := by
        rw [Int.natCast_add, Int.natCast_mul, Int.natCast_pow]
        have : ((b.toNat % 128 : Nat) : Int) = b % 128 := by omega
        rw [this]
        rfl
      rw [hc]
      by_cases h1 : 128 ≤ b
      · rw [if_pos h1, if_neg (by omega : ¬ b.toNat < 128)]
        refine agree_from tot r (i + 1) _ (by omega) ?_ hr
        have : b.toNat % 128 ≤ 127 := by omega
        have h2 : b.toNat % 128 * 2 ^ (7 * i) ≤ 127 * 2 ^ (7 * i) := Nat.mul_le_mul_right _ this
        have h3 : 2 ^ (7 * (i + 1)) = 128 * 2 ^ (7 * i) := by rw [show 7 * (i + 1) = 7 + 7 * i by omega, Nat.pow_add]
        omega
      · rw [if_neg h1, if_pos (by omega : b.toNat < 128), if_neg (by omega : ¬ (i = 9 ∧ 1 < b.toNat))]
        have hm : b.toNat % 128 = b.toNat := by omega
        rw [hm]
        by_cases h2 : 4294967296 ≤ ((n + b.toNat * 2 ^ (7 * i) : Nat) : Int)
        · rw [if_pos h2]
          exact ⟨fun h => by simp at h, fun _ => by dsimp only; omega⟩
        · rw [if_neg h2]
          by_cases h3 : 0 < i ∧ b = 0 ∨ 4 < i
          · rw [if_pos h3]
            exact ⟨fun h => by simp at h, fun h => by simp at h⟩
          · rw [if_neg h3]
            refine ⟨fun _ => ⟨rfl, rfl, by dsimp only; omega, by dsimp only; omega, by dsimp only; omega⟩, (fun h => by simp at h)⟩

theorem len_agree (xs : List Int) (hb : Byt xs) : ((s2len xs).2.2 = 1 → dlen xs = some ((s2len xs).1, (s2len xs).2.1)) ∧ ((s2len xs).2.2 = 0 → dlen xs = none) := by
  have h := agree_from xs.length xs 0 0 (by omega) (by decide) hb
  unfold s2len dlen
  refine ⟨fun h1 => ?_, fun h0 => ?_⟩
  · obtain ⟨a1, a2, a3, a4, a5⟩ := h.1 h1
    show (if 0 < (Lib.uvarintFrom 0 0 (Lib.bytesOf xs)).2 ∧ (Lib.uvarintFrom 0 0 (Lib.bytesOf xs)).2 ≤ 5 ∧ ((Lib.uvarintFrom 0 0 (Lib.bytesOf xs)).1 : Int) ≤ 4294967295 then some (((Lib.uvarintFrom 0 0 (Lib.bytesOf xs)).1 : Int), (Lib.uvarintFrom 0 0 (Lib.bytesOf xs)).2) else none) = _
    rw [a1, a2, if_pos ⟨a3, a4, a5⟩]
    rfl
  · show (if 0 < (Lib.uvarintFrom 0 0 (Lib.bytesOf xs)).2 ∧ (Lib.uvarintFrom 0 0 (Lib.bytesOf xs)).2 ≤ 5 ∧ ((Lib.uvarintFrom 0 0 (Lib.bytesOf xs)).1 : Int) ≤ 4294967295 then some (((Lib.uvarintFrom 0 0 (Lib.bytesOf xs)).1 : Int), (Lib.uvarintFrom 0 0 (Lib.bytesOf xs)).2) else none) = _
    rw [if_neg (h.2 h0)]
/-- what S2Len tells is one of three -/
theorem s2len_ok (tot : Nat) : ∀ (l : List Int) (i : Nat) (n : Int), i ≤ 10 → (s2lenFrom tot i n l).2.2 = 0 ∨ (s2lenFrom tot i n l).2.2 = 1 ∨ (s2lenFrom tot i n l).2.2 = 2
  | [], i, n, _ => by simp only [s2lenFrom]; split <;> simp
  | b :: r, i, n, hi => by
    by_cases h10 : i = 10
    · rw [s2lenFrom, if_pos h10]; split <;> simp
    · by_cases h1 : 128 ≤ b
      · rw [s2len_more (by omega) h1]; exact s2len_ok tot r (i + 1) _ (by omega)
      · by_cases h2 : 4294967296 ≤ lenNext i n b
        · rw [s2len_no (by omega) (by omega) h2]; simp
        · by_cases h3 : 0 < i ∧ b = 0 ∨ 4 < i
          · rw [s2len_open (by omega) (by omega) (by omega) h3]; simp
          · rw [s2len_yes (by omega) (by omega) (by omega) h3]; simp
end Go.Proofs.YtcpceompoihboaaDoor
