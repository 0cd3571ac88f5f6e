/- s2.DecodedLen and laws.FnS2Head: the walks. -/
import Derived.Test.YtcpceompoihboaaDoorLenLaw
import Derived.Test.YtcpceompoihboaaDoorShelf
import Derived.WalkLawsBesides
import Derived.WalkSpells
namespace Go.Proofs.YtcpceompoihboaaDoor
open Go.RowKit

theorem bytesOf_get (xs : List Int) (hb : Byt xs) (j : Nat) (hj : j < (Lib.bytesOf xs).length) : (((Lib.bytesOf xs)[j]).toNat : Int) = xs.getD j 0 := by
  have hj' : j < xs.length := by simpa [Lib.bytesOf] using hj
  have h := hb xs[j] (List.getElem_mem hj')
  simp only [Lib.bytesOf, List.getElem_map]
  rw [bytesOf_toNat h.1 h.2]
  simp [List.getD, hj']
  omega

theorem uvarint_any (w : World) (p : Option Addr) (n c : Nat) (xs : List Int) (S : SlAt w p n c xs) :
    Calls Tryd.prog 90 #[.slice p n c] w fun e w' => e = .returned (.tuple #[.int .u64 (Lib.uvarintDec (Lib.bytesOf xs)).1, .int .i64 (Lib.uvarintDec (Lib.bytesOf xs)).2]) ∧ w = w' := by
  rcases Nat.eq_zero_or_pos n with rfl | hn
  · obtain rfl : xs = [] := List.eq_nil_of_length_eq_zero S.len
    exact (Tryd.binary_Uvarint_empty p c w).mono fun e w' h => ⟨h.1, h.2.symm⟩
  · obtain ⟨b, o, rfl, _, hc⟩ := S.at hn
    have hl : (Lib.bytesOf xs).length = n := by simp [Lib.bytesOf, S.len]
    refine (Tryd.binary_Uvarint b o n c (Lib.bytesOf xs) w hl (fun j hj => ?_)).mono fun e w' h => ⟨h.1, h.2.symm⟩
    rw [hc j (by omega), bytesOf_get xs S.byt j hj]

/-- DecodedLen's errors are there -/
structure LenErr (w : World) : Prop where
  corrupt : ∃ (t : TypeId) (a : Addr), w.cell? ⟨1, 0, none⟩ = some (.iface t (.pointer (some a)))
  low : 1 < w.heap.size
theorem LenErr.below {w w' : World} (h : LenErr w) (hb : Below w.heap.size w w') : LenErr w' := by
  obtain ⟨t, a, hc⟩ := h.corrupt
  exact ⟨⟨t, a, by rw [hb.cell (p := ⟨1, 0, none⟩) h.low]; exact hc⟩, Nat.lt_of_lt_of_le h.low hb.size⟩

theorem dlen_cases (xs : List Int) (d : Nat × Int) (hd : Lib.uvarintDec (Lib.bytesOf xs) = d) :
    (∃ v k, dlen xs = some (v, k) ∧ (d.1 : Int) = v ∧ d.2 = k ∧ 0 < k ∧ k ≤ 5 ∧ 0 ≤ v ∧ v ≤ 4294967295) ∨ (dlen xs = none ∧ (d.2 ≤ 0 ∨ 5 < d.2 ∨ 4294967295 < (d.1 : Int))) := by
  have hD : dlen xs = if 0 < (Lib.uvarintDec (Lib.bytesOf xs)).2 ∧ (Lib.uvarintDec (Lib.bytesOf xs)).2 ≤ 5 ∧ ((Lib.uvarintDec (Lib.bytesOf xs)).1 : Int) ≤ 4294967295 then some (((Lib.uvarintDec (Lib.bytesOf xs)).1 : Int), (Lib.uvarintDec (Lib.bytesOf xs)).2) else none := rfl
  rw [hd] at hD
  by_cases h : 0 < d.2 ∧ d.2 ≤ 5 ∧ (d.1 : Int) ≤ 4294967295
  · rw [if_pos h] at hD
    exact Or.inl ⟨_, _, hD, rfl, rfl, h.1, h.2.1, by omega, h.2.2⟩
  · rw [if_neg h] at hD
    exact Or.inr ⟨hD, by omega⟩

set_option maxRecDepth 100000 in
set_option maxHeartbeats 400000 in
theorem decodedLen_yes (w : World) (p : Option Addr) (n c : Nat) (xs : List Int) (S : SlAt w p n c xs) (v k : Int) (hd : dlen xs = some (v, k)) :
    Calls Tryd.prog 68 #[.slice p n c] w fun e w' => e = .returned (.tuple #[.int .i64 v, .int .i64 k, .nilIface]) ∧ Below w.heap.size w w' := by
  have hu := uvarint_any w p n c xs S
  rcases dlen_cases xs _ rfl with ⟨v', k', h1, h2, h3, h4, h5, h6, h7⟩ | ⟨h1, _⟩
  · rw [hd] at h1
    simp only [Option.some.injEq, Prod.mk.injEq] at h1
    obtain ⟨rfl, rfl⟩ := h1
    rw [h2, h3] at hu
    have HU := Lib.hid hu
    clear hu h2 h3 hd
    go_enter Tryd.func68, Tryd.ntmps68
    go_wp2_with fail
    refine HU.out.mono ?_
    rintro e w1 ⟨rfl, rfl⟩
    go_wp2
    go_ret3
    exact ⟨rfl, Below.refl _ _⟩
  · rw [hd] at h1; cases h1
set_option maxRecDepth 100000 in
set_option maxHeartbeats 400000 in
theorem decodedLen_no (w : World) (p : Option Addr) (n c : Nat) (xs : List Int) (S : SlAt w p n c xs) (E : LenErr w) (hd : dlen xs = none) :
    Calls Tryd.prog 68 #[.slice p n c] w fun e w' => (∃ t a, e = .returned (.tuple #[.int .i64 0, .int .i64 0, .iface t (.pointer (some a))])) ∧ Below w.heap.size w w' := by
  obtain ⟨t, a, hc⟩ := E.corrupt
  have hu := uvarint_any w p n c xs S
  rcases dlen_cases xs _ rfl with ⟨v', k', h1, _⟩ | ⟨_, h2⟩
  · rw [hd] at h1; cases h1
  · have hv0 : 0 ≤ ((Lib.uvarintDec (Lib.bytesOf xs)).1 : Int) := Int.natCast_nonneg _
    generalize ((Lib.uvarintDec (Lib.bytesOf xs)).1 : Int) = v at *
    generalize (Lib.uvarintDec (Lib.bytesOf xs)).2 = k at *
    have HU := Lib.hid hu
    clear hu hd
    have h3 : k ≤ 0 ∨ (0 < k ∧ 5 < k) ∨ (0 < k ∧ k ≤ 5 ∧ 4294967295 < v) := by omega
    clear h2
    rcases h3 with h3 | ⟨h3, h4⟩ | ⟨h3, h4, h5⟩
    all_goals
      go_enter Tryd.func68, Tryd.ntmps68
      go_wp2_with fail
      refine HU.out.mono ?_
      rintro e w1 ⟨rfl, rfl⟩
      go_wp2
      go_quiet (fail)
      go_wp2
      go_ret3
      exact ⟨⟨t, a, rfl⟩, below_drewN' _ _ _⟩

end Go.Proofs.YtcpceompoihboaaDoor
