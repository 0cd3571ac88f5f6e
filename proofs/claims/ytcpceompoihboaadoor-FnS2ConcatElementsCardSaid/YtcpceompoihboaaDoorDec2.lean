/- The cases of an element's head, and of one step of a block's decoding. -/
import Derived.Test.YtcpceompoihboaaDoorDec
namespace Go.Proofs.YtcpceompoihboaaDoor

section
variable {s2 : Bool} {src : List Int} {s n f p : Nat} {t : Int}
theorem little1 : little src s 1 = src.getD s 0 := by simp [little]
theorem little2 : little src s 2 = src.getD s 0 + 256 * src.getD (s + 1) 0 := by simp [little]
theorem little3 : little src s 3 = src.getD s 0 + 256 * (src.getD (s + 1) 0 + 256 * src.getD (s + 2) 0) := by simp [little]
theorem little4 : little src s 4 = src.getD s 0 + 256 * (src.getD (s + 1) 0 + 256 * (src.getD (s + 2) 0 + 256 * src.getD (s + 3) 0)) := by simp [little]
theorem p_lit0 (ht : src.getD s 0 = t) (h : t % 4 = 0) (h1 : t / 4 < 60) : parseEl s2 src s = some (.lit (t / 4 + 1), s + 1) := by
  unfold parseEl; rw [ht]; dsimp only; rw [if_pos h, if_pos h1]
theorem p_lit1 (ht : src.getD s 0 = t) (h : t % 4 = 0) (h1 : t / 4 = 60) : parseEl s2 src s = if s + 2 ≤ src.length then some (.lit (little src (s + 1) 1 + 1), s + 2) else none := by
  unfold parseEl; rw [ht]; dsimp only; rw [if_pos h, if_neg (by omega), if_pos h1]
theorem p_lit2 (ht : src.getD s 0 = t) (h : t % 4 = 0) (h1 : t / 4 = 61) : parseEl s2 src s = if s + 3 ≤ src.length then some (.lit (little src (s + 1) 2 + 1), s + 3) else none := by
  unfold parseEl; rw [ht]; dsimp only; rw [if_pos h, if_neg (by omega), if_neg (by omega), if_pos h1]
theorem p_lit3 (ht : src.getD s 0 = t) (h : t % 4 = 0) (h1 : t / 4 = 62) : parseEl s2 src s = if s + 4 ≤ src.length then some (.lit (little src (s + 1) 3 + 1), s + 4) else none := by
  unfold parseEl; rw [ht]; dsimp only; rw [if_pos h, if_neg (by omega), if_neg (by omega), if_neg (by omega), if_pos h1]
theorem p_lit4 (ht : src.getD s 0 = t) (h : t % 4 = 0) (h1 : 63 ≤ t / 4) : parseEl s2 src s = if s + 5 ≤ src.length then some (.lit (little src (s + 1) 4 + 1), s + 5) else none := by
  unfold parseEl; rw [ht]; dsimp only; rw [if_pos h, if_neg (by omega), if_neg (by omega), if_neg (by omega), if_neg (by omega)]
theorem p_litn (ht : src.getD s 0 = t) (h : t % 4 = 0) (h1 : 60 ≤ t / 4) (h2 : t < 256) : parseEl s2 src s = if s + 1 + (t / 4 - 59).toNat ≤ src.length then some (.lit (little src (s + 1) (t / 4 - 59).toNat + 1), s + 1 + (t / 4 - 59).toNat) else none := by
  rcases (show t / 4 = 60 ∨ t / 4 = 61 ∨ t / 4 = 62 ∨ t / 4 = 63 by omega) with h3 | h3 | h3 | h3
  · rw [show (t / 4 - 59).toNat = 1 by omega]; exact p_lit1 ht h h3
  · rw [show (t / 4 - 59).toNat = 2 by omega]; exact p_lit2 ht h h3
  · rw [show (t / 4 - 59).toNat = 3 by omega]; exact p_lit3 ht h h3
  · rw [show (t / 4 - 59).toNat = 4 by omega]; exact p_lit4 ht h (by omega)
theorem p_cp1_short (ht : src.getD s 0 = t) (h : t % 4 = 1) (h1 : ¬ s + 2 ≤ src.length) : parseEl s2 src s = none := by
  unfold parseEl; rw [ht]; dsimp only; rw [if_neg (by omega), if_pos h, if_neg h1]
theorem p_cp1 (ht : src.getD s 0 = t) (h : t % 4 = 1) (h1 : s + 2 ≤ src.length) (h2 : 0 < t / 32 * 256 + src.getD (s + 1) 0 ∨ s2 = false) : parseEl s2 src s = some (.cp (some (t / 32 * 256 + src.getD (s + 1) 0)) (t / 4 % 8 + 4), s + 2) := by
  unfold parseEl; rw [ht]; dsimp only; rw [if_neg (by omega), if_pos h, if_pos h1, if_pos h2]
theorem p_rep0 (ht : src.getD s 0 = t) (h : t % 4 = 1) (h1 : s + 2 ≤ src.length) (h2 : ¬ 0 < t / 32 * 256 + src.getD (s + 1) 0) (hs : s2 = true) (h3 : t / 4 % 8 < 5) : parseEl s2 src s = some (.cp none (t / 4 % 8 + 4), s + 2) := by
  subst hs; unfold parseEl; rw [ht]; dsimp only; rw [if_neg (by omega), if_pos h, if_pos h1, if_neg (by simpa using h2), if_pos h3]
theorem p_rep1 (ht : src.getD s 0 = t) (h : t % 4 = 1) (h1 : s + 2 ≤ src.length) (h2 : ¬ 0 < t / 32 * 256 + src.getD (s + 1) 0) (hs : s2 = true) (h3 : t / 4 % 8 = 5) : parseEl s2 src s = if s + 3 ≤ src.length then some (.cp none (little src (s + 2) 1 + 8), s + 3) else none := by
  subst hs; unfold parseEl; rw [ht]; dsimp only; rw [if_neg (by omega), if_pos h, if_pos h1, if_neg (by simpa using h2), if_neg (by omega), if_pos h3]
theorem p_rep2 (ht : src.getD s 0 = t) (h : t % 4 = 1) (h1 : s + 2 ≤ src.length) (h2 : ¬ 0 < t / 32 * 256 + src.getD (s + 1) 0) (hs : s2 = true) (h3 : t / 4 % 8 = 6) : parseEl s2 src s = if s + 4 ≤ src.length then some (.cp none (little src (s + 2) 2 + 260), s + 4) else none := by
  subst hs; unfold parseEl; rw [ht]; dsimp only; rw [if_neg (by omega), if_pos h, if_pos h1, if_neg (by simpa using h2), if_neg (by omega), if_neg (by omega), if_pos h3]
theorem p_rep3 (ht : src.getD s 0 = t) (h : t % 4 = 1) (h1 : s + 2 ≤ src.length) (h2 : ¬ 0 < t / 32 * 256 + src.getD (s + 1) 0) (hs : s2 = true) (h3 : 7 ≤ t / 4 % 8) : parseEl s2 src s = if s + 5 ≤ src.length then some (.cp none (little src (s + 2) 3 + 65540), s + 5) else none := by
  subst hs; unfold parseEl; rw [ht]; dsimp only; rw [if_neg (by omega), if_pos h, if_pos h1, if_neg (by simpa using h2), if_neg (by omega), if_neg (by omega), if_neg (by omega)]
theorem p_repn (ht : src.getD s 0 = t) (h : t % 4 = 1) (h1 : s + 2 ≤ src.length) (h2 : ¬ 0 < t / 32 * 256 + src.getD (s + 1) 0) (hs : s2 = true) (h3 : 5 ≤ t / 4 % 8) :
    parseEl s2 src s = if s + 2 + (t / 4 % 8 - 4).toNat ≤ src.length then some (.cp none (little src (s + 2) (t / 4 % 8 - 4).toNat + (if t / 4 % 8 = 5 then 8 else if t / 4 % 8 = 6 then 260 else 65540)), s + 2 + (t / 4 % 8 - 4).toNat) else none := by
  rcases (show t / 4 % 8 = 5 ∨ t / 4 % 8 = 6 ∨ t / 4 % 8 = 7 by omega) with h4 | h4 | h4
  · rw [show (t / 4 % 8 - 4).toNat = 1 by omega, if_pos h4]; exact p_rep1 ht h h1 h2 hs h4
  · rw [show (t / 4 % 8 - 4).toNat = 2 by omega, if_neg (show ¬ t / 4 % 8 = 5 by omega), if_pos h4]; exact p_rep2 ht h h1 h2 hs h4
  · rw [show (t / 4 % 8 - 4).toNat = 3 by omega, if_neg (show ¬ t / 4 % 8 = 5 by omega), if_neg (show ¬ t / 4 % 8 = 6 by omega)]; exact p_rep3 ht h h1 h2 hs (by omega)
theorem p_cp2 (ht : src.getD s 0 = t) (h : t % 4 = 2) : parseEl s2 src s = if s + 3 ≤ src.length then some (.cp (some (little src (s + 1) 2)) (t / 4 + 1), s + 3) else none := by
  unfold parseEl; rw [ht]; dsimp only; rw [if_neg (by omega), if_neg (by omega), if_pos h]
theorem p_cp4 (ht : src.getD s 0 = t) (h : 3 ≤ t % 4) : parseEl s2 src s = if s + 5 ≤ src.length then some (.cp (some (little src (s + 1) 4)) (t / 4 + 1), s + 5) else none := by
  unfold parseEl; rw [ht]; dsimp only; rw [if_neg (by omega), if_neg (by omega), if_neg (by omega)]

variable {out : List Int} {last : Int} {e : El}
theorem dec_parse (hs : s < src.length) (h : parseEl s2 src s = none) : decGo s2 src n (f + 1) s out last = none := by
  unfold decGo; rw [if_pos hs, h]
theorem dec_step (hs : s < src.length) (h : parseEl s2 src s = some (e, p)) (h2 : stepEl src n e p out last = none) : decGo s2 src n (f + 1) s out last = none := by
  rw [decGo, if_pos hs, h]; dsimp only; rw [h2]
theorem dec_go {s' : Nat} {out' : List Int} {last' : Int} (hs : s < src.length) (h : parseEl s2 src s = some (e, p)) (h2 : stepEl src n e p out last = some (s', out', last')) :
    decGo s2 src n (f + 1) s out last = decGo s2 src n f s' out' last' := by
  rw [decGo, if_pos hs, h]; dsimp only; rw [h2]
theorem step_lit_no {len : Int} (h : ¬ (len ≤ (n : Int) - out.length ∧ len ≤ (src.length : Int) - p)) : stepEl src n (.lit len) p out last = none := by
  unfold stepEl; dsimp only; rw [if_neg h]
theorem step_lit {len : Int} (h1 : len ≤ (n : Int) - out.length) (h2 : len ≤ (src.length : Int) - p) : stepEl src n (.lit len) p out last = some (p + len.toNat, out ++ (src.drop p).take len.toNat, last) := by
  unfold stepEl; dsimp only; rw [if_pos ⟨h1, h2⟩]
theorem step_cp_no {off : Option Int} {len o : Int} (ho : off.getD last = o) (h : ¬ (0 < o ∧ o ≤ out.length ∧ len ≤ (n : Int) - out.length)) : stepEl src n (.cp off len) p out last = none := by
  subst ho; unfold stepEl; dsimp only; rw [if_neg h]
theorem step_cp {off : Option Int} {len o : Int} (ho : off.getD last = o) (h1 : 0 < o) (h2 : o ≤ out.length) (h3 : len ≤ (n : Int) - out.length) : stepEl src n (.cp off len) p out last = some (p, fwd out o.toNat len.toNat, o) := by
  subst ho; unfold stepEl; dsimp only; rw [if_pos ⟨h1, h2, h3⟩]
theorem dec_end (hs : ¬ s < src.length) : decGo s2 src n (f + 1) s out last = if out.length = n then some out else none := by
  rw [decGo, if_neg hs]
end
end Go.Proofs.YtcpceompoihboaaDoor
