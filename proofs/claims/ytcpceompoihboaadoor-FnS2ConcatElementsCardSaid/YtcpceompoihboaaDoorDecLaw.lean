/- Plain law: a length and elements that are written by the format read back; no program. -/
import Derived.Test.YtcpceompoihboaaDoorEmit
import Derived.Test.YtcpceompoihboaaDoorLenLaw
namespace Go.Proofs.YtcpceompoihboaaDoor
set_option linter.unusedVariables false

theorem s2len_uv_from (tot : Nat) (r : List Int) : ∀ (n i acc : Nat), i ≤ 4 → acc + n * 2 ^ (7 * i) < 4294967296 → (i = 0 ∨ 0 < n) →
    s2lenFrom tot i acc (uv n ++ r) = (((acc + n * 2 ^ (7 * i) : Nat) : Int), ((i + (uv n).length : Nat) : Int), 1) := by
  intro n
  induction n using Nat.strongRecOn with
  | _ n ih =>
    intro i acc hi hlt hz
    have hi' : i = 0 ∨ i = 1 ∨ i = 2 ∨ i = 3 ∨ i = 4 := by omega
    by_cases h : n < 128
    · rw [uv_lt h]
      have e : lenNext i acc n = ((acc + n * 2 ^ (7 * i) : Nat) : Int) := by
        unfold lenNext
        rcases hi' with rfl | rfl | rfl | rfl | rfl <;> (rw [if_pos (by omega)]; omega)
      show s2lenFrom tot i acc ((n : Int) :: r) = _
      rw [s2len_yes (by omega) (by omega) (by rw [e]; omega) (by omega), e]
      simp
    · rw [uv_ge h]
      have e : lenNext i acc ((n : Int) % 128 + 128) = ((acc + n % 128 * 2 ^ (7 * i) : Nat) : Int) := by
        unfold lenNext
        rcases hi' with rfl | rfl | rfl | rfl | rfl <;> (rw [if_pos (by omega)]; omega)
      have hi3 : i ≤ 3 := by rcases hi' with rfl | rfl | rfl | rfl | rfl <;> omega
      have e2 : acc + n % 128 * 2 ^ (7 * i) + n / 128 * 2 ^ (7 * (i + 1)) = acc + n * 2 ^ (7 * i) := by
        rcases hi' with rfl | rfl | rfl | rfl | rfl <;> omega
      show s2lenFrom tot i acc (((n : Int) % 128 + 128) :: (uv (n / 128) ++ r)) = _
      rw [s2len_more (by omega) (by omega), e, ih (n / 128) (by omega) (i + 1) _ (by omega) (by rw [e2]; exact hlt) (by omega), e2]
      simp only [List.length_cons]
      rw [show i + 1 + (uv (n / 128)).length = i + ((uv (n / 128)).length + 1) by omega]
theorem s2len_uv (n : Nat) (hn : n ≤ 4294967295) (r : List Int) : s2len (uv n ++ r) = ((n : Int), ((uv n).length : Int), 1) := by
  have h := s2len_uv_from (uv n ++ r).length r n 0 0 (by omega) (by omega) (.inl rfl)
  unfold s2len
  rw [show ((0 : Nat) : Int) = 0 from rfl] at h
  rw [h]
  simp
theorem dlen_uv (n : Nat) (hn : n ≤ 4294967295) (r : List Int) (hb : Byt r) : dlen (uv n ++ r) = some ((n : Int), ((uv n).length : Int)) := by
  have h := (len_agree (uv n ++ r) (Byt.append (uv_byt n) hb)).1 (by rw [s2len_uv n hn r])
  rw [h, s2len_uv n hn r]

section
variable {s2 : Bool} {src : List Int} {s n f : Nat} {out : List Int} {last : Int}
theorem getD_drop (src : List Int) (s i : Nat) (ys : List Int) (h : src.drop s = ys) : src.getD (s + i) 0 = ys.getD i 0 := by
  rw [← h]; simp [List.getD]
theorem drop_len {src : List Int} {s : Nat} {ys : List Int} (h : src.drop s = ys) (hy : 0 < ys.length) : src.length = s + ys.length := by
  have := congrArg List.length h
  simp at this
  omega
theorem parse_lit {lit rest : List Int} {m : Int} (h0 : 0 ≤ m) (h1 : m < 16777216) (h : src.drop s = litHead m ++ rest) : parseEl s2 src s = some (.lit (m + 1), s + (litHead m).length) := by
  have hl := drop_len h (by have := litHead_len m; simp; omega)
  have g := fun i => getD_drop src s i _ h
  have g0 := g 0
  have g1 := g 1
  have g2 := g 2
  have g3 := g 3
  clear g
  unfold litHead at *
  split at hl
  · rename_i hm
    simp only [if_pos hm] at g0 ⊢
    have t0 : src.getD s 0 = m * 4 := by simpa using g0
    rw [p_lit0 t0 (by omega) (by omega), show m * 4 / 4 = m by omega]
    rfl
  · rename_i hm
    simp only [if_neg hm] at h g0 g1 g2 g3 ⊢
    split at hl
    · rename_i hm2
      simp only [if_pos hm2] at g0 g1 ⊢
      have t0 : src.getD s 0 = 240 := by simpa using g0
      have t1 : src.getD (s + 1) 0 = m := by simpa using g1
      simp at hl
      rw [p_lit1 t0 (by omega) (by omega), if_pos (by omega), little1, t1]
      rfl
    · rename_i hm2
      simp only [if_neg hm2] at h g0 g1 g2 g3 ⊢
      split at hl
      · rename_i hm3
        simp only [if_pos hm3] at g0 g1 g2 ⊢
        have t0 : src.getD s 0 = 244 := by simpa using g0
        have t1 : src.getD (s + 1) 0 = m % 256 := by simpa using g1
        have t2 : src.getD (s + 2) 0 = m / 256 := by simpa using g2
        simp at hl
        rw [p_lit2 t0 (by omega) (by omega), if_pos (by omega), little2, t1, t2, show m % 256 + 256 * (m / 256) = m by omega]
        rfl
      · rename_i hm3
        simp only [if_neg hm3] at g0 g1 g2 g3 ⊢
        have t0 : src.getD s 0 = 248 := by simpa using g0
        have t1 : src.getD (s + 1) 0 = m % 256 := by simpa using g1
        have t2 : src.getD (s + 2) 0 = m / 256 % 256 := by simpa using g2
        have t3 : src.getD (s + 3) 0 = m / 65536 := by simpa using g3
        simp at hl
        rw [p_lit3 t0 (by omega) (by omega), if_pos (by omega), little3, t1, t2, t3, show m % 256 + 256 * (m / 256 % 256 + 256 * (m / 65536)) = m by omega]
        rfl
/-- a literal -/
theorem decGo_lit {lit post : List Int} (h1 : 1 ≤ lit.length) (h2 : lit.length ≤ 16777216) (h : src.drop s = litHead ((lit.length : Int) - 1) ++ (lit ++ post)) (hn : out.length + lit.length ≤ n) :
    decGo s2 src n (f + 1) s out last = decGo s2 src n f (s + (litHead ((lit.length : Int) - 1)).length + lit.length) (out ++ lit) last := by
  have hh := litHead_len ((lit.length : Int) - 1)
  have hl := drop_len h (by simp; omega)
  simp only [List.length_append] at hl
  have hp := parse_lit (s2 := s2) (lit := lit) (by omega) (by omega) h
  rw [show (lit.length : Int) - 1 + 1 = (lit.length : Int) by omega] at hp
  rw [dec_go (by omega) hp (step_lit (by omega) (by omega))]
  have e : (src.drop (s + (litHead ((lit.length : Int) - 1)).length)).take (lit.length : Int).toNat = lit := by
    rw [← List.drop_drop, h, List.drop_left, Int.toNat_natCast, List.take_left]
  rw [e, Int.toNat_natCast]
theorem decGo_end (h : s = src.length) (hn : out.length = n) : decGo s2 src n (f + 1) s out last = some out := by
  rw [dec_end (by omega), if_pos hn]
end
/-- a block of one literal -/
theorem dec_oneLit (s2 : Bool) (pre lit : List Int) (h1 : 1 ≤ lit.length) (h2 : lit.length ≤ 16777216) (f : Nat) :
    decGo s2 (pre ++ (litHead ((lit.length : Int) - 1) ++ lit)) lit.length (f + 2) pre.length [] 0 = some lit := by
  rw [decGo_lit (lit := lit) (post := []) h1 h2 (by rw [List.drop_left, List.append_nil]) (by simp)]
  rw [decGo_end (by simp; omega) (by simp)]
  simp
end Go.Proofs.YtcpceompoihboaaDoor
