/- Plain law: what is written for elements decodes to what they stand for, and to nothing of another length; no program. -/
import Derived.Test.YtcpceompoihboaaDoorDecLaw
import Derived.Test.YtcpceompoihboaaDoorElHead
import Derived.Test.YtcpceompoihboaaDoorElement
namespace Go.Proofs.YtcpceompoihboaaDoor
set_option linter.unusedVariables false
theorem litForm_len (m f : Int) : 1 ≤ (litForm m f).length ∧ (litForm m f).length ≤ 4 := by
  unfold litForm
  split
  · simp
  · split
    · simp
    · split <;> simp
theorem repForm_len (n : Int) : 2 ≤ (repForm n).length ∧ (repForm n).length ≤ 4 := by
  unfold repForm
  split
  · simp
  · split <;> simp
section
variable {src : List Int} {s n f : Nat} {out : List Int} {last : Int}
theorem parse_litF {rest : List Int} {m fm : Int} (h0 : 0 ≤ m) (h1 : m < 65536) (h : src.drop s = litForm m fm ++ rest) : parseEl true src s = some (.lit (m + 1), s + (litForm m fm).length) := by
  have hl := drop_len h (by have := litForm_len m fm; simp; omega)
  have g := fun i => getD_drop src s i _ h
  have g0 := g 0
  have g1 := g 1
  have g2 := g 2
  have g3 := g 3
  clear g
  unfold litForm at *
  split at hl
  · rename_i hm
    simp only [if_pos hm] at g0 ⊢
    have t0 : src.getD s 0 = m * 4 := by simpa using g0
    rw [p_lit0 t0 (by omega) (by omega), show m * 4 / 4 = m by omega]
    rfl
  · rename_i hm
    simp only [if_neg hm] at h g0 g1 g2 g3 ⊢
    split at hl
    · rename_i hm2
      simp only [if_pos hm2] at g0 g1 ⊢
      have t0 : src.getD s 0 = 240 := by simpa using g0
      have t1 : src.getD (s + 1) 0 = m := by simpa using g1
      simp at hl
      rw [p_lit1 t0 (by omega) (by omega), if_pos (by omega), little1, t1]
      rfl
    · rename_i hm2
      simp only [if_neg hm2] at h g0 g1 g2 g3 ⊢
      split at hl
      · rename_i hm3
        simp only [if_pos hm3] at g0 g1 g2 ⊢
        have t0 : src.getD s 0 = 244 := by simpa using g0
        have t1 : src.getD (s + 1) 0 = m % 256 := by simpa using g1
        have t2 : src.getD (s + 2) 0 = m / 256 := by simpa using g2
        simp at hl
        rw [p_lit2 t0 (by omega) (by omega), if_pos (by omega), little2, t1, t2, show m % 256 + 256 * (m / 256) = m by omega]
        rfl
      · rename_i hm3
        simp only [if_neg hm3] at g0 g1 g2 g3 ⊢
        have t0 : src.getD s 0 = 248 := by simpa using g0
        have t1 : src.getD (s + 1) 0 = m % 256 := by simpa using g1
        have t2 : src.getD (s + 2) 0 = m / 256 % 256 := by simpa using g2
        have t3 : src.getD (s + 3) 0 = m / 65536 := by simpa using g3
        simp at hl
        rw [p_lit3 t0 (by omega) (by omega), if_pos (by omega), little3, t1, t2, t3, show m % 256 + 256 * (m / 256 % 256 + 256 * (m / 65536)) = m by omega]
        rfl
theorem parse_repF {rest : List Int} {k : Int} (h0 : 4 ≤ k) (h1 : k ≤ 1003) (h : src.drop s = repForm k ++ rest) : parseEl true src s = some (.cp none k, s + (repForm k).length) := by
  have hl := drop_len h (by have := repForm_len k; simp; omega)
  have g := fun i => getD_drop src s i _ h
  have g0 := g 0
  have g1 := g 1
  have g2 := g 2
  have g3 := g 3
  clear g
  unfold repForm at *
  split at hl
  · rename_i hm
    simp only [if_pos hm] at g0 g1 ⊢
    have t0 : src.getD s 0 = 1 + (k - 4) * 4 := by simpa using g0
    have t1 : src.getD (s + 1) 0 = 0 := by simpa using g1
    simp at hl
    rw [p_rep0 t0 (by omega) (by omega) (by rw [t1]; omega) rfl (by omega), show (1 + (k - 4) * 4) / 4 % 8 + 4 = k by omega]
    rfl
  · rename_i hm
    simp only [if_neg hm] at h g0 g1 g2 g3 ⊢
    split at hl
    · rename_i hm3
      simp only [if_pos hm3] at g0 g1 g2 ⊢
      have t0 : src.getD s 0 = 21 := by simpa using g0
      have t1 : src.getD (s + 1) 0 = 0 := by simpa using g1
      have t2 : src.getD (s + 2) 0 = k - 8 := by simpa using g2
      simp at hl
      rw [p_rep1 t0 (by omega) (by omega) (by rw [t1]; omega) rfl (by omega), if_pos (by omega), little1, t2, show k - 8 + 8 = k by omega]
      rfl
    · rename_i hm3
      simp only [if_neg hm3] at g0 g1 g2 g3 ⊢
      have t0 : src.getD s 0 = 25 := by simpa using g0
      have t1 : src.getD (s + 1) 0 = 0 := by simpa using g1
      have t2 : src.getD (s + 2) 0 = (k - 260) % 256 := by simpa using g2
      have t3 : src.getD (s + 2 + 1) 0 = (k - 260) / 256 := by simpa using g3
      simp at hl
      rw [p_rep2 t0 (by omega) (by omega) (by rw [t1]; omega) rfl (by omega), if_pos (by omega), little2, t2, t3, show (k - 260) % 256 + 256 * ((k - 260) / 256) + 260 = k by omega]
      rfl
theorem parse_c1 {rest : List Int} {off k : Int} (ho0 : 1 ≤ off) (ho1 : off < 2048) (h0 : 4 ≤ k) (h1 : k ≤ 11) (h : src.drop s = [1 + (k - 4) * 4 + off / 256 * 32, off % 256] ++ rest) : parseEl true src s = some (.cp (some off) k, s + 2) := by
  have hl := drop_len h (by simp)
  have g0 := getD_drop src s 0 _ h
  have g1 := getD_drop src s 1 _ h
  have t0 : src.getD s 0 = 1 + (k - 4) * 4 + off / 256 * 32 := by simpa using g0
  have t1 : src.getD (s + 1) 0 = off % 256 := by simpa using g1
  simp at hl
  have e : (1 + (k - 4) * 4 + off / 256 * 32) / 32 * 256 + src.getD (s + 1) 0 = off := by rw [t1]; omega
  rw [p_cp1 t0 (by omega) (by omega) (.inl (by rw [e]; omega)), e, show (1 + (k - 4) * 4 + off / 256 * 32) / 4 % 8 + 4 = k by omega]
theorem parse_c4 {rest : List Int} {off k : Int} (ho0 : 1 ≤ off) (ho1 : off ≤ 65535) (h0 : 1 ≤ k) (h1 : k ≤ 64) (h : src.drop s = [3 + (k - 1) * 4, off % 256, off / 256, 0, 0] ++ rest) : parseEl true src s = some (.cp (some off) k, s + 5) := by
  have hl := drop_len h (by simp)
  have t0 : src.getD s 0 = 3 + (k - 1) * 4 := by simpa using getD_drop src s 0 _ h
  have t1 : src.getD (s + 1) 0 = off % 256 := by simpa using getD_drop src s 1 _ h
  have t2 : src.getD (s + 2) 0 = off / 256 := by simpa using getD_drop src s 2 _ h
  have t3 : src.getD (s + 3) 0 = 0 := by simpa using getD_drop src s 3 _ h
  have t4 : src.getD (s + 4) 0 = 0 := by simpa using getD_drop src s 4 _ h
  simp at hl
  rw [p_cp4 t0 (by omega), if_pos (by omega), little4, t1, t2, t3, t4, show off % 256 + 256 * (off / 256 + 256 * (0 + 256 * 0)) = off by omega, show (3 + (k - 1) * 4) / 4 + 1 = k by omega]
theorem parse_c2 {rest : List Int} {off k : Int} (ho0 : 1 ≤ off) (ho1 : off ≤ 65535) (h0 : 1 ≤ k) (h1 : k ≤ 64) (h : src.drop s = [2 + (k - 1) * 4, off % 256, off / 256] ++ rest) : parseEl true src s = some (.cp (some off) k, s + 3) := by
  have hl := drop_len h (by simp)
  have t0 : src.getD s 0 = 2 + (k - 1) * 4 := by simpa using getD_drop src s 0 _ h
  have t1 : src.getD (s + 1) 0 = off % 256 := by simpa using getD_drop src s 1 _ h
  have t2 : src.getD (s + 2) 0 = off / 256 := by simpa using getD_drop src s 2 _ h
  simp at hl
  rw [p_cp2 t0 (by omega), if_pos (by omega), little2, t1, t2, show off % 256 + 256 * (off / 256) = off by omega, show (2 + (k - 1) * 4) / 4 + 1 = k by omega]
end
/-- with another length it is none -/
theorem decGo_other {s2 : Bool} {src : List Int} {n n' : Nat} (hne : n' ≠ n) : ∀ (f s : Nat) (out : List Int) (last : Int) (r : List Int), decGo s2 src n f s out last = some r → decGo s2 src n' f s out last = none
  | 0, _, _, _, _, h => by cases h
  | f + 1, s, out, last, r, h => by
    unfold decGo at h ⊢
    split at h
    · rename_i hs
      rw [if_pos hs]
      split at h
      · cases h
      · rename_i e p hp
        split at h
        · cases h
        · rename_i s' out' last' hq
          have ih := decGo_other hne f s' out' last' r h
          have hq' : stepEl src n' e p out last = some (s', out', last') ∨ stepEl src n' e p out last = none := by
            cases e with
            | lit len =>
              simp only [stepEl] at hq ⊢
              split at hq
              · rename_i hc
                split
                · exact .inl hq
                · exact .inr rfl
              · cases hq
            | cp off len =>
              simp only [stepEl] at hq ⊢
              split at hq
              · split
                · exact .inl hq
                · exact .inr rfl
              · cases hq
          rcases hq' with hq' | hq'
          · rw [hq']; exact ih
          · rw [hq']
    · rename_i hs
      rw [if_neg hs]
      split at h
      · rename_i hn
        rw [if_neg (by omega)]
      · cases h
theorem dec_other {s2 : Bool} {src : List Int} {n n' : Nat} (hne : n' ≠ n) {r : List Int} (h : dec s2 src n = some r) : dec s2 src n' = none := decGo_other hne _ _ _ _ _ h

/-- the body so far decodes to the text so far -/
def Enc (body text : List Int) (back : Int) : Prop := ∃ k : Nat, k ≤ body.length ∧ ∀ (n : Nat) (rest : List Int), text.length ≤ n → ∃ l : Int, (0 < back → l = back) ∧ ∀ f : Nat, decGo true (body ++ rest) n (f + k) 0 [] 0 = decGo true (body ++ rest) n f body.length text l
theorem enc_nil : Enc [] [] 0 := ⟨0, Nat.le_refl _, fun n rest _ => ⟨0, fun h => absurd h (by omega), fun f => rfl⟩⟩
theorem enc_step {body text more out : List Int} {back last : Int} (E : Enc body text back) (hb0 : 0 ≤ back) (hb1 : back ≤ text.length) (M : Made text back more out last) : Enc (body ++ more) out last ∧ 0 ≤ last ∧ last ≤ out.length ∧ out.length ≤ text.length + 1003 ∧ more.length ≤ 504 := by
  obtain ⟨k, hk, hE⟩ := E
  rcases M with ⟨rfl, rfl, rfl⟩ | ⟨fm, xs, h1, h2, f0, f1, hx, rfl, rfl, rfl⟩ | ⟨q, q0, q1, hp, rfl, rfl, hla⟩ | ⟨off, q, o0, o1, o2, hla, rfl, hM⟩
  · rw [List.append_nil]
    exact ⟨⟨k, hk, hE⟩, hb0, hb1, by omega, by simp⟩
  · have hh := litForm_len ((xs.length : Int) - 1) fm
    refine ⟨⟨k + 1, by simp only [List.length_append]; omega, fun n rest hn => ?_⟩, hb0, by simp only [List.length_append]; omega, by simp only [List.length_append]; omega, by simp only [List.length_append]; omega⟩
    simp only [List.length_append] at hn
    obtain ⟨l, hl, hd⟩ := hE n (litForm ((xs.length : Int) - 1) fm ++ xs ++ rest) (by omega)
    refine ⟨l, hl, fun f => ?_⟩
    have dr : (body ++ (litForm ((xs.length : Int) - 1) fm ++ xs ++ rest)).drop body.length = litForm ((xs.length : Int) - 1) fm ++ (xs ++ rest) := by rw [List.drop_left, List.append_assoc]
    have hlen : (body ++ (litForm ((xs.length : Int) - 1) fm ++ xs ++ rest)).length = body.length + ((litForm ((xs.length : Int) - 1) fm).length + xs.length + rest.length) := by simp only [List.length_append]
    have pr := parse_litF (by omega) (by omega) dr
    rw [show (xs.length : Int) - 1 + 1 = xs.length by omega] at pr
    rw [List.append_assoc, show f + (k + 1) = (f + 1) + k by omega, hd (f + 1), dec_go (by omega) pr (step_lit (by omega) (by omega))]
    have e : ((body ++ (litForm ((xs.length : Int) - 1) fm ++ xs ++ rest)).drop (body.length + (litForm ((xs.length : Int) - 1) fm).length)).take (xs.length : Int).toNat = xs := by
      rw [← List.drop_drop, dr, List.drop_left, Int.toNat_natCast, List.take_left]
    rw [e, Int.toNat_natCast]
    simp only [List.length_append, Nat.add_assoc]
  · obtain rfl := hla.symm
    have hh := repForm_len q
    have hf := fwd_length text back.toNat q.toNat
    refine ⟨⟨k + 1, by simp only [List.length_append]; omega, fun n rest hn => ?_⟩, hb0, by omega, by omega, by omega⟩
    obtain ⟨l, hl, hd⟩ := hE n (repForm q ++ rest) (by omega)
    refine ⟨l, hl, fun f => ?_⟩
    have dr : (body ++ (repForm q ++ rest)).drop body.length = repForm q ++ rest := List.drop_left
    have hlen : (body ++ (repForm q ++ rest)).length = body.length + ((repForm q).length + rest.length) := by simp only [List.length_append]
    have pr := parse_repF q0 q1 dr
    rw [List.append_assoc, show f + (k + 1) = (f + 1) + k by omega, hd (f + 1), dec_go (by omega) pr (step_cp (o := l) rfl (by rw [hl hp]; omega) (by rw [hl hp]; omega) (by omega)), hl hp]
    simp only [List.length_append]
  · obtain rfl := hla.symm
    have hf := fwd_length text off.toNat q.toNat
    have key : ∀ mr : List Int, 1 ≤ mr.length → mr.length ≤ 5 → (∀ src s rest, List.drop s src = mr ++ rest → parseEl true src s = some (.cp (some off) q, s + mr.length)) → 1 ≤ q → q ≤ 64 →
        Enc (body ++ mr) (fwd text off.toNat q.toNat) off ∧ 0 ≤ off ∧ off ≤ (fwd text off.toNat q.toNat).length ∧ (fwd text off.toNat q.toNat).length ≤ text.length + 1003 ∧ mr.length ≤ 504 := by
      intro mr m0 m1 hpar q0 q1
      refine ⟨⟨k + 1, by simp only [List.length_append]; omega, fun n rest hn => ?_⟩, by omega, by omega, by omega, by omega⟩
      obtain ⟨l, hl, hd⟩ := hE n (mr ++ rest) (by omega)
      refine ⟨off, fun _ => rfl, fun f => ?_⟩
      have dr : (body ++ (mr ++ rest)).drop body.length = mr ++ rest := List.drop_left
      have hlen : (body ++ (mr ++ rest)).length = body.length + (mr.length + rest.length) := by simp only [List.length_append]
      have pr := hpar _ _ _ dr
      rw [List.append_assoc, show f + (k + 1) = (f + 1) + k by omega, hd (f + 1), dec_go (by omega) pr (step_cp (o := off) rfl (by omega) (by omega) (by omega))]
      simp only [List.length_append]
    rcases hM with ⟨a0, a1, a2, rfl⟩ | ⟨a0, a1, rfl⟩ | ⟨a0, a1, rfl⟩
    · exact key _ (by simp) (by simp) (fun src s rest h => parse_c1 o0 a0 a1 a2 h) (by omega) (by omega)
    · exact key _ (by simp) (by simp) (fun src s rest h => parse_c4 o0 o2 a0 a1 h) a0 a1
    · exact key _ (by simp) (by simp) (fun src s rest h => parse_c2 o0 o2 a0 a1 h) a0 a1
theorem enc_dec {body text : List Int} {back : Int} (E : Enc body text back) : dec true body text.length = some text := by
  obtain ⟨k, hk, hE⟩ := E
  obtain ⟨l, _, hd⟩ := hE text.length [] (Nat.le_refl _)
  rw [List.append_nil] at hd
  unfold dec
  rw [show body.length + 1 = (body.length - k + 1) + k by omega, hd, decGo_end rfl rfl]
end Go.Proofs.YtcpceompoihboaaDoor
