/- Plain law: a literal, a copy and a repeat that are written read back; no program. -/
import Derived.Test.YtcpceompoihboaaDoorDecLaw
import Derived.Test.YtcpceompoihboaaDoorRep
namespace Go.Proofs.YtcpceompoihboaaDoor
set_option linter.unusedVariables false

theorem repHead_len (off len : Int) : 2 ≤ (repHead off len).length ∧ (repHead off len).length ≤ 5 := by
  unfold repHead
  split
  · simp
  · split
    · simp
    · split
      · simp
      · split <;> simp
theorem cpHead_len (off : Int) : 2 ≤ (cpHead off).length ∧ (cpHead off).length ≤ 5 := by
  unfold cpHead
  split
  · simp
  · split <;> simp
theorem repHead_byt {off len : Int} (ho0 : 1 ≤ off) (ho1 : off ≤ 65536) (hl0 : 4 ≤ len) (hl1 : len ≤ 131072) : Byt (repHead off len) := by
  unfold repHead
  split
  · exact Byt.cons (by omega) (by omega) (Byt.cons (by omega) (by omega) Byt.nil)
  · split
    · exact Byt.cons (by omega) (by omega) (Byt.cons (by omega) (by omega) Byt.nil)
    · split
      · exact Byt.cons (by omega) (by omega) (Byt.cons (by omega) (by omega) (Byt.cons (by omega) (by omega) Byt.nil))
      · split
        · exact Byt.cons (by omega) (by omega) (Byt.cons (by omega) (by omega) (Byt.cons (by omega) (by omega) (Byt.cons (by omega) (by omega) Byt.nil)))
        · exact Byt.cons (by omega) (by omega) (Byt.cons (by omega) (by omega) (Byt.cons (by omega) (by omega) (Byt.cons (by omega) (by omega) (Byt.cons (by omega) (by omega) Byt.nil))))
theorem cpHead_byt {off : Int} (ho0 : 1 ≤ off) (ho1 : off ≤ 65536) : Byt (cpHead off) := by
  unfold cpHead
  split
  · exact Byt.cons (by omega) (by omega) (Byt.cons (by omega) (by omega) (Byt.cons (by omega) (by omega) (Byt.cons (by omega) (by omega) (Byt.cons (by omega) (by omega) Byt.nil))))
  · split
    · exact Byt.cons (by omega) (by omega) (Byt.cons (by omega) (by omega) (Byt.cons (by omega) (by omega) Byt.nil))
    · exact Byt.cons (by omega) (by omega) (Byt.cons (by omega) (by omega) Byt.nil)
section
variable {src : List Int} {s n f : Nat} {out : List Int} {last : Int}
theorem parse_cp {s2 : Bool} {rest : List Int} {off : Int} (ho0 : 1 ≤ off) (ho1 : off ≤ 65536) (h : src.drop s = cpHead off ++ rest) : parseEl s2 src s = some (.cp (some off) 4, s + (cpHead off).length) := by
  have hl := drop_len h (by have := cpHead_len off; simp; omega)
  have g := fun i => getD_drop src s i _ h
  have g0 := g 0
  have g1 := g 1
  have g2 := g 2
  have g3 := g 3
  have g4 := g 4
  clear g
  unfold cpHead at *
  split at hl
  · rename_i hm
    simp only [if_pos hm] at g0 g1 g2 g3 g4 ⊢
    have t0 : src.getD s 0 = 15 := by simpa using g0
    have t1 : src.getD (s + 1) 0 = off % 256 := by simpa using g1
    have t2 : src.getD (s + 2) 0 = off / 256 % 256 := by simpa using g2
    have t3 : src.getD (s + 3) 0 = off / 65536 % 256 := by simpa using g3
    have t4 : src.getD (s + 4) 0 = off / 16777216 := by simpa using g4
    simp at hl
    rw [p_cp4 t0 (by omega), if_pos (by omega), little4, t1, t2, t3, t4, show off % 256 + 256 * (off / 256 % 256 + 256 * (off / 65536 % 256 + 256 * (off / 16777216))) = off by omega]
    rfl
  · rename_i hm
    simp only [if_neg hm] at h g0 g1 g2 g3 g4 ⊢
    split at hl
    · rename_i hm2
      simp only [if_pos hm2] at g0 g1 g2 ⊢
      have t0 : src.getD s 0 = 14 := by simpa using g0
      have t1 : src.getD (s + 1) 0 = off % 256 := by simpa using g1
      have t2 : src.getD (s + 2) 0 = off / 256 := by simpa using g2
      simp at hl
      rw [p_cp2 t0 (by omega), if_pos (by omega), little2, t1, t2, show off % 256 + 256 * (off / 256) = off by omega]
      rfl
    · rename_i hm2
      simp only [if_neg hm2] at g0 g1 ⊢
      have t0 : src.getD s 0 = off / 256 * 32 + 1 := by simpa using g0
      have t1 : src.getD (s + 1) 0 = off % 256 := by simpa using g1
      simp at hl
      have e : (off / 256 * 32 + 1) / 32 * 256 + src.getD (s + 1) 0 = off := by rw [t1]; omega
      rw [p_cp1 t0 (by omega) (by omega) (.inl (by rw [e]; omega)), e, show (off / 256 * 32 + 1) / 4 % 8 + 4 = 4 by omega]
      rfl
theorem parse_rep {rest : List Int} {off len : Int} (ho0 : 1 ≤ off) (ho1 : off ≤ 65536) (hl0 : 4 ≤ len) (hl1 : len ≤ 131072) (h : src.drop s = repHead off len ++ rest) :
    ∃ o : Option Int, parseEl true src s = some (.cp o len, s + (repHead off len).length) ∧ o.getD off = off := by
  have hl := drop_len h (by have := repHead_len off len; simp; omega)
  have g := fun i => getD_drop src s i _ h
  have g0 := g 0
  have g1 := g 1
  have g2 := g 2
  have g3 := g 3
  have g4 := g 4
  clear g
  unfold repHead at *
  split at hl
  · rename_i hm
    simp only [if_pos hm] at g0 g1 ⊢
    have t0 : src.getD s 0 = (len - 4) * 4 + 1 := by simpa using g0
    have t1 : src.getD (s + 1) 0 = 0 := by simpa using g1
    simp at hl
    refine ⟨none, ?_, rfl⟩
    rw [p_rep0 t0 (by omega) (by omega) (by rw [t1]; omega) rfl (by omega), show ((len - 4) * 4 + 1) / 4 % 8 + 4 = len by omega]
    rfl
  · rename_i hm
    simp only [if_neg hm] at h g0 g1 g2 g3 g4 ⊢
    split at hl
    · rename_i hm2
      simp only [if_pos hm2] at g0 g1 ⊢
      have t0 : src.getD s 0 = off / 256 * 32 + (len - 4) * 4 + 1 := by simpa using g0
      have t1 : src.getD (s + 1) 0 = off % 256 := by simpa using g1
      simp at hl
      have e : (off / 256 * 32 + (len - 4) * 4 + 1) / 32 * 256 + src.getD (s + 1) 0 = off := by rw [t1]; omega
      refine ⟨some off, ?_, rfl⟩
      rw [p_cp1 t0 (by omega) (by omega) (.inl (by rw [e]; omega)), e, show (off / 256 * 32 + (len - 4) * 4 + 1) / 4 % 8 + 4 = len by omega]
      rfl
    · rename_i hm2
      simp only [if_neg hm2] at h g0 g1 g2 g3 g4 ⊢
      split at hl
      · rename_i hm3
        simp only [if_pos hm3] at g0 g1 g2 ⊢
        have t0 : src.getD s 0 = 21 := by simpa using g0
        have t1 : src.getD (s + 1) 0 = 0 := by simpa using g1
        have t2 : src.getD (s + 2) 0 = len - 8 := by simpa using g2
        simp at hl
        refine ⟨none, ?_, rfl⟩
        rw [p_rep1 t0 (by omega) (by omega) (by rw [t1]; omega) rfl (by omega), if_pos (by omega), little1, t2, show len - 8 + 8 = len by omega]
        rfl
      · rename_i hm3
        simp only [if_neg hm3] at h g0 g1 g2 g3 g4 ⊢
        split at hl
        · rename_i hm4
          simp only [if_pos hm4] at g0 g1 g2 g3 ⊢
          have t0 : src.getD s 0 = 25 := by simpa using g0
          have t1 : src.getD (s + 1) 0 = 0 := by simpa using g1
          have t2 : src.getD (s + 2) 0 = (len - 260) % 256 := by simpa using g2
          have t3 : src.getD (s + 2 + 1) 0 = (len - 260) / 256 := by simpa using g3
          simp at hl
          refine ⟨none, ?_, rfl⟩
          rw [p_rep2 t0 (by omega) (by omega) (by rw [t1]; omega) rfl (by omega), if_pos (by omega), little2, t2, t3, show (len - 260) % 256 + 256 * ((len - 260) / 256) + 260 = len by omega]
          rfl
        · rename_i hm4
          simp only [if_neg hm4] at g0 g1 g2 g3 g4 ⊢
          have t0 : src.getD s 0 = 29 := by simpa using g0
          have t1 : src.getD (s + 1) 0 = 0 := by simpa using g1
          have t2 : src.getD (s + 2) 0 = (len - 65540) % 256 := by simpa using g2
          have t3 : src.getD (s + 2 + 1) 0 = (len - 65540) / 256 % 256 := by simpa using g3
          have t4 : src.getD (s + 2 + 2) 0 = (len - 65540) / 65536 := by simpa using g4
          simp at hl
          refine ⟨none, ?_, rfl⟩
          rw [p_rep3 t0 (by omega) (by omega) (by rw [t1]; omega) rfl (by omega), if_pos (by omega), little3, t2, t3, t4, show (len - 65540) % 256 + 256 * ((len - 65540) / 256 % 256 + 256 * ((len - 65540) / 65536)) + 65540 = len by omega]
          rfl
end
/-- a literal, a copy of it, a repeat -/
theorem dec_rep (pre lit : List Int) (off len : Int) (h1 : 1 ≤ lit.length) (h2 : lit.length ≤ 65536) (ho0 : 1 ≤ off) (ho1 : off ≤ lit.length) (hl0 : 4 ≤ len) (hl1 : len ≤ 131072) (f n : Nat) (hn : n = lit.length + 4 + len.toNat) :
    decGo true (pre ++ ((litHead ((lit.length : Int) - 1) ++ lit) ++ (cpHead off ++ repHead off len))) n (f + 4) pre.length [] 0 = some (fwd (fwd lit off.toNat 4) off.toNat len.toNat) := by
  have hc := cpHead_len off
  have hr := repHead_len off len
  rw [decGo_lit (f := f + 3) (lit := lit) (post := cpHead off ++ repHead off len) h1 (by omega) (by rw [List.drop_left, List.append_assoc]) (by simp; omega)]
  have d2 : (pre ++ ((litHead ((lit.length : Int) - 1) ++ lit) ++ (cpHead off ++ repHead off len))).drop (pre.length + (litHead ((lit.length : Int) - 1)).length + lit.length) = cpHead off ++ repHead off len := by
    rw [← List.append_assoc, show pre.length + (litHead ((lit.length : Int) - 1)).length + lit.length = (pre ++ (litHead ((lit.length : Int) - 1) ++ lit)).length by simp; omega, List.drop_left]
  have hlen : (pre ++ ((litHead ((lit.length : Int) - 1) ++ lit) ++ (cpHead off ++ repHead off len))).length = pre.length + (litHead ((lit.length : Int) - 1)).length + lit.length + (cpHead off).length + (repHead off len).length := by simp; omega
  generalize pre ++ ((litHead ((lit.length : Int) - 1) ++ lit) ++ (cpHead off ++ repHead off len)) = src at *
  generalize pre.length + (litHead ((lit.length : Int) - 1)).length + lit.length = s at *
  have hp := parse_cp (s2 := true) ho0 (by omega) d2
  rw [dec_go (by omega) hp (step_cp (o := off) rfl (by omega) (by simpa using ho1) (by simp; omega))]
  have d3 : src.drop (s + (cpHead off).length) = repHead off len ++ [] := by
    rw [← List.drop_drop, d2, List.drop_left, List.append_nil]
  obtain ⟨o, hp2, hoo⟩ := parse_rep ho0 (by omega) hl0 hl1 d3
  have hf := fwd_length lit off.toNat 4
  rw [List.nil_append, show (4 : Int).toNat = 4 from rfl]
  rw [dec_go (by omega) hp2 (step_cp (o := off) hoo (by omega) (by rw [hf]; omega) (by rw [hf]; omega))]
  exact decGo_end (by omega) (by rw [fwd_length, hf]; omega)
end Go.Proofs.YtcpceompoihboaaDoor
