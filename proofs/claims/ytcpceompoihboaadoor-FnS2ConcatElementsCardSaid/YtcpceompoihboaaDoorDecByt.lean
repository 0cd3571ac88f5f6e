/- What a block decodes to is bytes; worlds that agree below a bound agree below a lower one. -/
import Derived.Test.YtcpceompoihboaaDoorDec2
import Derived.Test.YtcpceompoihboaaDoorLate
namespace Go.Proofs.YtcpceompoihboaaDoor
open Go.RowKit
theorem below_down {B C : Nat} {w w' : World} (h : Below C w w') (hB : B ≤ C) : Below B w w' := ⟨h.os, h.tape, h.output, h.size, fun k hk => h.block k (by omega)⟩
theorem step_byt1 {src : List Int} {n p s' : Nat} {e : El} {out out' : List Int} {last last' : Int} (hs : Byt src) (h : Byt out) (hq : stepEl src n e p out last = some (s', out', last')) : Byt out' := by
  cases e with
  | lit len =>
    simp only [stepEl] at hq
    split at hq
    · simp only [Option.some.injEq, Prod.mk.injEq] at hq
      rw [← hq.2.1]
      exact Byt.append h ((hs.drop _).take _)
    · cases hq
  | cp off len =>
    simp only [stepEl] at hq
    split at hq
    · simp only [Option.some.injEq, Prod.mk.injEq] at hq
      rw [← hq.2.1]
      exact fwd_byt h _ _
    · cases hq
theorem decGo_byt1 {s2 : Bool} {src : List Int} {n : Nat} (hs : Byt src) : ∀ (f s : Nat) (out : List Int) (last : Int) (r : List Int), Byt out → decGo s2 src n f s out last = some r → Byt r
  | 0, _, _, _, _, _, h => by cases h
  | f + 1, s, out, last, r, hb, h => by
    unfold decGo at h
    split at h
    · split at h
      · cases h
      · rename_i e p hp
        split at h
        · cases h
        · rename_i s' out' last' hq
          exact decGo_byt1 hs f s' out' last' r (step_byt1 hs hb hq) h
    · split at h
      · simp only [Option.some.injEq] at h
        rw [← h]; exact hb
      · cases h
theorem decByt {s2 : Bool} {src : List Int} {n : Nat} {r : List Int} (hs : Byt src) (h : dec s2 src n = some r) : Byt r := decGo_byt1 hs _ _ _ _ _ Byt.nil h

end Go.Proofs.YtcpceompoihboaaDoor
