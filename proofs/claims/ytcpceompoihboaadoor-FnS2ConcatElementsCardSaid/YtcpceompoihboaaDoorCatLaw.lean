/- Plain law: bodies of elements, one behind the other, decode to what they stand for, one behind the other; no program. -/
import Derived.Test.YtcpceompoihboaaDoorElLaw
namespace Go.Proofs.YtcpceompoihboaaDoor
set_option linter.unusedVariables false
/-- a copy that reaches back within its own text leaves what stands ahead -/
theorem fwd_pre (pre text : List Int) (off : Nat) (h0 : 1 ≤ off) (h1 : off ≤ text.length) : ∀ k, fwd (pre ++ text) off k = pre ++ fwd text off k
  | 0 => rfl
  | k + 1 => by
    have ih := fwd_pre pre text off h0 h1 k
    have hl := fwd_length text off k
    rw [fwd, ih, fwd, List.append_assoc]
    congr 2
    have e : (pre ++ fwd text off k).length - off = pre.length + ((fwd text off k).length - off) := by rw [List.length_append]; omega
    rw [e]
    simp only [List.getD_eq_getElem?_getD]
    rw [List.getElem?_append_right (by omega)]
    simp
/-- the body so far, behind any bytes that have been decoded to any text, decodes to the text so far behind that one -/
def EncP (body text : List Int) (back : Int) : Prop := ∃ k : Nat, k ≤ body.length ∧ ∀ (n : Nat) (pb pt rest : List Int) (l0 : Int), pt.length + text.length ≤ n → ∃ l : Int, (0 < back → l = back) ∧
  ∀ f : Nat, decGo true (pb ++ (body ++ rest)) n (f + k) pb.length pt l0 = decGo true (pb ++ (body ++ rest)) n f (pb.length + body.length) (pt ++ text) l
theorem encP_nil : EncP [] [] 0 := ⟨0, Nat.le_refl _, fun n pb pt rest l0 _ => ⟨l0, fun h => absurd h (by omega), fun f => by simp⟩⟩
theorem encP_step {body text more out : List Int} {back last : Int} (E : EncP body text back) (hb0 : 0 ≤ back) (hb1 : back ≤ text.length) (M : Made text back more out last) : EncP (body ++ more) out last := by
  obtain ⟨k, hk, hE⟩ := E
  -- one step: what is put behind is parsed, and done
  have one : ∀ (mr ot : List Int) (la : Int), 1 ≤ mr.length → text.length ≤ ot.length →
      (∀ (n : Nat) (src pt rest : List Int) (s : Nat) (l : Int), (0 < back → l = back) → pt.length + ot.length ≤ n → List.drop s src = mr ++ rest → src.length = s + mr.length + rest.length →
        ∃ l' : Int, (0 < la → l' = la) ∧ ∀ f : Nat, decGo true src n (f + 1) s (pt ++ text) l = decGo true src n f (s + mr.length) (pt ++ ot) l') →
      EncP (body ++ mr) ot la := by
    intro mr ot la m1 hto hstep
    refine ⟨k + 1, by simp only [List.length_append]; omega, fun n pb pt rest l0 hn => ?_⟩
    obtain ⟨l, hl, hd⟩ := hE n pb pt (mr ++ rest) l0 (by omega)
    have e1 : pb ++ ((body ++ mr) ++ rest) = pb ++ (body ++ (mr ++ rest)) := by simp only [List.append_assoc]
    have dr : (pb ++ (body ++ (mr ++ rest))).drop (pb.length + body.length) = mr ++ rest := by
      rw [← List.append_assoc, ← List.length_append, List.drop_left]
    obtain ⟨l', hl', hs⟩ := hstep n _ pt rest (pb.length + body.length) l hl hn dr (by simp only [List.length_append]; omega)
    refine ⟨l', hl', fun f => ?_⟩
    rw [e1, show f + (k + 1) = (f + 1) + k by omega, hd (f + 1), hs f]
    simp only [List.length_append, Nat.add_assoc]
  rcases M with ⟨rfl, rfl, rfl⟩ | ⟨fm, xs, h1, h2, f0, f1, hx, rfl, rfl, rfl⟩ | ⟨q, q0, q1, hp, rfl, rfl, hla⟩ | ⟨off, q, o0, o1, o2, hla, rfl, hM⟩
  · rw [List.append_nil]
    exact ⟨k, hk, hE⟩
  · have hh := litForm_len ((xs.length : Int) - 1) fm
    refine one _ _ _ (by simp only [List.length_append]; omega) (by simp only [List.length_append]; omega) fun n src pt rest s l hl hn dr hlen => ⟨l, hl, fun f => ?_⟩
    simp only [List.length_append] at hn hlen ⊢
    rw [List.append_assoc] at dr
    have pr := parse_litF (by omega) (by omega) dr
    rw [show (xs.length : Int) - 1 + 1 = xs.length by omega] at pr
    rw [dec_go (by omega) pr (step_lit (by rw [List.length_append]; omega) (by omega))]
    have e : (src.drop (s + (litForm ((xs.length : Int) - 1) fm).length)).take (xs.length : Int).toNat = xs := by
      rw [← List.drop_drop, dr, List.drop_left, Int.toNat_natCast, List.take_left]
    rw [e, Int.toNat_natCast, List.append_assoc]
    simp only [Nat.add_assoc]
  · obtain rfl := hla.symm
    have hh := repForm_len q
    have hf := fwd_length text back.toNat q.toNat
    refine one _ _ _ (by omega) (by omega) fun n src pt rest s l hl hn dr hlen => ⟨l, hl, fun f => ?_⟩
    have pr := parse_repF q0 q1 dr
    rw [dec_go (by omega) pr (step_cp (o := l) rfl (by rw [hl hp]; omega) (by rw [hl hp, List.length_append]; omega) (by rw [List.length_append]; omega)), hl hp, fwd_pre _ _ _ (by omega) (by omega)]
  · obtain rfl := hla.symm
    have hf := fwd_length text off.toNat q.toNat
    have key : ∀ mr : List Int, 1 ≤ mr.length → (∀ src s rest, List.drop s src = mr ++ rest → parseEl true src s = some (.cp (some off) q, s + mr.length)) → 1 ≤ q → q ≤ 64 → EncP (body ++ mr) (fwd text off.toNat q.toNat) off := by
      intro mr m0 hpar q0 q1
      refine one _ _ _ m0 (by omega) fun n src pt rest s l hl hn dr hlen => ⟨off, fun _ => rfl, fun f => ?_⟩
      have pr := hpar _ _ _ dr
      rw [dec_go (by omega) pr (step_cp (o := off) rfl (by omega) (by rw [List.length_append]; omega) (by rw [List.length_append]; omega)), fwd_pre _ _ _ (by omega) (by omega)]
    rcases hM with ⟨a0, a1, a2, rfl⟩ | ⟨a0, a1, rfl⟩ | ⟨a0, a1, rfl⟩
    · exact key _ (by simp) (fun src s rest h => parse_c1 o0 a0 a1 a2 h) (by omega) (by omega)
    · exact key _ (by simp) (fun src s rest h => parse_c4 o0 o2 a0 a1 h) a0 a1
    · exact key _ (by simp) (fun src s rest h => parse_c2 o0 o2 a0 a1 h) a0 a1
/-- one block behind the other -/
theorem encP_cat {b1 t1 b2 t2 : List Int} {l1 l2 : Int} (E1 : EncP b1 t1 l1) (E2 : EncP b2 t2 l2) : EncP (b1 ++ b2) (t1 ++ t2) 0 := by
  obtain ⟨k1, h1, H1⟩ := E1
  obtain ⟨k2, h2, H2⟩ := E2
  refine ⟨k1 + k2, by rw [List.length_append]; omega, fun n pb pt rest l0 hn => ?_⟩
  rw [List.length_append] at hn
  obtain ⟨l, _, hd⟩ := H1 n pb pt (b2 ++ rest) l0 (by omega)
  obtain ⟨l', _, hd2⟩ := H2 n (pb ++ b1) (pt ++ t1) rest l (by rw [List.length_append]; omega)
  refine ⟨l', fun h => absurd h (by omega), fun f => ?_⟩
  have e1 : pb ++ ((b1 ++ b2) ++ rest) = pb ++ (b1 ++ (b2 ++ rest)) := by simp only [List.append_assoc]
  have e2 : (pb ++ b1) ++ (b2 ++ rest) = pb ++ (b1 ++ (b2 ++ rest)) := by simp only [List.append_assoc]
  rw [e2] at hd2
  rw [e1, show f + (k1 + k2) = (f + k2) + k1 by omega, hd (f + k2)]
  have h3 := hd2 f
  rw [List.length_append] at h3
  rw [h3]
  simp only [List.length_append, List.append_assoc, Nat.add_assoc]
theorem encP_dec {body text : List Int} {back : Int} (E : EncP body text back) : dec true body text.length = some text := by
  obtain ⟨k, hk, hE⟩ := E
  obtain ⟨l, _, hd⟩ := hE text.length [] [] [] 0 (by simp)
  simp only [List.append_nil, List.nil_append, List.length_nil, Nat.zero_add] at hd
  unfold dec
  rw [show body.length + 1 = (body.length - k + 1) + k by omega, hd, decGo_end rfl rfl]
end Go.Proofs.YtcpceompoihboaaDoor
