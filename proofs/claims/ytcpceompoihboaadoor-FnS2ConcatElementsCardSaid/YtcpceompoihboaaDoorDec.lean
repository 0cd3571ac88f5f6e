/- What the elements of a block stand for: plain lists, no program. -/
import Derived.Test.YtcpceompoihboaaDoorBase
namespace Go.Proofs.YtcpceompoihboaaDoor

/-- k bytes from a place on, the least first -/
def little (src : List Int) (at_ : Nat) : Nat → Int
  | 0 => 0
  | k + 1 => src.getD at_ 0 + 256 * little src (at_ + 1) k

/-- an element: a literal of so many bytes, or a copy (offset none: the last one again) -/
inductive El where
  | lit (len : Int)
  | cp (off : Option Int) (len : Int)

/-- the element at a place, and the place behind its head; none: the block ends within it -/
def parseEl (s2 : Bool) (src : List Int) (s : Nat) : Option (El × Nat) :=
  let t := src.getD s 0
  if t % 4 = 0 then
    if t / 4 < 60 then some (.lit (t / 4 + 1), s + 1)
    else if t / 4 = 60 then (if s + 2 ≤ src.length then some (.lit (little src (s + 1) 1 + 1), s + 2) else none)
    else if t / 4 = 61 then (if s + 3 ≤ src.length then some (.lit (little src (s + 1) 2 + 1), s + 3) else none)
    else if t / 4 = 62 then (if s + 4 ≤ src.length then some (.lit (little src (s + 1) 3 + 1), s + 4) else none)
    else (if s + 5 ≤ src.length then some (.lit (little src (s + 1) 4 + 1), s + 5) else none)
  else if t % 4 = 1 then
    if s + 2 ≤ src.length then
      let off := t / 32 * 256 + src.getD (s + 1) 0
      if 0 < off ∨ s2 = false then some (.cp (some off) (t / 4 % 8 + 4), s + 2)
      else if t / 4 % 8 < 5 then some (.cp none (t / 4 % 8 + 4), s + 2)
      else if t / 4 % 8 = 5 then (if s + 3 ≤ src.length then some (.cp none (little src (s + 2) 1 + 8), s + 3) else none)
      else if t / 4 % 8 = 6 then (if s + 4 ≤ src.length then some (.cp none (little src (s + 2) 2 + 260), s + 4) else none)
      else (if s + 5 ≤ src.length then some (.cp none (little src (s + 2) 3 + 65540), s + 5) else none)
    else none
  else if t % 4 = 2 then (if s + 3 ≤ src.length then some (.cp (some (little src (s + 1) 2)) (t / 4 + 1), s + 3) else none)
  else (if s + 5 ≤ src.length then some (.cp (some (little src (s + 1) 4)) (t / 4 + 1), s + 5) else none)

/-- bytes from so far back, one after the other -/
def fwd (out : List Int) (off : Nat) : Nat → List Int
  | 0 => out
  | k + 1 => fwd out off k ++ [(fwd out off k).getD ((fwd out off k).length - off) 0]

/-- one element: where the next one begins, what stands there then, the last offset; none: it is an error -/
def stepEl (src : List Int) (n : Nat) (e : El) (p : Nat) (out : List Int) (last : Int) : Option (Nat × List Int × Int) :=
  match e with
  | .lit len => if len ≤ (n : Int) - out.length ∧ len ≤ (src.length : Int) - p then some (p + len.toNat, out ++ (src.drop p).take len.toNat, last) else none
  | .cp off len =>
    if 0 < off.getD last ∧ off.getD last ≤ out.length ∧ len ≤ (n : Int) - out.length then some (p, fwd out (off.getD last).toNat len.toNat, off.getD last) else none

/-- the elements from a place on -/
def decGo (s2 : Bool) (src : List Int) (n : Nat) : Nat → Nat → List Int → Int → Option (List Int)
  | 0, _, _, _ => none
  | f + 1, s, out, last =>
    if s < src.length then
      match parseEl s2 src s with
      | none => none
      | some (e, p) =>
        match stepEl src n e p out last with
        | none => none
        | some (s', out', last') => decGo s2 src n f s' out' last'
    else if out.length = n then some out else none

/-- what a block's elements stand for, if it is n bytes -/
def dec (s2 : Bool) (src : List Int) (n : Nat) : Option (List Int) := decGo s2 src n (src.length + 1) 0 [] 0

theorem fwd_length (out : List Int) (off : Nat) : ∀ k, (fwd out off k).length = out.length + k
  | 0 => rfl
  | k + 1 => by simp [fwd, fwd_length out off k]; omega
theorem fwd_byt {out : List Int} (h : Byt out) (off : Nat) : ∀ k, Byt (fwd out off k)
  | 0 => h
  | k + 1 => Byt.append (fwd_byt h off k) (Byt.cons ((fwd_byt h off k).getD _).1 ((fwd_byt h off k).getD _).2 Byt.nil)
theorem fwd_getD (out : List Int) (off : Nat) : ∀ (k i : Nat), i < out.length → (fwd out off k).getD i 0 = out.getD i 0
  | 0, _, _ => rfl
  | k + 1, i, hi => by
    have h := fwd_getD out off k i hi
    have hl := fwd_length out off k
    rw [fwd, ← h]
    simp only [List.getD_eq_getElem?_getD]
    rw [List.getElem?_append_left (by omega)]
theorem fwd_take (out : List Int) (off : Nat) (ho : off ≤ out.length) : ∀ k, k ≤ off → fwd out off k = out ++ (out.drop (out.length - off)).take k
  | 0, _ => by simp [fwd]
  | k + 1, hk => by
    have h := fwd_take out off ho k (by omega)
    have hl := fwd_length out off k
    have hg : (fwd out off k).getD ((fwd out off k).length - off) 0 = out.getD (out.length - off + k) 0 := by
      rw [hl, show out.length + k - off = out.length - off + k by omega]
      exact fwd_getD out off k _ (by omega)
    rw [fwd, hg, h, List.append_assoc]
    congr 1
    have hx : out.length - off + k < out.length := by omega
    rw [List.take_succ_eq_append_getElem (by simp; omega)]
    congr 1
    simp [List.getD, hx]

theorem little_bd {src : List Int} (h : Byt src) : ∀ (k a : Nat), 0 ≤ little src a k ∧ little src a k < 256 ^ k
  | 0, a => by simp [little]
  | k + 1, a => by
    have h1 := little_bd h k (a + 1)
    have h2 := h.getD a
    have h3 : (256 : Int) ^ (k + 1) = 256 ^ k * 256 := Int.pow_succ 256 k
    simp only [little]
    omega
end Go.Proofs.YtcpceompoihboaaDoor
