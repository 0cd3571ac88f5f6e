/- s2.RemoveIndexHeaders on what RestoreIndexHeaders made; laws.FnIndexTrim: the walks. -/
import Derived.Test.YtnkjcibebdggmaaLawWrap
import Derived.Test.YtnkjcibebdggmaaShelf
import Derived.Test.YtnkjcibebdggmaaBits
import Derived.Lib.SlBytesConst
import Derived.Lib.SlBytesRowKit2
namespace Go.Proofs.Ytnkjcibebdggmaa
open Go.RowKit

theorem wrapB_len (xs : List Int) : (wrapB xs).length = xs.length + 20 := by simp [wrapB, wrapHead, le4]
theorem wrapB_0 (xs : List Int) : (wrapB xs).getD 0 0 = 153 := by simp [wrapB, wrapHead]
theorem wrapB_1 (xs : List Int) : (wrapB xs).getD 1 0 = ((xs.length : Int) + 16) % 256 := by simp [wrapB, wrapHead]; omega
theorem wrapB_2 (xs : List Int) : (wrapB xs).getD 2 0 = ((xs.length : Int) + 16) / 256 % 256 := by simp [wrapB, wrapHead]; omega
theorem wrapB_3 (xs : List Int) : (wrapB xs).getD 3 0 = ((xs.length : Int) + 16) / 65536 % 256 := by simp [wrapB, wrapHead]; omega

/-- bytes.Equal at two slices that hold the same -/
theorem equal_same (w : World) (p1 p2 : Option Addr) (n c1 c2 : Nat) (xs : List Int) (S1 : SlAt w p1 n c1 xs) (S2 : SlAt w p2 n c2 xs) :
    Calls Try.prog 18 #[.slice p1 n c1, .slice p2 n c2] w fun e w' => e = .returned (.bool true) ∧ Below w.heap.size w w' :=
  (Try.bytes_Equal_all p1 p2 n c1 n c2 xs xs w S1.len S2.len S1.cells S2.cells).mono fun e w' h => ⟨by rw [h.1, beq_self_eq_true], below_eq _ h.2.symm⟩
/-- bytes.HasSuffix where there is the suffix -/
theorem suffix_yes (w : World) (p1 p2 : Option Addr) (n c1 m c2 : Nat) (xs ys : List Int) (S1 : SlAt w p1 (n + m) c1 (xs ++ ys)) (S2 : SlAt w p2 m c2 ys) :
    Calls Try.prog 19 #[.slice p1 (n + m) c1, .slice p2 m c2] w fun e w' => e = .returned (.bool true) ∧ Below w.heap.size w w' :=
  (Try.bytes_HasSuffix_all p1 p2 (n + m) c1 m c2 _ _ w S1.len S2.len S1.cap (Nat.le_trans S1.cap S1.big) S1.cells S2.cells).mono fun e w' h => ⟨by
    rw [h.1]
    have : Lib.hasSuffix (Lib.bytesOf (xs ++ ys)) (Lib.bytesOf ys) = true := by
      unfold Lib.hasSuffix Lib.bytesOf
      rw [List.map_append, List.isSuffixOf_iff_suffix]
      exact List.suffix_append _ _
    rw [this], below_eq _ h.2.symm⟩
/-- bytes.TrimSuffix where there is the suffix -/
theorem trim_yes (w : World) (p1 p2 : Option Addr) (n c1 m c2 : Nat) (xs ys : List Int) (S1 : SlAt w p1 (n + m) c1 (xs ++ ys)) (S2 : SlAt w p2 m c2 ys) :
    Calls Try.prog 20 #[.slice p1 (n + m) c1, .slice p2 m c2] w fun e w' => e = .returned (.slice p1 n c1) ∧ Below w.heap.size w w' :=
  (Try.bytes_TrimSuffix_all p1 p2 (n + m) c1 m c2 _ _ w S1.len S2.len S1.cap (Nat.le_trans S1.cap S1.big) S1.cells S2.cells).mono fun e w' h => ⟨by
    rw [h.1]
    have : Lib.hasSuffix (Lib.bytesOf (xs ++ ys)) (Lib.bytesOf ys) = true := by
      unfold Lib.hasSuffix Lib.bytesOf
      rw [List.map_append, List.isSuffixOf_iff_suffix]
      exact List.suffix_append _ _
    rw [trimSuffixV_eq S1.len S1.cells, if_pos this, S2.len, Nat.add_sub_cancel], below_eq _ h.2.symm⟩

theorem byt_lit (l : List Int) (h : l.all (fun x => decide (0 ≤ x ∧ x < 256)) = true) : Byt l := fun x hx => by
  have := List.all_eq_true.1 h x hx
  simpa using this
theorem wrapB_head (xs : List Int) : ((wrapB xs).drop 4).take 6 = [115, 50, 105, 100, 120, 0] := by simp [wrapB, wrapHead]
theorem wrapB_tail (xs : List Int) (n : Nat) (h : xs.length = n) : ((wrapB xs).drop 10).take (n + 4 + 6) = (xs ++ le4 (n + 20)) ++ [0, 120, 100, 105, 50, 115] := by
  subst h
  rw [List.take_of_length_le (by simp [wrapB, wrapHead, le4])]
  simp [wrapB, wrapHead, le4]
theorem wrapB_mid (xs : List Int) (n : Nat) (h : xs.length = n) : ((wrapB xs).drop 10).take n = xs := by
  subst h
  simp [wrapB, wrapHead]

set_option maxHeartbeats 1000000 in
theorem remove_any (w : World) (p : Option Addr) (n c : Nat) (xs : List Int) (S : SlAt w p (n + 20) c (wrapB xs)) (hl : xs.length = n) (hn : 0 < n) (hbd : n ≤ 65536) :
    Calls Try.prog 14 #[.slice p (n + 20) c] w fun e w' => ∃ p' c', e = .returned (.slice p' n c') ∧ SlAt w' p' n c' xs ∧ Below w.heap.size w w' := by
  have hcap := S.cap
  have hbig := S.big
  obtain ⟨b, o, rfl, hb, hc⟩ := S.at (by omega)
  have c0 := hc 0 (by omega)
  have c1 := hc 1 (by omega)
  have c2 := hc 2 (by omega)
  have c3 := hc 3 (by omega)
  rw [wrapB_0] at c0
  rw [wrapB_1, hl] at c1
  rw [wrapB_2, hl] at c2
  rw [wrapB_3, hl] at c3
  rw [Nat.add_zero] at c0
  have HC := Lib.hid hc
  have HL := Lib.hid hl
  clear hc hl
  have i0 : (0 : Int) < ((n + 20 : Nat) : Int) := by omega
  have i1 : (1 : Int) < ((n + 20 : Nat) : Int) := by omega
  have i2 : (2 : Int) < ((n + 20 : Nat) : Int) := by omega
  have i3 : (3 : Int) < ((n + 20 : Nat) : Int) := by omega
  have hne : ((153 : Int) != 153) = false := rfl
  have hor := i64_le3 (((n : Int) + 16) % 256) (((n : Int) + 16) / 256 % 256) (((n : Int) + 16) / 65536 % 256) (by omega) (by omega) (by omega) (by omega) (by omega) (by omega)
  rw [show ((n : Int) + 16) % 256 + ((n : Int) + 16) / 256 % 256 * 256 + ((n : Int) + 16) / 65536 % 256 * 65536 = (n : Int) + 16 from by omega] at hor
  have HO := Lib.hid hor
  clear hor
  have kc := fun (w : World) (C : Array Value) (n c : Nat) => Lib.run_convert_bytes_const (P := Try.prog) w 22 5 C n c Try.underlying22 Try.underlying5
  go_enter Try.func14, Try.ntmps14
  go_wp2_with fail
  go_quiet (fail)
  rw [HO.out]
  have S1 := S.drewN nq
  have B1 : Below w.heap.size w (w.drewN nq) := below_drewN' _ _ _
  clear c0 c1 c2 c3 HC S
  generalize w.drewN nq = w1 at *
  have z1 := B1.size
  go_wp2_with (go_at_call 18; refine stopAt ?_)
  refine Stop.mk ?_
  refine (equal_same _ _ _ 6 _ _ [115, 50, 105, 100, 120, 0] ((S1.sub 4 6 (c - 4) _ (by omega) (by omega) (by omega) (wrapB_head xs)).below ((Below.refl _ _).alloc (Nat.le_refl _) _)) (slAt_new w1 [115, 50, 105, 100, 120, 0] _ _ 6 rfl (by omega) (byt_lit _ rfl))).mono ?_
  rintro e w2 ⟨rfl, B12⟩
  have B2 := (B1.alloc z1 _).trans (B12.mono (by simp; omega))
  have S2 := S1.below (((Below.refl w1.heap.size w1).alloc (Nat.le_refl _) _).trans (B12.mono (by simp)))
  have z2 := B2.size
  clear S1 B1 B12 z1
  go_wp2_with (go_at_call 19; refine stopAt ?_)
  refine Stop.mk ?_
  refine (suffix_yes _ _ _ (n + 4) _ 6 _ (xs ++ le4 (n + 20)) [0, 120, 100, 105, 50, 115] ((S2.sub 10 (n + 4 + 6) (c - 10) _ (by omega) (by omega) (by omega) (wrapB_tail xs n HL.out)).below ((Below.refl _ _).alloc (Nat.le_refl _) _)) (slAt_new w2 [0, 120, 100, 105, 50, 115] _ _ 6 rfl (by omega) (byt_lit _ rfl))).mono ?_
  rintro e w3 ⟨rfl, B23⟩
  have B3 := (B2.alloc z2 _).trans (B23.mono (by simp; omega))
  have S3 := S2.below (((Below.refl w2.heap.size w2).alloc (Nat.le_refl _) _).trans (B23.mono (by simp)))
  have z3 := B3.size
  clear S2 B2 B23 z2
  go_wp2_with (go_at_call 20; refine stopAt ?_)
  refine Stop.mk ?_
  refine (trim_yes _ _ _ (n + 4) _ 6 _ (xs ++ le4 (n + 20)) [0, 120, 100, 105, 50, 115] ((S3.sub 10 (n + 4 + 6) (c - 10) _ (by omega) (by omega) (by omega) (wrapB_tail xs n HL.out)).below ((Below.refl _ _).alloc (Nat.le_refl _) _)) (slAt_new w3 [0, 120, 100, 105, 50, 115] _ _ 6 rfl (by omega) (byt_lit _ rfl))).mono ?_
  rintro e w4 ⟨rfl, B34⟩
  have B4 := (B3.alloc z3 _).trans (B34.mono (by simp; omega))
  have S4 := S3.below (((Below.refl w3.heap.size w3).alloc (Nat.le_refl _) _).trans (B34.mono (by simp)))
  clear S3 B3 B34 z3
  go_wp2
  go_ret
  exact ⟨_, _, rfl, S4.sub 10 n (c - 10) _ (by omega) (by omega) (by omega) (wrapB_mid xs n HL.out), B4⟩

theorem implTrim_any (w : World) (p : Option Addr) (n c : Nat) (xs : List Int) (S : SlAt w p (n + 20) c (wrapB xs)) (hl : xs.length = n) (hy : Byt xs) (hn : 0 < n) (hbd : n ≤ 65536) :
    Calls Try.prog 10 #[.slice p (n + 20) c] w fun e w' => ∃ p' c', e = .returned (.slice p' n c') ∧ SlAt w' p' n c' xs ∧ Below w.heap.size w w' := by
  go_enter Try.func10, Try.ntmps10
  go_wp2_with fail
  refine (remove_any w p n c xs S hl hn hbd).mono ?_
  rintro e w1 ⟨p1, c1, rfl, S1, B1⟩
  have z1 := B1.size
  go_wp2_with fail
  refine (copied_any w1 p1 n c1 _ S1 (by omega)).mono ?_
  rintro e w2 ⟨v2, rfl, hown2, B2⟩
  obtain ⟨p2, c2, rfl, S2, _⟩ := own_slAt hown2 hy
  go_wp2
  go_ret
  exact ⟨_, _, rfl, S2, B1.trans (B2.mono z1)⟩

set_option maxHeartbeats 400000 in
theorem law_trim (w : World) (p : Option Addr) (n c : Nat) (xs : List Int) (S : SlAt w p n c xs) :
    Calls Try.prog 5 #[.slice p n c] w fun e w' => e = .returned (.bool true) ∧ Below w.heap.size w w' := by
  have hcap := S.cap
  have hbig := S.big
  by_cases h1 : 2147483647 < n
  · have t1 : (2147483647 : Int) < (n : Int) := by omega
    go_enter Try.func5, Try.ntmps5
    go_wp2
    go_ret
    exact ⟨rfl, Below.refl _ _⟩
  · have t1 : ¬ (2147483647 : Int) < (n : Int) := by omega
    by_cases h2 : n < 1
    · go_enter Try.func5, Try.ntmps5
      go_wp2
      go_ret
      exact ⟨rfl, Below.refl _ _⟩
    · by_cases h3 : 65536 < n
      · go_enter Try.func5, Try.ntmps5
        go_wp2
        go_ret
        exact ⟨rfl, Below.refl _ _⟩
      · have hl := Lib.hid S.len
        go_enter Try.func5, Try.ntmps5
        go_wp2_with fail
        refine (implRestore_any w p n c xs S (by omega) (by omega)).mono ?_
        rintro e w1 ⟨v1, rfl, hown1, B1⟩
        obtain ⟨p1, c1, rfl, S1, _⟩ := own_slAt hown1 (byt_wrapB S.byt)
        have z1 := B1.size
        clear hown1
        go_wp2_with fail
        refine (implTrim_any w1 p1 n c1 xs S1 hl.out S.byt (by omega) (by omega)).mono ?_
        rintro e w2 ⟨p2, c2, rfl, S2, B2⟩
        go_wp2_with fail
        refine (eq_any w2 p2 p _ c2 _ c _ _ S2 ((S.below B1).below B2)).mono ?_
        rintro e w3 ⟨rfl, k, rfl⟩
        go_wp2
        go_ret
        exact ⟨rfl, (B1.trans (B2.mono z1)).trans (below_drewN' _ _ _)⟩
end Go.Proofs.Ytnkjcibebdggmaa
