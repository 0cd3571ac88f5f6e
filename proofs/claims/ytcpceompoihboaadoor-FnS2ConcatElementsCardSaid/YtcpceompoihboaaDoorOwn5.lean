/- append onto an owned row: where the row is then; slice literals as owned rows; more laws on bits. -/
import Derived.Test.YtcpceompoihboaaDoorEmit
namespace Go.Proofs.YtcpceompoihboaaDoor
open Go.RowKit
set_option linter.unusedVariables false

section
variable {P : Program}
theorem run_append_own5 (w : World) (base : Nat) (t tx ty e : TypeId) (i : TypeInfo) (z : Value) (size bytes : Nat) (ht : P.underlying t = some (.slice e)) (hi : P.info? e = some i) (hz : i.zero = some z)
    (hsize : i.size = size) (hby : i.bytes = bytes) (hzs : z.cells.size = size)
    (v : Value) (n : Nat) (xs : List Value) (hown : w.ownsRow base e size v n xs)
    (x : Value) (m : Nat) (news : List Value) (hs : Src P size tx x m news w)
    (h63 : n + m ≤ 9223372036854775807) (hbytes : (n + m) * bytes ≤ 140737488355328) (hbase : base ≤ w.heap.size) :
    ∃ v' w', (Builtin.append_ #[t, tx] ty #[v, x]).run P w = .ok v' w' ∧ w'.ownsRow base e size v' (n + m) (xs ++ news) ∧ w.grownBy w' v.ownBlock ∧ (v'.ownBlock = v.ownBlock ∨ ∃ g, v'.ownBlock = some g ∧ w.heap.size ≤ g) := by
  subst hsize
  subst hby
  have hl := hs.newsLen
  have hlen : (xs ++ news).length = (n + m) * i.size := by rw [List.length_append, hown.1, hl, Nat.add_mul]
  have grown : ∀ (old : Nat), old < n + m → ∀ (row : Option Nat),
      (w.drew.alloc (.cells ((xs ++ news).toArray ++ Builtin.zeroCells z.cells (grownCap w (n + m) old e - (n + m))) e)).ownsRow base e i.size
        (.slice (some ⟨w.heap.size, 0, none⟩) (n + m) (grownCap w (n + m) old e)) (n + m) (xs ++ news) ∧
      w.grownBy (w.drew.alloc (.cells ((xs ++ news).toArray ++ Builtin.zeroCells z.cells (grownCap w (n + m) old e - (n + m))) e)) row := by
    intro old ho row
    have hge := grownCap_ge w (n + m) old e
    have hcm : grownCap w (n + m) old e ≤ maxLen := grownCap_le_maxLen w (n + m) old e (by unfold maxLen; omega)
    refine ⟨⟨hlen, .inr ⟨w.heap.size, _, _, rfl, hbase, heap_alloc_new w.drew _, hge, hcm, ?_, ?_⟩⟩, ⟨rfl, rfl, rfl, by simp, fun k hk _ => Below.heap_alloc w.drew _ k hk⟩⟩
    · simp only [Array.size_append, List.size_toArray, size_zeroCells, hzs, hlen, ← Nat.add_mul]
      congr 1
      omega
    · simp only [Array.toList_append]
      rw [← hlen]
      exact List.take_left
  rcases hown.2 with ⟨rfl, rfl⟩ | ⟨g, cap, cur, rfl, hbg, hg, hnc, hcm, hcs, htake⟩
  · have hx : xs = [] := List.eq_nil_of_length_eq_zero (by simpa using hown.1)
    subst hx
    by_cases hm : m = 0
    · subst hm
      have hn : news = [] := List.eq_nil_of_length_eq_zero (by simpa using hl)
      subst hn
      exact ⟨_, _, run_append_nothing' w t tx ty e i ht hi none 0 0 (Nat.le_refl _) x hs, by simpa using hown, World.grownBy.refl _ _, .inl rfl⟩
    · have hr := run_append_grow_src (P := P) w t tx ty e i z ht hi hz none 0 0 [] (run_firstCells_none w.drew i.size 0 0 0) x m news hs (by omega) (by omega) (growslice_fits (by omega) hbytes)
      have hgr := grown 0 (by omega) (Value.ownBlock (.slice none 0 0))
      exact ⟨_, _, hr, hgr.1, hgr.2, .inr ⟨_, rfl, Nat.le_refl _⟩⟩
  · by_cases hroom : n + m ≤ cap
    · have hfit : n * i.size + news.length ≤ cur.size := by rw [hl, hcs, ← Nat.add_mul]; exact Nat.mul_le_mul_right _ hroom
      have hr := run_append_room_row (P := P) w t tx ty e i ht hi g n cap cur hg x m news hs hroom hfit
      refine ⟨_, _, hr, ⟨hlen, .inr ⟨g, cap, _, rfl, hbg, setRow_heap w g cur _ e _ hg, hroom, hcm, ?_, ?_⟩⟩, ⟨rfl, rfl, rfl, by simp, fun k _ hk => setRow_other w g k _ (fun e => hk (by simp [Value.ownBlock, e]))⟩, .inl rfl⟩
      · simp only [List.size_toArray, List.length_append, List.length_take, List.length_drop, Array.length_toList]
        omega
      · rw [htake, ← hlen]
        exact List.take_left
    · have holds : ∀ j u, xs[j]? = some u → w.cell? ((⟨g, 0, none⟩ : Addr).add j) = some u := hown.cells (g := g) rfl
      have hr := run_append_grow_src (P := P) w t tx ty e i z ht hi hz (some ⟨g, 0, none⟩) n cap xs (run_firstCells_some w.drew i.size n ⟨g, 0, none⟩ n cap xs hown.1 (by simpa using holds)) x m news hs (by omega) (by omega) (growslice_fits (by omega) hbytes)
      have hgr := grown cap (by omega) (Value.ownBlock (.slice (some ⟨g, 0, none⟩) n cap))
      exact ⟨_, _, hr, hgr.1, hgr.2, .inr ⟨_, rfl, Nat.le_refl _⟩⟩

end
/-- the same, of bytes, in this program: where the row is then -/
def SameOrNew (w : World) (v v' : Value) : Prop := v'.ownBlock = v.ownBlock ∨ ∃ g, v'.ownBlock = some g ∧ w.heap.size ≤ g
theorem app_sl5 {w : World} (tx T : TypeId) {base : Nat} {v : Value} {p : Option Addr} {m c : Nat} {xs ys : List Int} (hu : ∃ e, Tryd.prog.underlying tx = some (.slice e)) (hown : w.ownsRow base 5 1 v xs.length (xs.map (Value.int .u8))) (hs : SlAt w p m c ys) (hbytes : xs.length + m ≤ 140737488355328) (hbase : base ≤ w.heap.size) :
    ∃ v' w', (Builtin.append_ #[26, tx] T #[v, .slice p m c]).run Tryd.prog w = .ok v' w' ∧ w'.ownsRow base 5 1 v' (xs ++ ys).length ((xs ++ ys).map (Value.int .u8)) ∧ Below base w w' ∧ w.grownBy w' v.ownBlock ∧ SameOrNew w v v' := by
  obtain ⟨e, hu⟩ := hu
  obtain ⟨i0, hi, hz0, hz1, hz2⟩ := info_parts info8
  obtain ⟨v', w', h1, h2, h3, h4⟩ := run_append_own5 (P := Tryd.prog) w base 26 tx T 5 i0 _ 1 1 Tryd.underlying26 hi hz0 hz1 hz2 rfl v xs.length _ hown _ m _ (hs.src hu) (by omega) (by omega) hbase
  exact ⟨v', w', h1, by rw [List.length_append, hs.len, List.map_append]; exact h2, below_app (Below.refl _ _) hbase hown h3, h3, h4⟩
/-- a slice literal is an owned row -/
theorem own_lit (w : World) (xs : List Int) (k : Nat) (hk : xs.length = k) (hb : k ≤ 100) : (w.alloc (.cells (xs.map (Value.int .u8)).toArray 5 (0, 0))).ownsRow w.heap.size 5 1 (.slice (some ⟨w.heap.size, 0, none⟩) k k) xs.length (xs.map (Value.int .u8)) := by
  subst hk
  exact ⟨by simp, .inr ⟨w.heap.size, xs.length, _, rfl, Nat.le_refl _, heap_alloc_new w _, Nat.le_refl _, by unfold maxLen; omega, by simp, by simp [List.take_of_length_le]⟩⟩
theorem own_ge {w : World} {B e size n g : Nat} {v : Value} {xs : List Value} (h : w.ownsRow B e size v n xs) (hg : v.ownBlock = some g) : B ≤ g ∧ g < w.heap.size := by
  rcases h.2 with ⟨rfl, _⟩ | ⟨g', cap, cur, rfl, hB, hgg, _⟩
  · cases hg
  · simp only [Value.ownBlock, Option.some.injEq] at hg
    subst hg
    exact ⟨hB, blk_lt hgg⟩
theorem i64_or2 (y x : Int) (hy0 : 0 ≤ y) (hy : y < 4) (hx0 : 0 ≤ x) (hx : x % 4 = 0) (hx1 : x < 9223372036854775808) : bits .or .i64 y x = y + x :=
  bits_join_low .i64 63 (by decide) wraps_i64' 2 y x hy0 hy (by omega) hx0 hx hx1
theorem i64_or5 (y x : Int) (hy0 : 0 ≤ y) (hy : y < 32) (hx0 : 0 ≤ x) (hx : x % 32 = 0) (hx1 : x < 9223372036854775808) : bits .or .i64 y x = y + x :=
  bits_join_low .i64 63 (by decide) wraps_i64' 5 y x hy0 hy (by omega) hx0 hx hx1
theorem e_min {P : Program} {w : World} {ρ : Operand → Value} {k : Option Nat} {T T1 T2 : Nat} {pos : String} {aft : Array Edge} {x y : Operand} {gd : Option (Nat × Bool)} {kd : IntKind} {a b : Int} (hx : ρ x = .int kd a) (hy : ρ y = .int kd b) :
    (execOp ρ ⟨k, .call { callee := .builtin .min, args := #[x, y], argTypes := #[T1, T2] }, T, pos, aft, gd⟩).run P w = .ok (.value (.int kd (min a b))) w := by
  simp [go_sem, hx, hy]
end Go.Proofs.YtcpceompoihboaaDoor
