/- append onto a row that the call owns, out of whatever source (a slice, nil, a string): one law; owned rows read as slices of bytes. -/
import Derived.Test.YtcpceompoihboaaDoorBase
import Derived.Deep.AppendSrc
namespace Go.Proofs.YtcpceompoihboaaDoor
open Go.RowKit

section
variable {P : Program}

theorem run_append_room_row (w : World) (t tx ty e : TypeId) (i : TypeInfo) (ht : P.underlying t = some (.slice e)) (hi : P.info? e = some i)
    (g sLen sCap : Nat) (cur : Array Value) (hg : w.heap[g]? = some (.cells cur e (0, 0)))
    (x : Value) (m : Nat) (news : List Value) (hs : Src P i.size tx x m news w)
    (hroom : sLen + m ≤ sCap) (hfit : sLen * i.size + news.length ≤ cur.size) :
    (Builtin.append_ #[t, tx] ty #[.slice (some ⟨g, 0, none⟩) sLen sCap, x]).run P w =
      .ok (.slice (some ⟨g, 0, none⟩) (sLen + m) sCap) (w.setRow g (cur.toList.take (sLen * i.size) ++ news ++ cur.toList.drop (sLen * i.size + news.length)).toArray) := by
  have hst := run_storeCells_at P g (sLen * i.size) e news 0 cur w hg (by simpa using hfit) hs.one
  simp only [Nat.add_zero] at hst
  rcases hs.kind with ⟨e', hk⟩ | hk <;> simp [Builtin.append_, run_underlying ht, run_underlying hk, sizeOf, typeInfo, hi, hs.len, hroom, hs.cells, Addr.add_lit, hst]

/-- the empty source onto whatever slice -/
theorem run_append_nothing' (w : World) (t tx ty e : TypeId) (i : TypeInfo) (ht : P.underlying t = some (.slice e)) (hi : P.info? e = some i) (base : Option Addr) (sLen sCap : Nat) (hle : sLen ≤ sCap) (x : Value) (hs : Src P i.size tx x 0 [] w) :
    (Builtin.append_ #[t, tx] ty #[.slice base sLen sCap, x]).run P w = .ok (.slice base sLen sCap) w := by
  rcases hs.kind with ⟨e', hk⟩ | hk <;> cases base <;>
    simp [Builtin.append_, run_underlying ht, run_underlying hk, sizeOf, typeInfo, hi, hs.len, hle, hs.cells, storeCells]

theorem run_append_own_src (w : World) (base : Nat) (t tx ty e : TypeId) (i : TypeInfo) (z : Value) (size bytes : Nat) (ht : P.underlying t = some (.slice e)) (hi : P.info? e = some i) (hz : i.zero = some z)
    (hsize : i.size = size) (hby : i.bytes = bytes) (hzs : z.cells.size = size)
    (v : Value) (n : Nat) (xs : List Value) (hown : w.ownsRow base e size v n xs)
    (x : Value) (m : Nat) (news : List Value) (hs : Src P size tx x m news w)
    (h63 : n + m ≤ 9223372036854775807) (hbytes : (n + m) * bytes ≤ 140737488355328) (hbase : base ≤ w.heap.size) :
    ∃ v' w', (Builtin.append_ #[t, tx] ty #[v, x]).run P w = .ok v' w' ∧ w'.ownsRow base e size v' (n + m) (xs ++ news) ∧ w.grownBy w' v.ownBlock ∧ (0 < n + m → v'.ownBlock ≠ none) := by
  subst hsize
  subst hby
  have hl := hs.newsLen
  have hlen : (xs ++ news).length = (n + m) * i.size := by rw [List.length_append, hown.1, hl, Nat.add_mul]
  have grown : ∀ (old : Nat), old < n + m → ∀ (row : Option Nat),
      (w.drew.alloc (.cells ((xs ++ news).toArray ++ Builtin.zeroCells z.cells (grownCap w (n + m) old e - (n + m))) e)).ownsRow base e i.size
        (.slice (some ⟨w.heap.size, 0, none⟩) (n + m) (grownCap w (n + m) old e)) (n + m) (xs ++ news) ∧
      w.grownBy (w.drew.alloc (.cells ((xs ++ news).toArray ++ Builtin.zeroCells z.cells (grownCap w (n + m) old e - (n + m))) e)) row := by
    intro old ho row
    have hge := grownCap_ge w (n + m) old e
    have hcm : grownCap w (n + m) old e ≤ maxLen := grownCap_le_maxLen w (n + m) old e (by unfold maxLen; omega)
    refine ⟨⟨hlen, .inr ⟨w.heap.size, _, _, rfl, hbase, heap_alloc_new w.drew _, hge, hcm, ?_, ?_⟩⟩, ⟨rfl, rfl, rfl, by simp, fun k hk _ => Below.heap_alloc w.drew _ k hk⟩⟩
    · simp only [Array.size_append, List.size_toArray, size_zeroCells, hzs, hlen, ← Nat.add_mul]
      congr 1
      omega
    · simp only [Array.toList_append]
      rw [← hlen]
      exact List.take_left
  rcases hown.2 with ⟨rfl, rfl⟩ | ⟨g, cap, cur, rfl, hbg, hg, hnc, hcm, hcs, htake⟩
  · have hx : xs = [] := List.eq_nil_of_length_eq_zero (by simpa using hown.1)
    subst hx
    by_cases hm : m = 0
    · subst hm
      have hn : news = [] := List.eq_nil_of_length_eq_zero (by simpa using hl)
      subst hn
      exact ⟨_, _, run_append_nothing' w t tx ty e i ht hi none 0 0 (Nat.le_refl _) x hs, by simpa using hown, World.grownBy.refl _ _, fun h => absurd h (Nat.lt_irrefl 0)⟩
    · have hr := run_append_grow_src (P := P) w t tx ty e i z ht hi hz none 0 0 [] (run_firstCells_none w.drew i.size 0 0 0) x m news hs (by omega) (by omega) (growslice_fits (by omega) hbytes)
      have hgr := grown 0 (by omega) (Value.ownBlock (.slice none 0 0))
      exact ⟨_, _, hr, hgr.1, hgr.2, fun _ h => by cases h⟩
  · by_cases hroom : n + m ≤ cap
    · have hfit : n * i.size + news.length ≤ cur.size := by rw [hl, hcs, ← Nat.add_mul]; exact Nat.mul_le_mul_right _ hroom
      have hr := run_append_room_row (P := P) w t tx ty e i ht hi g n cap cur hg x m news hs hroom hfit
      refine ⟨_, _, hr, ⟨hlen, .inr ⟨g, cap, _, rfl, hbg, setRow_heap w g cur _ e _ hg, hroom, hcm, ?_, ?_⟩⟩, ⟨rfl, rfl, rfl, by simp, fun k _ hk => setRow_other w g k _ (fun e => hk (by simp [Value.ownBlock, e]))⟩, fun _ h => by cases h⟩
      · simp only [List.size_toArray, List.length_append, List.length_take, List.length_drop, Array.length_toList]
        omega
      · rw [htake, ← hlen]
        exact List.take_left
    · have holds : ∀ j u, xs[j]? = some u → w.cell? ((⟨g, 0, none⟩ : Addr).add j) = some u := hown.cells (g := g) rfl
      have hr := run_append_grow_src (P := P) w t tx ty e i z ht hi hz (some ⟨g, 0, none⟩) n cap xs (run_firstCells_some w.drew i.size n ⟨g, 0, none⟩ n cap xs hown.1 (by simpa using holds)) x m news hs (by omega) (by omega) (growslice_fits (by omega) hbytes)
      have hgr := grown cap (by omega) (Value.ownBlock (.slice (some ⟨g, 0, none⟩) n cap))
      exact ⟨_, _, hr, hgr.1, hgr.2, fun _ h => by cases h⟩

/-- the same for the walk -/
theorem wpList_append_src {ops : Array Oper} {rest : List Oper} {o : Oper} {a : Act} {w : World} {Q : Exit → Act → World → Prop} (hgd : o.guard = none) (s x : Operand) (t tx : TypeId)
    (ho : o.op = .call { callee := .builtin .append, args := #[s, x], argTypes := #[t, tx] })
    (base : Nat) (e : TypeId) (i : TypeInfo) (z : Value) (size bytes : Nat) (ht : P.underlying t = some (.slice e)) (hi : P.info? e = some i) (hz : i.zero = some z)
    (hsize : i.size = size) (hby : i.bytes = bytes) (hzs : z.cells.size = size)
    (v : Value) (n : Nat) (xs : List Value) (hv : a.eval s = v) (hown : w.ownsRow base e size v n xs)
    (xv : Value) (m : Nat) (news : List Value) (hx : a.eval x = xv) (hs : Src P size tx xv m news w)
    (hbytes : (n + m) * bytes ≤ 140737488355328) (h63 : n + m ≤ 9223372036854775807) (hbase : base ≤ w.heap.size)
    (h : ∀ v' w', w'.ownsRow base e size v' (n + m) (xs ++ news) → w.grownBy w' v.ownBlock → (0 < n + m → v'.ownBlock ≠ none) → wpList P ops Q rest (a.put o.dst v') w') : wpList P ops Q (o :: rest) a w := by
  refine wpList_plain hgd fun K hK => ?_
  obtain ⟨v', w', hrun, r1, r2, r3⟩ := run_append_own_src (P := P) w base t tx o.type e i z size bytes ht hi hz hsize hby hzs v n xs hown xv m news hs h63 hbytes hbase
  unfold Oper.wp
  simp [execOp, ho, resolve, invoke, builtin, hv, hx, hrun, Result.andThen]
  exact hK _ _ (h v' w' r1 r2 r3)

/-- a slice of bytes as a source -/
theorem SlAt.src {w : World} {p : Option Addr} {n c : Nat} {xs : List Int} (h : SlAt w p n c xs) {tx e' : TypeId} (hk : P.underlying tx = some (.slice e')) :
    Src P 1 tx (.slice p n c) n (xs.map (Value.int .u8)) w := by
  cases p with
  | none =>
    have h0 := h.nil rfl
    have h1 := h.cap
    have h2 := h.len
    obtain rfl : n = 0 := by omega
    obtain rfl : xs = [] := List.eq_nil_of_length_eq_zero h2
    exact Src.ofNil w hk c
  | some a =>
    refine Src.ofSlice w hk a n c _ (by simp [h.len]) (fun j u hu => ?_) (ints_oneCell _ _)
    have hj : j < n := by
      have := (List.getElem?_eq_some_iff.1 hu).1
      simpa [h.len] using this
    obtain ⟨b, o, ha, _, hc⟩ := h.at (by omega)
    obtain rfl := Option.some.inj ha
    rw [Addr.add_lit, hc j hj, ← hu]
    simp [List.getD, h.len, hj]

/-- a new block of bytes as a source -/
theorem src_new (w : World) {tx e' : TypeId} (hk : P.underlying tx = some (.slice e')) (cs : List Int) (e : TypeId) (fr : Nat × Nat) (n c : Nat) (hn : cs.length = n) :
    Src P 1 tx (.slice (some ⟨w.heap.size, 0, none⟩) n c) n (cs.map (Value.int .u8)) (w.alloc (.cells (cs.map (Value.int .u8)).toArray e fr)) := by
  refine Src.ofSlice _ hk _ n c _ (by simp [hn]) (fun j u hu => ?_) (ints_oneCell _ _)
  rw [Addr.add_lit, cell_of_row _ w.heap.size (0 + j) _ e fr (heap_alloc_new w _)]
  simpa using hu

/-- a string as a source -/
theorem src_str (w : World) {tx : TypeId} (hk : P.underlying tx = some .string) (s : ByteArray) (m : Nat) (ys : List Int) (hm : s.size = m) (hy : byteCells s = ys.map (Value.int .u8)) :
    Src P 1 tx (.string s) m (ys.map (Value.int .u8)) w := by
  subst hm
  rw [← hy]
  exact Src.ofString w hk s

/-- a block that holds bytes as a source -/
theorem src_blk (w : World) {tx e' : TypeId} (hk : P.underlying tx = some (.slice e')) (g : Nat) (cs ds : List Int) (e : TypeId) (fr : Nat × Nat) (n c : Nat) (hn : cs.length = n)
    (hg : w.heap[g]? = some (.cells ((cs ++ ds).map (Value.int .u8)).toArray e fr)) :
    Src P 1 tx (.slice (some ⟨g, 0, none⟩) n c) n (cs.map (Value.int .u8)) w := by
  refine Src.ofSlice _ hk _ n c _ (by simp [hn]) (fun j u hu => ?_) (ints_oneCell _ _)
  have hj : j < cs.length := by
    have := (List.getElem?_eq_some_iff.1 hu).1
    simpa using this
  rw [Addr.add_lit, cell_of_row _ g (0 + j) _ e fr hg]
  rw [List.map_append, Nat.zero_add, List.getElem?_toArray, List.getElem?_append_left (by simpa using hj)]
  exact hu

end

/-- behind a law on append: below the base nothing has turned -/
theorem below_app {B : Nat} {w a w' : World} {e size n : Nat} {v : Value} {xs : List Value} (h : Below B w a) (hB : B ≤ a.heap.size) (hown : a.ownsRow B e size v n xs) (hg : a.grownBy w' v.ownBlock) : Below B w w' :=
  h.grown hg hB (fun k hk => (hown.lt k hk).1)

theorem own_form {w : World} {B e size n : Nat} {v : Value} {xs : List Value} (h : w.ownsRow B e size v n xs) : ∃ p c, v = .slice p n c := by
  rcases h.2 with ⟨rfl, rfl⟩ | ⟨g, cap, cur, rfl, _⟩
  · exact ⟨_, _, rfl⟩
  · exact ⟨_, _, rfl⟩

theorem own_below {w w' : World} {B e size n : Nat} {v : Value} {xs : List Value} (h : w.ownsRow B e size v n xs) (hb : Below w.heap.size w w') : w'.ownsRow B e size v n xs :=
  h.kept (gb_below (r := none) hb) (by cases v.ownBlock <;> simp)

/-- an owned row that has a block -/
theorem own_at {w : World} {B e n : Nat} {v : Value} {xs : List Int} (h : w.ownsRow B e 1 v n (xs.map (Value.int .u8))) (hne : v.ownBlock ≠ none) :
    ∃ g cap, v = .slice (some ⟨g, 0, none⟩) n cap ∧ B ≤ g ∧ g < w.heap.size ∧ n ≤ cap ∧ (∀ i, i < n → w.cell? ⟨g, i, none⟩ = some (.int .u8 (xs.getD i 0))) ∧ ∀ i, w.frozen? ⟨g, i, none⟩ = false := by
  have hl : xs.length = n := by simpa using h.1
  have hc : ∀ g, v.ownBlock = some g → ∀ i, i < n → w.cell? ⟨g, i, none⟩ = some (.int .u8 (xs.getD i 0)) := by
    intro g hg i hi
    have := h.cells hg i (.int .u8 (xs.getD i 0)) (by simp [List.getD, hl, hi])
    rwa [Addr.add_lit, Nat.zero_add] at this
  rcases h.2 with ⟨rfl, _⟩ | ⟨g, cap, cur, rfl, hB, hg, hn, _⟩
  · exact absurd rfl hne
  · exact ⟨g, cap, rfl, hB, blk_lt hg, hn, hc g rfl, blk_frozen hg⟩

theorem own_mono {w : World} {B B' e size n : Nat} {v : Value} {xs : List Value} (h : w.ownsRow B e size v n xs) (hB : B' ≤ B) : w.ownsRow B' e size v n xs := by
  refine ⟨h.1, ?_⟩
  rcases h.2 with h | ⟨g, cap, cur, hv, hb, r⟩
  · exact .inl h
  · exact .inr ⟨g, cap, cur, hv, Nat.le_trans hB hb, r⟩

/-- an owned row of bytes reads as such -/
theorem own_slAt {w : World} {B e n : Nat} {v : Value} {xs : List Int} (h : w.ownsRow B e 1 v n (xs.map (Value.int .u8))) (hb : Byt xs) :
    ∃ p c, v = .slice p n c ∧ SlAt w p n c xs ∧ (∀ a, p = some a → B ≤ a.block) := by
  have hl : xs.length = n := by simpa using h.1
  have hcells : ∀ g, v.ownBlock = some g → ∀ i, i < n → w.cell? ⟨g, 0 + i, none⟩ = some (.int .u8 (xs.getD i 0)) := by
    intro g hg i hi
    have := h.cells hg i (.int .u8 (xs.getD i 0)) (by simp [List.getD, hl, hi])
    rwa [Addr.add_lit] at this
  rcases h.2 with ⟨rfl, rfl⟩ | ⟨g, cap, cur, rfl, hB, _, hn, hm, _, _⟩
  · exact ⟨none, 0, rfl, ⟨hl, Nat.le_refl _, by omega, fun _ => rfl, Lib.BytesIn.nil _ _ _, hb⟩, (fun a h => by cases h)⟩
  · refine ⟨_, cap, rfl, ⟨hl, hn, by unfold maxLen at hm; omega, (fun h => by cases h), fun _ => ⟨g, 0, rfl, hcells g rfl⟩, hb⟩, fun a h => ?_⟩
    obtain rfl := Option.some.inj h
    exact hB

theorem info8 : (Tryd.prog.info? 5).map (fun i => (i.zero, i.size, i.bytes)) = some (some (.int .u8 0), 1, 1) := by kernel_rfl

/-- append onto an owned row of bytes, in this program -/
theorem app_bytes {ops : Array Oper} {rest : List Oper} {o : Oper} {a : Act} {w : World} {Q : Exit → Act → World → Prop} (s x : Operand) (tx : TypeId)
    (ho : o.op = .call { callee := .builtin .append, args := #[s, x], argTypes := #[26, tx] }) (hgd : o.guard = none)
    (base : Nat) (v : Value) (n : Nat) (xs : List Int) (hv : a.eval s = v) (hown : w.ownsRow base 5 1 v n (xs.map (Value.int .u8)))
    (xv : Value) (m : Nat) (ys : List Int) (hx : a.eval x = xv) (hs : Src Tryd.prog 1 tx xv m (ys.map (Value.int .u8)) w)
    (hbytes : n + m ≤ 140737488355328) (hbase : base ≤ w.heap.size)
    (h : ∀ v' w', w'.ownsRow base 5 1 v' (n + m) ((xs ++ ys).map (Value.int .u8)) → w.grownBy w' v.ownBlock → (0 < n + m → v'.ownBlock ≠ none) → wpList Tryd.prog ops Q rest (a.put o.dst v') w') :
    wpList Tryd.prog ops Q (o :: rest) a w := by
  obtain ⟨i0, hi, hz0, hz1, hz2⟩ := info_parts info8
  refine wpList_append_src hgd s x _ tx ho base 5 i0 _ 1 1 Tryd.underlying26 hi hz0 hz1 hz2 rfl v n _ hv hown xv m _ hx hs (by omega) (by omega) hbase ?_
  intro v' w' h1 h2 h3
  exact h v' w' (by rw [List.map_append]; exact h1) h2 h3

end Go.Proofs.YtcpceompoihboaaDoor
