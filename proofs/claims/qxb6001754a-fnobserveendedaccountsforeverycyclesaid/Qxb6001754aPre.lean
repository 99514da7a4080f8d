/-
  zzCopyU64, zzCopyI64, zzMin3, the bounds.
-/
import Derived.Test.Qxb6001754aZz
import Derived.Laws.CopyOwn
import Derived.Lib.SliceRun
namespace Go.Proofs.Qxb6001754a
open Go.RowKit

/-- The slice is nil and empty, or its len numbers are d's. -/
def RowI (k : IntKind) (w : World) (a : Option Addr) (len : Nat) (d : Nat → Int) : Prop :=
  (a = none ∧ len = 0) ∨ ∃ x, a = some x ∧ ∀ i, i < len → w.cell? (x.add i) = some (.int k (d i))
theorem cell_lt {w : World} {a : Addr} {v : Value} (h : w.cell? a = some v) : a.block < w.heap.size := by
  unfold World.cell? at h
  by_cases hb : a.block < w.heap.size
  · exact hb
  · rw [Array.getElem?_eq_none (by omega)] at h; cases h
theorem RowI.below {k : IntKind} {w w' : World} {a : Option Addr} {len : Nat} {d : Nat → Int} (h : RowI k w a len d) (hb : Below w.heap.size w w') : RowI k w' a len d := by
  rcases h with h | ⟨x, rfl, h⟩
  · exact .inl h
  · exact .inr ⟨x, rfl, fun i hi => (hb.cell (p := x.add i) (cell_lt (h i hi))).trans (h i hi)⟩
theorem RowI.some {k : IntKind} {w : World} {a : Option Addr} {len : Nat} {d : Nat → Int} (h : RowI k w a len d) (pos : 0 < len) : ∃ x, a = some x ∧ ∀ i, i < len → w.cell? (x.add i) = some (.int k (d i)) := by
  rcases h with ⟨_, h⟩ | h
  · omega
  · exact h

/-- The copy at block g has come as far as k. -/
structure Cpy (K : IntKind) (e : TypeId) (w W : World) (g n : Nat) (d : Nat → Int) (k : Nat) : Prop where
  row : ∃ cur : List Value, W.heap[g]? = some (.cells cur.toArray e (0, 0)) ∧ cur.length = n ∧ ∀ j, j < k → cur[j]? = some (.int K (d j))
  bel : Below g w W
theorem Cpy.free {K : IntKind} {e : TypeId} {w W : World} {g n : Nat} {d : Nat → Int} {k : Nat} (h : Cpy K e w W g n d k) (hk : k < n) : W.frozen? ⟨g, k, none⟩ = false ∧ ∃ v, W.cell? ⟨g, k, none⟩ = some v := by
  obtain ⟨cur, h1, h2, _⟩ := h.row
  refine ⟨blk_free h1 k, ?_⟩
  rw [blk_cell h1 k, List.getElem?_toArray, List.getElem?_eq_getElem (by omega)]
  exact ⟨_, rfl⟩
theorem Cpy.step {K : IntKind} {e : TypeId} {w W : World} {g n : Nat} {d : Nat → Int} {k : Nat} (h : Cpy K e w W g n d k) (hk : k < n) : Cpy K e w (W.setCell ⟨g, k, none⟩ (.int K (d k))) g n d (k + 1) := by
  obtain ⟨cur, h1, h2, h3⟩ := h.row
  refine ⟨⟨cur.set k (.int K (d k)), ?_, by simpa using h2, ?_⟩, h.bel.setCell (Nat.le_refl _) _⟩
  · rw [blk_set h1 k]; simp
  · intro j hj
    by_cases hjk : j = k
    · subst hjk; rw [List.getElem?_set_self (by omega)]
    · rw [List.getElem?_set_ne (by omega)]; exact h3 j (by omega)
theorem Cpy.rowI {K : IntKind} {e : TypeId} {w W : World} {g n : Nat} {d : Nat → Int} (h : Cpy K e w W g n d n) : RowI K W (some ⟨g, 0, none⟩) n d := by
  obtain ⟨cur, h1, _, h3⟩ := h.row
  refine .inr ⟨_, rfl, fun i hi => ?_⟩
  have e0 : (⟨g, 0, none⟩ : Addr).add i = ⟨g, i, none⟩ := by simp [Addr.add]; intro h; exact h.symm
  rw [e0, blk_cell h1 i, List.getElem?_toArray]; exact h3 i hi
theorem row_of_owns {w : World} {base g n c : Nat} {e : TypeId} {xs : List Value} (h : w.ownsRow base e 1 (.slice (some ⟨g, 0, none⟩) n c) n xs) : ∃ cur : List Value, w.heap[g]? = some (.cells cur.toArray e (0, 0)) ∧ cur.length = c := by
  obtain ⟨_, h2⟩ := h
  rcases h2 with ⟨h, _⟩ | ⟨g', cap, cur, hv, _, hh, _, _, hs, _⟩
  · cases h
  · simp at hv
    obtain ⟨rfl, rfl⟩ := hv
    exact ⟨cur.toList, by simpa using hh, by simpa using hs⟩

theorem Try.info22' : (Try.prog.info? 22).map (fun i => (i.zero, i.size, i.bytes)) = some (some (.int .u64 0), 1, 8) := by kernel_rfl

set_option maxRecDepth 100000 in
set_option maxHeartbeats 1000000 in
theorem copyU64_at (a : Option Addr) (n c : Nat) (d : Nat → Int) (w : World) (hn : n ≤ 65536) (h : RowI .u64 w a n d) :
    Calls Try.prog 9 #[.slice a n c] w fun e w' => ∃ a', e = .returned (.slice a' n n) ∧ RowI .u64 w' a' n d ∧ Below w.heap.size w w' := by
  have q23 : ∀ (w : World) (a : Option Addr) (n c n' c' : Nat), (binOp .eql 23 (.slice a n c) (.slice none n' c')).run Try.prog w = .ok (.bool a.isNone) w := fun w a n c n' c' => Lib.run_eql_slice_nil w _ _ a n c n' c' Try.underlying23
  rcases h with ⟨rfl, rfl⟩ | ⟨x, rfl, hc⟩
  · go_enter Try.func9, Try.ntmps9
    go_wp2
    go_ret
    exact ⟨none, rfl, .inl ⟨rfl, rfl⟩, Below.refl _ _⟩
  obtain ⟨i0, hi0, hz0, hz1, hz2⟩ := info_parts Try.info22'
  have HC : Hid (∀ k, k < n → w.cell? (x.add k) = some (.int .u64 (d k))) := hc
  clear hc
  go_enter Try.func9, Try.ntmps9
  go_wp2_with (at_make; refine wpList_make_full _ rfl _ _ 23 rfl w.heap.size 22 i0 (.int .u64 0) 1 Try.underlying23 hi0 hz0 hz1 _ _ _ _ n rfl rfl rfl rfl ?_ ?_ (Nat.le_refl _) ?_)
  · rw [hz2]; omega
  · unfold maxLen; omega
  intro w1 hown hgrow
  obtain ⟨cur, hrow, hlen⟩ := row_of_owns hown
  have hb1 : Below w.heap.size w w1 := (Below.refl _ _).grown hgrow (Nat.le_refl _) (by intro k h; cases h)
  have H0 : Hid (Cpy .u64 22 w w1 w.heap.size n d 0) := show Cpy _ _ _ _ _ _ _ _ from ⟨⟨cur, hrow, hlen, fun j hj => by omega⟩, hb1⟩
  clear hown hgrow hrow hb1
  obtain ⟨g, hg⟩ : ∃ g, g = w.heap.size := ⟨_, rfl⟩
  rw [← hg] at H0 ⊢
  have HG : Hid (g = w.heap.size) := hg
  clear hg
  go_wp2_with fail
  go_loopw [4] (fun t wr => ∃ k : Nat, k ≤ n ∧ t = .int .i64 k ∧ Hid (Cpy .u64 22 w wr g n d k)) (fun t _ => n - (intOf t).toNat)
  case atStart => exact ⟨0, by omega, rfl, H0⟩
  case round =>
    clear H0
    obtain ⟨k, hk, rfl, hR⟩ := hrel
    by_cases hlt : k < n
    · obtain ⟨f0, v0, c0⟩ := hR.out.free hlt
      have cx : wr.cell? (x.add k) = some (.int .u64 (d k)) := (hR.out.bel.cell (p := x.add k) (by rw [HG.out]; exact cell_lt (HC.out k hlt))).trans (HC.out k hlt)
      go_wp2_with fail
      go_roundw
      case rel => exact ⟨k + 1, by omega, by go_num, hR.out.step hlt⟩
      case measure => simp [intOf]; omega
    · obtain rfl : k = n := by omega
      go_wp2_with fail
      go_ret
      exact ⟨_, rfl, hR.out.rowI, by rw [← HG.out]; exact hR.out.bel⟩

theorem Try.info2' : (Try.prog.info? 2).map (fun i => (i.zero, i.size, i.bytes)) = some (some (.int .i64 0), 1, 8) := by kernel_rfl

set_option maxRecDepth 100000 in
set_option maxHeartbeats 1000000 in
theorem copyI64_at (a : Option Addr) (n c : Nat) (d : Nat → Int) (w : World) (hn : n ≤ 65536) (h : RowI .i64 w a n d) :
    Calls Try.prog 10 #[.slice a n c] w fun e w' => ∃ a', e = .returned (.slice a' n n) ∧ RowI .i64 w' a' n d ∧ Below w.heap.size w w' := by
  have q24 : ∀ (w : World) (a : Option Addr) (n c n' c' : Nat), (binOp .eql 24 (.slice a n c) (.slice none n' c')).run Try.prog w = .ok (.bool a.isNone) w := fun w a n c n' c' => Lib.run_eql_slice_nil w _ _ a n c n' c' Try.underlying24
  rcases h with ⟨rfl, rfl⟩ | ⟨x, rfl, hc⟩
  · go_enter Try.func10, Try.ntmps10
    go_wp2
    go_ret
    exact ⟨none, rfl, .inl ⟨rfl, rfl⟩, Below.refl _ _⟩
  obtain ⟨i0, hi0, hz0, hz1, hz2⟩ := info_parts Try.info2'
  have HC : Hid (∀ k, k < n → w.cell? (x.add k) = some (.int .i64 (d k))) := hc
  clear hc
  go_enter Try.func10, Try.ntmps10
  go_wp2_with (at_make; refine wpList_make_full _ rfl _ _ 24 rfl w.heap.size 2 i0 (.int .i64 0) 1 Try.underlying24 hi0 hz0 hz1 _ _ _ _ n rfl rfl rfl rfl ?_ ?_ (Nat.le_refl _) ?_)
  · rw [hz2]; omega
  · unfold maxLen; omega
  intro w1 hown hgrow
  obtain ⟨cur, hrow, hlen⟩ := row_of_owns hown
  have hb1 : Below w.heap.size w w1 := (Below.refl _ _).grown hgrow (Nat.le_refl _) (by intro k h; cases h)
  have H0 : Hid (Cpy .i64 2 w w1 w.heap.size n d 0) := show Cpy _ _ _ _ _ _ _ _ from ⟨⟨cur, hrow, hlen, fun j hj => by omega⟩, hb1⟩
  clear hown hgrow hrow hb1
  obtain ⟨g, hg⟩ : ∃ g, g = w.heap.size := ⟨_, rfl⟩
  rw [← hg] at H0 ⊢
  have HG : Hid (g = w.heap.size) := hg
  clear hg
  go_wp2_with fail
  go_loopw [4] (fun t wr => ∃ k : Nat, k ≤ n ∧ t = .int .i64 k ∧ Hid (Cpy .i64 2 w wr g n d k)) (fun t _ => n - (intOf t).toNat)
  case atStart => exact ⟨0, by omega, rfl, H0⟩
  case round =>
    clear H0
    obtain ⟨k, hk, rfl, hR⟩ := hrel
    by_cases hlt : k < n
    · obtain ⟨f0, v0, c0⟩ := hR.out.free hlt
      have cx : wr.cell? (x.add k) = some (.int .i64 (d k)) := (hR.out.bel.cell (p := x.add k) (by rw [HG.out]; exact cell_lt (HC.out k hlt))).trans (HC.out k hlt)
      go_wp2_with fail
      go_roundw
      case rel => exact ⟨k + 1, by omega, by go_num, hR.out.step hlt⟩
      case measure => simp [intOf]; omega
    · obtain rfl : k = n := by omega
      go_wp2_with fail
      go_ret
      exact ⟨_, rfl, hR.out.rowI, by rw [← HG.out]; exact hR.out.bel⟩

theorem ret_i {a b : Int} {w w' : World} (h : a = b) (hw : w' = w) : Ending.returned (.int .i64 a) = .returned (.int .i64 b) ∧ w' = w := by rw [h]; exact ⟨rfl, hw⟩
theorem min3_at (a b c : Nat) (w : World) :
    Calls Try.prog 12 #[.int .i64 a, .int .i64 b, .int .i64 c] w fun e w' => e = .returned (.int .i64 (min a (min b c) : Nat)) ∧ w' = w := by
  go_enter Try.func12, Try.ntmps12
  go_wp2
  all_goals
    go_ret
    refine ret_i ?_ rfl
    omega

theorem bytes17_at (a0 a1 a2 a3 : Int) (a4 a5 a6 : Option Addr) (l4 c4 l5 c5 l6 c6 : Nat) (w : World) (h4 : l4 ≤ maxLen) (h5 : l5 ≤ maxLen) (h6 : l6 ≤ maxLen) :
    Calls Try.prog 17 #[.int .u64 a0, .int .u64 a1, .int .i64 a2, .int .i64 a3, .slice a4 l4 c4, .slice a5 l5 c5, .slice a6 l6 c6] w fun e w' => e = .returned (.bool (decide (l4 + l5 + l6 ≤ 1048576))) ∧ w' = w := by
  unfold maxLen at h4 h5 h6
  by_cases h : l4 + l5 + l6 ≤ 1048576
  · rw [decide_eq_true h]
    go_enter Try.func17, Try.ntmps17
    go_wp2
    go_ret
    exact ⟨rfl, rfl⟩
  · rw [decide_eq_false h]
    by_cases k4 : l4 ≤ 1048576
    · by_cases k5 : l4 + l5 ≤ 1048576
      · by_cases k6 : l6 ≤ 1048576 <;>
        · go_enter Try.func17, Try.ntmps17
          go_wp2
          go_ret
          exact ⟨rfl, rfl⟩
      · by_cases k6 : l5 ≤ 1048576 <;>
        · go_enter Try.func17, Try.ntmps17
          go_wp2
          go_ret
          exact ⟨rfl, rfl⟩
    · go_enter Try.func17, Try.ntmps17
      go_wp2
      go_ret
      exact ⟨rfl, rfl⟩

theorem bytes8_at (a0 a1 a2 a3 : Int) (a4 a5 a6 : Option Addr) (l4 c4 l5 c5 l6 c6 : Nat) (w : World) (h4 : l4 ≤ maxLen) (h5 : l5 ≤ maxLen) (h6 : l6 ≤ maxLen) :
    Calls Try.prog 8 #[.int .u64 a0, .int .u64 a1, .int .i64 a2, .int .i64 a3, .slice a4 l4 c4, .slice a5 l5 c5, .slice a6 l6 c6] w fun e w' => e = .returned (.bool (decide (l4 + l5 + l6 ≤ 1048576))) ∧ w' = w := by
  unfold maxLen at h4 h5 h6
  by_cases h : l4 + l5 + l6 ≤ 1048576
  · rw [decide_eq_true h]
    go_enter Try.func8, Try.ntmps8
    go_wp2
    go_ret
    exact ⟨rfl, rfl⟩
  · rw [decide_eq_false h]
    by_cases k4 : l4 ≤ 1048576
    · by_cases k5 : l4 + l5 ≤ 1048576
      · by_cases k6 : l6 ≤ 1048576 <;>
        · go_enter Try.func8, Try.ntmps8
          go_wp2
          go_ret
          exact ⟨rfl, rfl⟩
      · by_cases k6 : l5 ≤ 1048576 <;>
        · go_enter Try.func8, Try.ntmps8
          go_wp2
          go_ret
          exact ⟨rfl, rfl⟩
    · go_enter Try.func8, Try.ntmps8
      go_wp2
      go_ret
      exact ⟨rfl, rfl⟩

end Go.Proofs.Qxb6001754a
