/-
  FnCertTypesDataRoundTrip's road.
-/
import Derived.Test.Qxb6600287aRows
import Derived.WalkKit
import Derived.WalkSpells
import Derived.WalkLawsBesides
import Derived.OwnWalk
import Derived.Laws.AppendOwn
import Derived.Below
import Derived.Deep.QuietTactic
import Derived.BigQuiet
namespace Go.Proofs.Qxb6600287a
open Go.RowKit

theorem blk_cell {w : World} {g : Nat} {cs : Array Value} {t : TypeId} (h : w.heap[g]? = some (.cells cs t (0, 0))) (k : Nat) : w.cell? ⟨g, k, none⟩ = cs[k]? := by
  simp [World.cell?, h]
theorem blk_free {w : World} {g : Nat} {cs : Array Value} {t : TypeId} (h : w.heap[g]? = some (.cells cs t (0, 0))) (k : Nat) : w.frozen? ⟨g, k, none⟩ = false := by
  simp [World.frozen?, h]
theorem blk_set {w : World} {g : Nat} {cs : Array Value} {t : TypeId} (h : w.heap[g]? = some (.cells cs t (0, 0))) (k : Nat) (v : Value) : (w.setCell ⟨g, k, none⟩ v).heap[g]? = some (.cells (cs.setIfInBounds k v) t (0, 0)) := by
  simp [World.setCell, Array.getElem?_modify, h]
theorem cell_lt {w : World} {a : Addr} {v : Value} (h : w.cell? a = some v) : a.block < w.heap.size := by
  unfold World.cell? at h
  by_cases hb : a.block < w.heap.size
  · exact hb
  · rw [Array.getElem?_eq_none (by omega)] at h; cases h

/-- The slice is nil and empty, or its len bytes are d's. -/
def RowI (w : World) (a : Option Addr) (len : Nat) (d : Nat → Int) : Prop :=
  (a = none ∧ len = 0) ∨ ∃ x, a = some x ∧ ∀ i, i < len → w.cell? (x.add i) = some (.int .u8 (d i))
theorem RowI.below {w w' : World} {a : Option Addr} {len : Nat} {d : Nat → Int} (h : RowI w a len d) (hb : Below w.heap.size w w') : RowI w' a len d := by
  rcases h with h | ⟨x, rfl, h⟩
  · exact .inl h
  · exact .inr ⟨x, rfl, fun i hi => (hb.cell (p := x.add i) (cell_lt (h i hi))).trans (h i hi)⟩
theorem RowI.some {w : World} {a : Option Addr} {len : Nat} {d : Nat → Int} (h : RowI w a len d) (pos : 0 < len) : ∃ x, a = some x ∧ ∀ i, i < len → w.cell? (x.add i) = some (.int .u8 (d i)) := by
  rcases h with ⟨_, h⟩ | h
  · omega
  · exact h

/-- The copy at block g has come as far as k. -/
structure Cpy (e : TypeId) (w W : World) (g n : Nat) (d : Nat → Int) (k : Nat) : Prop where
  row : ∃ cur : List Value, W.heap[g]? = some (.cells cur.toArray e (0, 0)) ∧ cur.length = n ∧ ∀ j, j < k → cur[j]? = some (.int .u8 (d j))
  bel : Below g w W
theorem Cpy.free {e : TypeId} {w W : World} {g n : Nat} {d : Nat → Int} {k : Nat} (h : Cpy e w W g n d k) (hk : k < n) : W.frozen? ⟨g, k, none⟩ = false ∧ ∃ v, W.cell? ⟨g, k, none⟩ = some v := by
  obtain ⟨cur, h1, h2, _⟩ := h.row
  refine ⟨blk_free h1 k, ?_⟩
  rw [blk_cell h1 k, List.getElem?_toArray, List.getElem?_eq_getElem (by omega)]
  exact ⟨_, rfl⟩
theorem Cpy.step {e : TypeId} {w W : World} {g n : Nat} {d : Nat → Int} {k : Nat} (h : Cpy e w W g n d k) (hk : k < n) : Cpy e w (W.setCell ⟨g, k, none⟩ (.int .u8 (d k))) g n d (k + 1) := by
  obtain ⟨cur, h1, h2, h3⟩ := h.row
  refine ⟨⟨cur.set k (.int .u8 (d k)), ?_, by simpa using h2, ?_⟩, h.bel.setCell (Nat.le_refl _) _⟩
  · rw [blk_set h1 k]; simp
  · intro j hj
    by_cases hjk : j = k
    · subst hjk; rw [List.getElem?_set_self (by omega)]
    · rw [List.getElem?_set_ne (by omega)]; exact h3 j (by omega)
theorem add_zero_off (g i : Nat) : (⟨g, 0, none⟩ : Addr).add i = ⟨g, i, none⟩ := by simp [Addr.add]; intro h; exact h.symm
theorem Cpy.rowI {e : TypeId} {w W : World} {g n : Nat} {d : Nat → Int} (h : Cpy e w W g n d n) : RowI W (some ⟨g, 0, none⟩) n d := by
  obtain ⟨cur, h1, _, h3⟩ := h.row
  refine .inr ⟨_, rfl, fun i hi => ?_⟩
  rw [add_zero_off, blk_cell h1 i, List.getElem?_toArray]; exact h3 i hi
theorem row_of_owns {w : World} {base g n c : Nat} {e : TypeId} {xs : List Value} (h : w.ownsRow base e 1 (.slice (some ⟨g, 0, none⟩) n c) n xs) : ∃ cur : List Value, w.heap[g]? = some (.cells cur.toArray e (0, 0)) ∧ cur.length = c := by
  obtain ⟨_, h2⟩ := h
  rcases h2 with ⟨h, _⟩ | ⟨g', cap, cur, hv, _, hh, _, _, hs, _⟩
  · cases h
  · simp at hv
    obtain ⟨rfl, rfl⟩ := hv
    exact ⟨cur.toList, by simpa using hh, by simpa using hs⟩

theorem bytes_at (a : Option Addr) (n c : Nat) (w : World) (hm : n ≤ maxLen) :
    Calls Try.prog 4 #[.slice a n c] w fun e w' => e = .returned (.bool (decide (n ≤ 1048576))) ∧ w' = w := by
  unfold maxLen at hm
  by_cases h : n ≤ 1048576
  · rw [decide_eq_true h]
    go_enter Try.func4, Try.ntmps4
    go_wp2
    go_ret
    exact ⟨rfl, rfl⟩
  · rw [decide_eq_false h]
    go_enter Try.func4, Try.ntmps4
    go_wp2
    go_ret
    exact ⟨rfl, rfl⟩

theorem Try.info29' : (Try.prog.info? 29).map (fun i => (i.zero, i.size, i.bytes)) = some (some (.int .u8 0), 1, 1) := by kernel_rfl
theorem Try.info5' : (Try.prog.info? 5).map (fun i => (i.zero, i.size, i.bytes)) = some (some (.int .u8 0), 1, 1) := by kernel_rfl

set_option maxRecDepth 100000 in
set_option maxHeartbeats 1000000 in
theorem toCert_at (a : Option Addr) (n c : Nat) (d : Nat → Int) (w : World) (hn : n ≤ 65536) (h : RowI w a n d) :
    Calls Try.prog 6 #[.slice a n c] w fun e w' => ∃ g, e = .returned (.slice (some ⟨g, 0, none⟩) n n) ∧ RowI w' (some ⟨g, 0, none⟩) n d ∧ Below w.heap.size w w' := by
  obtain ⟨i0, hi0, hz0, hz1, hz2⟩ := info_parts Try.info29'
  have HC : Hid (RowI w a n d) := h
  clear h
  go_enter Try.func6, Try.ntmps6
  go_wp2_with (at_make; refine wpList_make_full _ rfl _ _ 25 rfl w.heap.size 29 i0 (.int .u8 0) 1 Try.underlying25 hi0 hz0 hz1 _ _ _ _ n rfl rfl rfl rfl ?_ ?_ (Nat.le_refl _) ?_)
  · rw [hz2]; omega
  · unfold maxLen; omega
  intro w1 hown hgrow
  obtain ⟨cur, hrow, hlen⟩ := row_of_owns hown
  have hb1 : Below w.heap.size w w1 := (Below.refl _ _).grown hgrow (Nat.le_refl _) (by intro k h; cases h)
  have H0 : Hid (Cpy 29 w w1 w.heap.size n d 0) := show Cpy _ _ _ _ _ _ _ from ⟨⟨cur, hrow, hlen, fun j hj => by omega⟩, hb1⟩
  clear hown hgrow hrow hb1
  obtain ⟨g, hg⟩ : ∃ g, g = w.heap.size := ⟨_, rfl⟩
  rw [← hg] at H0 ⊢
  have HG : Hid (g = w.heap.size) := hg
  clear hg
  go_wp2_with fail
  go_loopw [4] (fun t wr => ∃ k : Nat, k ≤ n ∧ t = .int .i64 k ∧ Hid (Cpy 29 w wr g n d k)) (fun t _ => n - (intOf t).toNat)
  case atStart => exact ⟨0, by omega, rfl, H0⟩
  case round =>
    clear H0
    obtain ⟨k, hk, rfl, hR⟩ := hrel
    by_cases hlt : k < n
    · obtain ⟨f0, v0, c0⟩ := hR.out.free hlt
      obtain ⟨x, rfl, hx⟩ := HC.out.some (by omega)
      have cx : wr.cell? (x.add k) = some (.int .u8 (d k)) := (hR.out.bel.cell (p := x.add k) (by rw [HG.out]; exact cell_lt (hx k hlt))).trans (hx k hlt)
      clear hx
      go_wp2_with fail
      go_roundw
      case rel => exact ⟨k + 1, by omega, by go_num, hR.out.step hlt⟩
      case measure => simp [intOf]; omega
    · obtain rfl : k = n := by omega
      go_wp2_with fail
      go_ret
      exact ⟨_, rfl, hR.out.rowI, by rw [← HG.out]; exact hR.out.bel⟩

/-- The first bytes of the data. -/
def pre (n : Nat) (d : Nat → Int) (k : Nat) : List Value := .int .u8 ((n : Int) % 256) :: (List.range k).map fun j => .int .u8 (d j)
theorem pre_length (n : Nat) (d : Nat → Int) (k : Nat) : (pre n d k).length = 1 + k := by simp [pre]; omega
theorem pre_succ (n : Nat) (d : Nat → Int) (k : Nat) : pre n d k ++ [.int .u8 (d k)] = pre n d (k + 1) := by simp [pre, List.range_succ]
/-- The data. -/
def dat (n : Nat) (d : Nat → Int) (k : Nat) : Int := if k = 0 then (n : Int) % 256 else d (k - 1)
theorem pre_get (n : Nat) (d : Nat → Int) (m k : Nat) (h : k < 1 + m) : (pre n d m)[k]? = some (.int .u8 (dat n d k)) := by
  cases k with
  | zero => rfl
  | succ k => rw [pre, List.getElem?_cons_succ, List.getElem?_map, List.getElem?_range (by omega)]; rfl

theorem own_ge {w : World} {base : Nat} {e : TypeId} {v : Value} {n : Nat} {xs : List Value} (h : w.ownsRow base e 1 v n xs) : ∀ k, v.ownBlock = some k → base ≤ k := by
  intro k hk
  rcases h.2 with ⟨rfl, _⟩ | ⟨g, cap, cur, rfl, hg, _⟩
  · cases hk
  · simp [Value.ownBlock] at hk; omega
theorem own_row {w : World} {base n : Nat} {d : Nat → Int} {v : Value} (h : w.ownsRow base 5 1 v (1 + n) (pre n d n)) : ∃ g cap, v = .slice (some ⟨g, 0, none⟩) (1 + n) cap ∧ RowI w (some ⟨g, 0, none⟩) (1 + n) (dat n d) := by
  rcases h.2 with ⟨_, h0⟩ | ⟨g, cap, cur, rfl, _, hh, h1, _, hs, ht⟩
  · omega
  · refine ⟨g, cap, rfl, .inr ⟨_, rfl, fun i hi => ?_⟩⟩
    rw [add_zero_off, blk_cell hh i, ← pre_get n d n i hi, ← ht, List.getElem?_take_of_lt (by omega), Array.getElem?_toList]

set_option maxRecDepth 100000 in
set_option maxHeartbeats 1000000 in
theorem data_at (x : Addr) (n c : Nat) (d : Nat → Int) (w : World) (hn : n ≤ 65536) (h : RowI w (some x) n d) :
    Calls Try.prog 8 #[.slice (some x) n c] w fun e w' => ∃ g cap, e = .returned (.slice (some ⟨g, 0, none⟩) (1 + n) cap) ∧ RowI w' (some ⟨g, 0, none⟩) (1 + n) (dat n d) ∧ Below w.heap.size w w' := by
  obtain ⟨i0, hi0, hz0, hz1, hz2⟩ := info_parts Try.info5'
  have HC : Hid (RowI w (some x) n d) := h
  clear h
  go_enter Try.func8, Try.ntmps8
  go_wp2_with fail
  have ho0 : (w.alloc (.cells #[.int .u8 ((n : Int) % 256)] 5)).ownsRow w.heap.size 5 1 (.slice (some ⟨w.heap.size, 0, none⟩) 1 1) 1 (pre n d 0) :=
    ⟨rfl, .inr ⟨w.heap.size, 1, _, rfl, Nat.le_refl _, heap_alloc_new _ _, Nat.le_refl _, by unfold maxLen; omega, rfl, rfl⟩⟩
  have hb0 : Below w.heap.size w (w.alloc (.cells #[.int .u8 ((n : Int) % 256)] 5)) := (Below.refl _ _).alloc (Nat.le_refl _) _
  generalize w.alloc (.cells #[.int .u8 ((n : Int) % 256)] 5) = W0 at ho0 hb0 ⊢
  go_loopw [3, 12] (fun v t wr => ∃ k : Nat, k ≤ n ∧ t = .int .i64 k ∧ wr.ownsRow w.heap.size 5 1 v (1 + k) (pre n d k) ∧ Below w.heap.size w wr) (fun _ t _ => n - (intOf t).toNat)
  case atStart => exact ⟨0, by omega, rfl, ho0, hb0⟩
  case round =>
    clear ho0 hb0
    obtain ⟨k, hk, rfl, hown, hB⟩ := hrel
    by_cases hlt : k < n
    · obtain ⟨x', hx', hx⟩ := HC.out.some (by omega)
      obtain rfl : x = x' := by simpa using hx'
      have cx : wr.cell? (x.add k) = some (.int .u8 (d k)) := (hB.cell (p := x.add k) (cell_lt (hx k hlt))).trans (hx k hlt)
      have hsz := hB.size
      clear hx hx'
      go_wp2_with (at_builtin; refine wpList_append_own _ rfl (.tmp 16) (.tmp 18) 22 rfl w.heap.size 5 i0 (.int .u8 0) 1 1 Try.underlying22 hi0 hz0 hz1 hz2 rfl (by decide) _ _ _ rfl (hown.alloc _) ⟨wr.heap.size, 0, none⟩ 1 1 [.int .u8 (d k)] rfl rfl (cell_one_new _ _ _) (fun x hx => by simp at hx; subst hx; rfl) (by unfold maxLen; omega) (by omega) (by simp; omega) ?_)
      intro v' w' hown' hgrow' _
      have hB' : Below w.heap.size w w' := (hB.alloc hsz _).grown hgrow' (by simp; omega) (own_ge hown)
      rw [pre_succ] at hown'
      clear hown hgrow' hB
      go_wp2_with fail
      go_roundw
      case rel => exact ⟨k + 1, by omega, by go_num, hown', hB'⟩
      case measure => simp [intOf]; omega
    · obtain rfl : k = n := by omega
      go_wp2_with fail
      go_ret
      obtain ⟨g, cap, rfl, hrow⟩ := own_row hown
      exact ⟨g, cap, rfl, hrow, hB⟩

end Go.Proofs.Qxb6600287a
