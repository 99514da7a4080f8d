/-
  zzClone.
-/
import Derived.Test.Qxb6602097aLeaf
import Derived.Laws.CopyOwn
import Derived.Lib.SliceRun
namespace Go.Proofs.Qxb6602097a
open Go.RowKit

/-- The n bytes of the text d lie at block b from place off on. -/
def Txt (w : World) (b off n : Nat) (d : Nat → Int) : Prop := ∀ k, k < n → w.cell? ⟨b, off + k, none⟩ = some (.int .u8 (d k))
theorem Txt.cut {w : World} {b off n : Nat} {d : Nat → Int} (h : Txt w b off n d) {m : Nat} (hm : m ≤ n) : Txt w b off m d := fun k hk => h k (by omega)
theorem Txt.behind {w : World} {b off n : Nat} {d : Nat → Int} (h : Txt w b off n d) {i : Nat} (_hi : i ≤ n) : Txt w b (off + i) (n - i) (fun k => d (i + k)) := fun k hk => by
  have := h (i + k) (by omega)
  rw [show off + i + k = off + (i + k) from by omega]; exact this
theorem Txt.below {w w' : World} {b off n B : Nat} {d : Nat → Int} (h : Txt w b off n d) (hb : Below B w w') (hB : b < B) : Txt w' b off n d := fun k hk => (hb.cell (p := ⟨b, off + k, none⟩) hB).trans (h k hk)

theorem Try.info5 : (Try.prog.info? 5).map (fun i => (i.zero, i.size, i.bytes)) = some (some (.int .u8 0), 1, 1) := by kernel_rfl
theorem Try.size5 : (Try.prog.info? 5).map (·.size) = some 1 := by kernel_rfl

theorem zzClone_nil (n c : Nat) (w : World) :
    Calls Try.prog 11 #[.slice none n c] w fun e w' => e = .returned (.slice none 0 0) ∧ w' = w := by
  have q22 : ∀ (w : World) (a : Option Addr) (n c n' c' : Nat), (binOp .eql 22 (.slice a n c) (.slice none n' c')).run Try.prog w = .ok (.bool a.isNone) w := fun w a n c n' c' => Lib.run_eql_slice_nil w _ _ a n c n' c' Try.underlying22
  go_enter Try.func11, Try.ntmps11
  go_wp2
  go_ret
  exact ⟨rfl, rfl⟩

theorem cell_lt {w : World} {a : Addr} {v : Value} (h : w.cell? a = some v) : a.block < w.heap.size := by
  unfold World.cell? at h
  by_cases hb : a.block < w.heap.size
  · exact hb
  · rw [Array.getElem?_eq_none (by omega)] at h; cases h

/-- The cells of the text d. -/
def cellsOf (d : Nat → Int) (n : Nat) : List Value := (List.range n).map fun k => .int .u8 (d k)
theorem length_cellsOf (d : Nat → Int) (n : Nat) : (cellsOf d n).length = n := by simp [cellsOf]
theorem get_cellsOf (d : Nat → Int) (n k : Nat) (v : Value) : (cellsOf d n)[k]? = some v ↔ k < n ∧ v = .int .u8 (d k) := by
  unfold cellsOf
  rw [List.getElem?_map]
  by_cases h : k < n
  · rw [List.getElem?_range h]; simp [h]; exact eq_comm
  · rw [List.getElem?_eq_none (by simp; omega)]; simp [h]
theorem one_cellsOf (d : Nat → Int) (n : Nat) : ∀ v ∈ cellsOf d n, v.oneCell' = true := by
  intro v hv
  simp [cellsOf] at hv
  obtain ⟨k, _, rfl⟩ := hv
  rfl

theorem txt_of_block {w : World} {g n : Nat} {d : Nat → Int} {cur : List Value} {t : TypeId} (h : w.heap[g]? = some (.cells (splice cur 0 (cellsOf d n)).toArray t (0, 0))) : Txt w g 0 n d := by
  intro k hk
  rw [cell_of_row w g (0 + k) _ t (0, 0) h]
  simp only [Nat.zero_add, splice, List.take_zero, List.nil_append, List.getElem?_toArray]
  rw [List.getElem?_append_left (by rw [length_cellsOf]; exact hk)]
  exact (get_cellsOf d n k _).2 ⟨hk, rfl⟩

theorem row_of_owns {w : World} {base g n c : Nat} {e : TypeId} {xs : List Value} (h : w.ownsRow base e 1 (.slice (some ⟨g, 0, none⟩) n c) n xs) : ∃ cur : List Value, w.heap[g]? = some (.cells cur.toArray e (0, 0)) ∧ cur.length = c := by
  obtain ⟨_, h2⟩ := h
  rcases h2 with ⟨h, _⟩ | ⟨g', cap, cur, hv, _, hh, _, _, hs, _⟩
  · cases h
  · simp at hv
    obtain ⟨rfl, rfl⟩ := hv
    exact ⟨cur.toList, by simpa using hh, by simpa using hs⟩

set_option maxHeartbeats 400000 in
theorem zzClone_some (x : Addr) (n c : Nat) (d : Nat → Int) (w : World) (hn : n ≤ 1048576) (hc : ∀ k, k < n → w.cell? (x.add k) = some (.int .u8 (d k))) :
    Calls Try.prog 11 #[.slice (some x) n c] w fun e w' => e = .returned (.slice (some ⟨w.heap.size, 0, none⟩) n n) ∧ Below w.heap.size w w' ∧ Txt w' w.heap.size 0 n d ∧ w.heap.size < w'.heap.size := by
  have q22 : ∀ (w : World) (a : Option Addr) (n c n' c' : Nat), (binOp .eql 22 (.slice a n c) (.slice none n' c')).run Try.prog w = .ok (.bool a.isNone) w := fun w a n c n' c' => Lib.run_eql_slice_nil w _ _ a n c n' c' Try.underlying22
  obtain ⟨i0, hi0, hz0, hz1, hz2⟩ := info_parts Try.info5
  have HC : Hid (∀ k, k < n → w.cell? (x.add k) = some (.int .u8 (d k))) := hc
  clear hc
  go_enter Try.func11, Try.ntmps11
  go_wp2_with (at_make; refine wpList_make_full _ rfl _ _ 22 rfl w.heap.size 5 i0 (.int .u8 0) 1 Try.underlying22 hi0 hz0 hz1 _ _ _ _ n rfl rfl rfl rfl ?_ ?_ (Nat.le_refl _) ?_)
  · rw [hz2]; omega
  · unfold maxLen; omega
  intro w1 hown hgrow
  obtain ⟨cur, hrow, hlen⟩ := row_of_owns hown
  have HR : Hid (w1.heap[w.heap.size]? = some (.cells cur.toArray 5 (0, 0))) := hrow
  have hb1 : Below w.heap.size w w1 := (Below.refl _ _).grown hgrow (Nat.le_refl _) (by intro k h; cases h)
  clear hown hgrow hrow
  go_wp2_with (refine wpList_copy_splice rfl (.tmp 9) (.tmp 10) 22 22 rfl 5 Try.underlying22 Try.size5 _ _ _ _ _ _ rfl rfl w.heap.size 0 cur 5 HR.out (cellsOf d n) ?_ ?_ ?_ (one_cellsOf d n) w.heap.size w hb1 (Nat.le_refl _) ?_)
  · rw [length_cellsOf]; simp
  · intro h
    rw [length_cellsOf] at h
    intro j v hv
    obtain ⟨hj, rfl⟩ := (get_cellsOf d n j v).1 hv
    exact (hb1.cell (p := x.add j) (cell_lt (HC.out j hj))).trans (HC.out j hj)
  · rw [length_cellsOf, hlen]; omega
  intro w2 HG2 hb2
  have ht := txt_of_block HG2.out
  have hs : w.heap.size < w2.heap.size := (Array.getElem?_eq_some_iff.1 HG2.out).1
  have HT : Hid (Txt w2 w.heap.size 0 n d) := ht
  clear HR HG2 hb1 ht
  go_wp2
  go_ret
  exact ⟨rfl, hb2, HT.out, hs⟩

end Go.Proofs.Qxb6602097a
