/-
  decodeCertTypes, and the law.
-/
import Derived.Test.Qxb6600287aCert
namespace Go.Proofs.Qxb6600287a
open Go.RowKit

theorem zzData_at (x : Addr) (n c : Nat) (d : Nat → Int) (w : World) (hn : n ≤ 65536) (h : RowI w (some x) n d) :
    Calls Try.prog 5 #[.slice (some x) n c] w fun e w' => ∃ g cap, e = .returned (.slice (some ⟨g, 0, none⟩) (1 + n) cap) ∧ RowI w' (some ⟨g, 0, none⟩) (1 + n) (dat n d) ∧ Below w.heap.size w w' := by
  have hD := data_at x n c d w hn h
  clear h
  go_enter Try.func5, Try.ntmps5
  go_wp2_with fail
  refine hD.mono ?_
  rintro e w' ⟨g, cap, rfl, hR, hB⟩
  clear hD
  have HR : Hid (RowI w' (some ⟨g, 0, none⟩) (1 + n) (dat n d)) := hR
  clear hR
  go_wp2_with fail
  go_ret
  exact ⟨g, cap, rfl, HR.out, hB⟩

set_option maxHeartbeats 1000000 in
/-- The length byte does not say the length: the data are refused. -/
theorem decode_no (g m c N : Nat) (d : Nat → Int) (w : World) (hm : 1 ≤ m) (hm2 : m ≤ 65537) (h : RowI w (some ⟨g, 0, none⟩) m d) (h0 : d 0 = N) (hN : N ≤ 255) (hne : m ≠ 1 + N) :
    Calls Try.prog 7 #[.slice (some ⟨g, 0, none⟩) m c] w fun e w' => e = .returned (.tuple #[.slice none 0 0, .bool false]) ∧ w' = w := by
  obtain ⟨x', hx', hx⟩ := h.some (by omega)
  obtain rfl : (⟨g, 0, none⟩ : Addr) = x' := by simpa using hx'
  have c0 := hx 0 (by omega)
  rw [add_zero_off, h0] at c0
  clear hx h hx' h0
  go_enter Try.func7, Try.ntmps7
  go_wp2_with fail
  go_ret2
  exact ⟨rfl, rfl⟩

set_option maxRecDepth 100000 in
set_option maxHeartbeats 1000000 in
/-- It does: they are copied. -/
theorem decode_yes (g c N : Nat) (d : Nat → Int) (w : World) (h : RowI w (some ⟨g, 0, none⟩) (1 + N) d) (h0 : d 0 = N) (hN : N ≤ 255) :
    Calls Try.prog 7 #[.slice (some ⟨g, 0, none⟩) (1 + N) c] w fun e w' => ∃ q, e = .returned (.tuple #[.slice (some ⟨q, 0, none⟩) N N, .bool true]) ∧ RowI w' (some ⟨q, 0, none⟩) N (fun k => d (1 + k)) ∧ Below w.heap.size w w' := by
  obtain ⟨i0, hi0, hz0, hz1, hz2⟩ := info_parts Try.info5'
  obtain ⟨x', hx', hx⟩ := h.some (by omega)
  obtain rfl : (⟨g, 0, none⟩ : Addr) = x' := by simpa using hx'
  have c0 := hx 0 (by omega)
  rw [add_zero_off, h0] at c0
  have HX : Hid (∀ i, i < 1 + N → w.cell? ⟨g, i, none⟩ = some (.int .u8 (d i))) := show ∀ i, i < 1 + N → w.cell? ⟨g, i, none⟩ = some (.int .u8 (d i)) from fun i hi => by rw [← add_zero_off]; exact hx i hi
  clear hx h hx' h0
  go_enter Try.func7, Try.ntmps7
  go_wp2_with (at_make; refine wpList_make_full _ rfl _ _ 22 rfl w.heap.size 5 i0 (.int .u8 0) 1 Try.underlying22 hi0 hz0 hz1 _ _ _ _ N rfl rfl rfl rfl ?_ ?_ (Nat.le_refl _) ?_)
  · rw [hz2]; omega
  · unfold maxLen; omega
  intro w1 hown hgrow
  obtain ⟨cur, hrow, hlen⟩ := row_of_owns hown
  have hb1 : Below w.heap.size w w1 := (Below.refl _ _).grown hgrow (Nat.le_refl _) (by intro k h; cases h)
  have H0 : Hid (Cpy 5 w w1 w.heap.size N (fun k => d (1 + k)) 0) := show Cpy _ _ _ _ _ _ _ from ⟨⟨cur, hrow, hlen, fun j hj => by omega⟩, hb1⟩
  clear hown hgrow hrow hb1
  obtain ⟨q, hq⟩ : ∃ q, q = w.heap.size := ⟨_, rfl⟩
  rw [← hq] at H0 ⊢
  have HG : Hid (q = w.heap.size) := hq
  clear hq c0
  go_wp2_with fail
  go_loopw [6] (fun t wr => ∃ k : Nat, k ≤ N ∧ t = .int .i64 k ∧ Hid (Cpy 5 w wr q N (fun k => d (1 + k)) k)) (fun t _ => N - (intOf t).toNat)
  case atStart => exact ⟨0, by omega, rfl, H0⟩
  case round =>
    clear H0
    obtain ⟨k, hk, rfl, hR⟩ := hrel
    by_cases hlt : k < N
    · obtain ⟨f0, v0, c0⟩ := hR.out.free hlt
      have hk1 := HX.out (1 + k) (by omega)
      have cx : wr.cell? ⟨g, 1 + k, none⟩ = some (.int .u8 (d (1 + k))) := (hR.out.bel.cell (p := ⟨g, 1 + k, none⟩) (by rw [HG.out]; exact cell_lt hk1)).trans hk1
      clear hk1
      go_wp2_with fail
      go_roundw
      case rel => exact ⟨k + 1, by omega, by go_num, hR.out.step hlt⟩
      case measure => simp [intOf]; omega
    · obtain rfl : k = N := by omega
      go_wp2_with fail
      go_ret2
      exact ⟨_, rfl, hR.out.rowI, by rw [← HG.out]; exact hR.out.bel⟩

end Go.Proofs.Qxb6600287a
