/-
  FnCertTypesDataRoundTrip.
-/
import Derived.Test.Qxb6600287aTrip
namespace Go.Proofs.Qxb6600287a
open Go.RowKit

set_option maxRecDepth 100000 in
set_option maxHeartbeats 2000000 in
theorem trip_at (a : Option Addr) (n c : Nat) (d : Nat → Int) (w : World) (hm : n ≤ maxLen) (h : RowI w a n d) :
    Calls Try.prog 3 #[.slice a n c] w fun e w' => e = .returned (.bool true) ∧ Below w.heap.size w w' := by
  have hbytes := bytes_at a n c w hm
  unfold maxLen at hm
  have HR : Hid (RowI w a n d) := h
  clear h
  by_cases hs : n ≤ 1048576
  case neg =>
    rw [decide_eq_false hs] at hbytes
    go_enter Try.func3, Try.ntmps3
    go_wp2_with fail
    refine hbytes.mono ?_
    rintro e w' ⟨rfl, rfl⟩
    clear hbytes
    go_wp2_with fail
    go_ret
    exact ⟨rfl, Below.refl _ _⟩
  rw [decide_eq_true hs] at hbytes
  by_cases hl : n ≤ 65536
  case neg =>
    go_enter Try.func3, Try.ntmps3
    go_wp2_with fail
    refine hbytes.mono ?_
    rintro e w' ⟨rfl, rfl⟩
    clear hbytes
    go_wp2_with fail
    go_ret
    exact ⟨rfl, Below.refl _ _⟩
  go_enter Try.func3, Try.ntmps3
  go_wp2_with fail
  refine hbytes.mono ?_
  rintro e w0 ⟨rfl, rfl⟩
  clear hbytes
  go_wp2_with fail
  refine (toCert_at a n c d _ hl HR.out).mono ?_
  rintro e w1 ⟨g1, rfl, h1, hb1⟩
  go_wp2_with fail
  refine (zzData_at _ n n d _ hl h1).mono ?_
  rintro e w2 ⟨g2, c2, rfl, h2, hb2⟩
  have hB2 : Below w0.heap.size w0 w2 := hb1.trans (hb2.mono hb1.size)
  clear h1 hb1 hb2
  have H2 : Hid (RowI w2 (some ⟨g2, 0, none⟩) (1 + n) (dat n d)) := h2
  clear h2
  by_cases h255 : n ≤ 255
  case neg =>
    go_wp2_with fail
    refine (decode_no g2 (1 + n) c2 (n % 256) (dat n d) _ (by omega) (by omega) H2.out (by simp [dat]) (by omega) (by omega)).mono ?_
    rintro e w3 ⟨rfl, rfl⟩
    go_wp2_with fail
    go_ret
    exact ⟨rfl, hB2⟩
  go_wp2_with fail
  refine (decode_yes g2 c2 n (dat n d) _ H2.out (by simp only [dat, if_pos]; omega) h255).mono ?_
  rintro e w3 ⟨q, rfl, h3, hb3⟩
  have hB3 : Below w0.heap.size w0 w3 := hB2.trans (hb3.mono hB2.size)
  have H3 : Hid (RowI w3 (some ⟨q, 0, none⟩) n (fun k => dat n d (1 + k))) := h3
  have H0 : Hid (RowI w3 a n d) := HR.out.below hB3
  clear h3 hb3 hB2 H2 HR
  go_wp2_with fail
  go_loopw [6] (fun t wr => ∃ k : Nat, k ≤ n ∧ t = .int .i64 k ∧ ∃ nq, wr = w3.drewN nq) (fun t _ => n - (intOf t).toNat)
  case atStart => exact ⟨0, by omega, rfl, 0, rfl⟩
  case round =>
    obtain ⟨k, hk, rfl, nq, rfl⟩ := hrel
    by_cases hlt : k < n
    · obtain ⟨x, rfl, hx⟩ := H0.out.some (by omega)
      obtain ⟨y, hy', hy⟩ := H3.out.some (by omega)
      obtain rfl : (⟨q, 0, none⟩ : Addr) = y := by simpa using hy'
      have cx : w3.cell? (x.add k) = some (.int .u8 (d k)) := hx k hlt
      have cy : w3.cell? ⟨q, k, none⟩ = some (.int .u8 (d k)) := by
        have := hy k hlt
        rw [add_zero_off] at this
        simpa [dat] using this
      clear hx hy hy'
      go_wp2_with fail
      go_quiet (fail)
      go_wp2_with fail
      go_roundw
      case rel => exact ⟨k + 1, by omega, by go_num, _, rfl⟩
      case measure => simp [intOf]; omega
    · go_wp2_with fail
      go_ret
      exact ⟨rfl, hB3.trans ⟨rfl, rfl, rfl, Nat.le_refl _, fun _ _ => rfl⟩⟩

end Go.Proofs.Qxb6600287a
