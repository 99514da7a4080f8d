/-
  FnScanStringSelfDelimiting: the walk.
-/
import Derived.Test.Qxb6602097aString
import Derived.Test.Qxb6602097aStrLaw
import Derived.Test.Qxb6602097aClone
namespace Go.Proofs.Qxb6602097a
open Go.RowKit

/-- What is known of a slice of bytes that came in: it is nil and empty, or its bytes lie where it says. -/
def Came (w : World) (a : Option Addr) (n : Nat) (d : Nat → Int) : Prop := (a = none ∧ n = 0) ∨ ∃ x, a = some x ∧ ∀ k, k < n → w.cell? (x.add k) = some (.int .u8 (d k))

theorem Came.below {w w' : World} {a : Option Addr} {n : Nat} {d : Nat → Int} (h : Came w a n d) (hb : Below w.heap.size w w') : Came w' a n d := by
  rcases h with h | ⟨x, rfl, hc⟩
  · exact .inl h
  · exact .inr ⟨x, rfl, fun k hk => (hb.cell (p := x.add k) (cell_lt (hc k hk))).trans (hc k hk)⟩

theorem plain_add (b o i : Nat) : (⟨b, o, none⟩ : Addr).add i = ⟨b, o + i, none⟩ := by unfold Addr.add; split <;> simp_all

theorem Came.cell {w : World} {a : Option Addr} {n : Nat} {d : Nat → Int} (h : Came w a n d) {x : Addr} (hx : a = some x) {k : Nat} (hk : k < n) : w.cell? (x.add k) = some (.int .u8 (d k)) := by
  rcases h with ⟨h, _⟩ | ⟨y, h, hc⟩
  · rw [h] at hx; cases hx
  · rw [h] at hx; cases hx; exact hc k hk

/-- Two texts one behind the other, owned: the bytes of the first, then those of the second. -/
theorem txt_of_owns {w : World} {base g' g m cap : Nat} {d dx : Nat → Int} (h : w.ownsRow base 5 1 (.slice (some ⟨g', 0, none⟩) (g + m) cap) (g + m) (cellsOf d g ++ cellsOf dx m)) :
    Txt w g' 0 (g + m) (fun k => if k < g then d k else dx (k - g)) := by
  intro k hk
  rw [Nat.zero_add, h.cellAt k (by omega)]
  by_cases hkg : k < g
  · rw [List.getElem?_append_left (by rw [length_cellsOf]; exact hkg)]
    exact (get_cellsOf d g k _).2 ⟨hkg, by simp [hkg]⟩
  · rw [List.getElem?_append_right (by rw [length_cellsOf]; omega), length_cellsOf]
    exact (get_cellsOf dx m (k - g) _).2 ⟨by omega, by simp [hkg]⟩

theorem zzClone_pos (a : Option Addr) (n c : Nat) (d : Nat → Int) (w : World) (hn : n ≤ 1048576) (h0 : 0 < n) (h : Came w a n d) :
    Calls Try.prog 11 #[.slice a n c] w fun e w' => e = .returned (.slice (some ⟨w.heap.size, 0, none⟩) n n) ∧ Below w.heap.size w w' ∧ Txt w' w.heap.size 0 n d ∧ w.heap.size < w'.heap.size := by
  rcases h with ⟨_, h⟩ | ⟨x, rfl, hc⟩
  · omega
  · exact zzClone_some x n c d w hn hc

theorem zzClone_any (a : Option Addr) (n c : Nat) (d : Nat → Int) (w : World) (hn : n ≤ 1048576) (h : Came w a n d) :
    Calls Try.prog 11 #[.slice a n c] w fun e w' => ∃ a' c', e = .returned (.slice a' n c') ∧ Below w.heap.size w w' ∧ (a' = none → n = 0 ∧ c' = 0) ∧ Came w' a' n d := by
  rcases h with ⟨rfl, rfl⟩ | ⟨x, rfl, hc⟩
  · refine (zzClone_nil 0 c w).mono ?_
    rintro e w' ⟨rfl, rfl⟩
    exact ⟨none, 0, rfl, Below.refl _ _, fun _ => ⟨rfl, rfl⟩, .inl ⟨rfl, rfl⟩⟩
  · refine (zzClone_some x n c d w hn hc).mono ?_
    rintro e w' ⟨rfl, hb, ht, _⟩
    refine ⟨some ⟨w.heap.size, 0, none⟩, n, rfl, hb, ?_, .inr ⟨_, rfl, fun k hk => ?_⟩⟩
    · intro h; cases h
    · have := ht k hk
      simp only [Nat.zero_add] at this
      cases k <;> simpa [Addr.add] using this

theorem bytes20_yes (a0 a3 : Option Addr) (n0 c0 n3 c3 : Nat) (i k : Int) (w : World) (h : n0 + n3 ≤ 1048576) :
    Calls Try.prog 20 #[.slice a0 n0 c0, .int .i64 i, .int .i64 k, .slice a3 n3 c3] w fun e w' => e = .returned (.bool true) ∧ w = w' := by
  go_enter Try.func20, Try.ntmps20
  go_wp2
  go_ret
  exact ⟨rfl, rfl⟩

theorem bytes20_no (a0 a3 : Option Addr) (n0 c0 n3 c3 : Nat) (i k : Int) (w : World) (h : 1048576 < n0 + n3) (h0 : n0 ≤ maxLen) (h3 : n3 ≤ maxLen) :
    Calls Try.prog 20 #[.slice a0 n0 c0, .int .i64 i, .int .i64 k, .slice a3 n3 c3] w fun e w' => e = .returned (.bool false) ∧ w = w' := by
  unfold maxLen at h0 h3
  by_cases l0 : n0 ≤ 1048576
  · by_cases l3 : n3 ≤ 1048576
    · go_enter Try.func20, Try.ntmps20
      go_wp2
      go_ret
      exact ⟨rfl, rfl⟩
    · go_enter Try.func20, Try.ntmps20
      go_wp2
      go_ret
      exact ⟨rfl, rfl⟩
  · go_enter Try.func20, Try.ntmps20
    go_wp2
    go_ret
    exact ⟨rfl, rfl⟩

theorem ZZscanString_at {b off n cp : Nat} {d : Nat → Int} {v : Int} (i : Nat) {w : World} (ht : Txt w b off n d) (hv : v = (i : Int)) (hi : i < n) (hn : n ≤ 1048576) :
    Calls Try.prog 18 #[.slice (some ⟨b, off, none⟩) n cp, .int .i64 v] w fun e w' => e = .returned (.int .i64 (Pl.str d n (i + 1))) ∧ w = w' := by
  subst hv
  exact (ZZscanString_any b off n cp d i w hi hn ht).mono fun e w' h => ⟨h.1, h.2.symm⟩

set_option maxRecDepth 100000 in
set_option maxHeartbeats 1000000 in
theorem self_walk (a0 a3 : Option Addr) (n c0 m c3 : Nat) (i k : Int) (d dx : Nat → Int) (w : World) (hm0 : n ≤ maxLen) (hm3 : m ≤ maxLen) (w0 : Came w a0 n d) (w3 : Came w a3 m dx) :
    Calls Try.prog 7 #[.slice a0 n c0, .int .i64 i, .int .i64 k, .slice a3 m c3] w fun e w' => e = .returned (.bool true) ∧ Below w.heap.size w w' := by
  by_cases hs : n + m ≤ 1048576
  · by_cases hi0 : i < 0
    · clear hm0 hm3
      go_enter Try.func7, Try.ntmps7
      go_wp2_with (go_at_call 20; refine (bytes20_yes _ _ _ _ _ _ _ _ _ hs).mono ?_; rintro e w' ⟨rfl, rfl⟩)
      go_ret
      exact ⟨rfl, Below.refl _ _⟩
    by_cases hin : (n : Int) ≤ i
    · clear hm0 hm3
      go_enter Try.func7, Try.ntmps7
      go_wp2_with (go_at_call 20; refine (bytes20_yes _ _ _ _ _ _ _ _ _ hs).mono ?_; rintro e w' ⟨rfl, rfl⟩)
      go_ret
      exact ⟨rfl, Below.refl _ _⟩
    obtain ⟨j, rfl⟩ := Int.eq_ofNat_of_zero_le (show 0 ≤ i by omega)
    have hj : j < n := by omega
    have hn1 : n ≤ 1048576 := by omega
    have hm1 : m ≤ 1048576 := by omega
    clear hi0 hin hm0 hm3
    go_enter Try.func7, Try.ntmps7
    go_wp2_with (go_at_call 20; refine (bytes20_yes _ _ _ _ _ _ _ _ _ hs).mono ?_; rintro e w' ⟨rfl, rfl⟩)
    refine (zzClone_pos _ _ _ d _ hn1 (by omega) w0).mono ?_
    rintro e w1 ⟨rfl, hb1, ht1, hz1⟩
    have w3' := w3.below hb1
    clear w0 w3
    go_wp2_with fail
    refine (zzClone_any _ _ _ dx _ hm1 w3').mono ?_
    rintro e w2 ⟨a2, c2, rfl, hb2, hnil, hx⟩
    have ht2 : Txt w2 w.heap.size 0 n d := ht1.below hb2 hz1
    have hb : Below w.heap.size w w2 := hb1.trans (hb2.mono hb1.size)
    clear w3' ht1
    have h0 : (0 : Int) ≤ (j : Int) := by omega
    have htj : Txt w2 w.heap.size j (n - j) (fun k => d (j + k)) := by simpa using ht2.behind (i := j) (by omega)
    rcases Pl.str_range d n (j + 1) with hg | ⟨g, hg, hg1, hg2, hg3⟩
    · -- no string: both answers are -1
      have hsh := Pl.str_shift d n j 1 (by omega)
      rw [hg] at hsh
      have hs1 : Pl.str (fun k => d (j + k)) (n - j) 1 = -1 := by
        rcases Pl.str_range (fun k => d (j + k)) (n - j) 1 with e | ⟨g', e, _⟩
        · exact e
        · rw [e, if_neg (by omega)] at hsh; omega
      clear hsh
      go_wp2_with fail
      refine (ZZscanString_at j ht2 rfl hj hn1).mono ?_
      rintro e w' ⟨rfl, rfl⟩
      rw [hg]
      go_wp2_with fail
      refine (ZZscanString_at 0 htj rfl (by omega) (by omega)).mono ?_
      rintro e w' ⟨rfl, rfl⟩
      rw [hs1]
      go_wp2_with fail
      go_ret
      exact ⟨rfl, hb⟩
    · -- a string that ends at g
      have hsh := Pl.str_shift d n j 1 (by omega)
      rw [hg] at hsh
      have hs1 : Pl.str (fun k => d (j + k)) (n - j) 1 = ((g - j : Nat) : Int) := by
        rcases Pl.str_range (fun k => d (j + k)) (n - j) 1 with e | ⟨g', e, _⟩
        · rw [e, if_pos (by omega)] at hsh; omega
        · rw [e, if_neg (by omega)] at hsh; rw [e]; omega
      clear hsh
      have hq : w2.cell? ⟨w.heap.size, g - 1, none⟩ = some (.int .u8 34) := by
        have := ht2 (g - 1) (by omega)
        rwa [hg3, Nat.zero_add] at this
      clear hg3
      have hcut := Pl.str_same (d' := d) (n' := g) hg (Nat.le_refl _) (fun _ _ => rfl)
      have htg : Txt w2 w.heap.size 0 g d := ht2.cut hg2
      go_wp2_with fail
      refine (ZZscanString_at j ht2 rfl hj hn1).mono ?_
      rintro e w' ⟨rfl, rfl⟩
      rw [hg]
      go_wp2_with fail
      refine (ZZscanString_at 0 htj rfl (by omega) (by omega)).mono ?_
      rintro e w' ⟨rfl, rfl⟩
      rw [hs1]
      go_wp2_with fail
      refine (ZZscanString_at j htg rfl (by omega) (by omega)).mono ?_
      rintro e w' ⟨rfl, rfl⟩
      rw [hcut]
      clear hs1 htj hq hcut
      obtain ⟨i0, e0, e1, e2, e3⟩ := info_parts Try.info5
      go_wp2_with (at_make; refine wpList_make_own _ rfl _ _ 22 rfl w2.heap.size 5 i0 (.int .u8 0) 1 Try.underlying22 e0 e1 e2 _ _ _ (g + m) rfl rfl (by omega) ?_ ?_ (Nat.le_refl _) ?_)
      · rw [e3]; omega
      · unfold maxLen; omega
      intro w3 hown3 hgrow3
      have hb3 : Below w2.heap.size w2 w3 := (Below.refl _ _).grown hgrow3 (Nat.le_refl _) (by intro k h; cases h)
      have hlt2 : w.heap.size < w2.heap.size := cell_lt (ht2 0 (by omega))
      have ht3 : Txt w3 w.heap.size 0 n d := ht2.below hb3 hlt2
      have hx3 := hx.below hb3
      clear hgrow3
      go_wp2_with (at_builtin; refine wpList_append_fits _ rfl (.tmp 94) (.tmp 97) 22 rfl w2.heap.size 5 i0 1 Try.underlying22 e0 e2 w2.heap.size 0 (g + m) [] rfl hown3 ⟨w.heap.size, 0, none⟩ g n (cellsOf d g) rfl ?_ ?_ (one_cellsOf _ _) ?_ ?_)
      · rw [length_cellsOf]; omega
      · intro q u hu
        obtain ⟨hq, rfl⟩ := (get_cellsOf d g q u).1 hu
        rw [plain_add]
        exact ht3 q (by omega)
      · omega
      intro w4 hown4 hgrow4
      have hb4 : Below w2.heap.size w2 w4 := hb3.grown hgrow4 hb3.size (by intro k h; cases h; exact Nat.le_refl _)
      have hx4 := hx.below hb4
      clear hgrow4 hown3 hx3
      go_wp2_with (at_builtin; refine wpList_append_fits_any _ rfl (.tmp 99) (.tmp 100) 22 rfl w2.heap.size 5 i0 1 Try.underlying22 e0 e2 w2.heap.size g (g + m) (cellsOf d g) rfl hown4 a2 m c2 (cellsOf dx m) rfl ?_ hnil ?_ (one_cellsOf _ _) ?_ ?_)
      · rw [length_cellsOf]; omega
      · intro ad had q u hu
        obtain ⟨hq, rfl⟩ := (get_cellsOf dx m q u).1 hu
        exact hx4.cell had hq
      · omega
      intro w5 hown5 hgrow5
      have hb5 : Below w2.heap.size w2 w5 := hb4.grown hgrow5 hb4.size (by intro k h; cases h; exact Nat.le_refl _)
      have ht5 : Txt w5 w2.heap.size 0 (g + m) (fun k => if k < g then d k else dx (k - g)) := txt_of_owns hown5
      have hd5 : Txt w5 w.heap.size 0 n d := ht2.below hb5 hlt2
      have hend : Below w.heap.size w w5 := hb.trans (hb5.mono hb.size)
      have hext : Pl.str (fun k => if k < g then d k else dx (k - g)) (g + m) (j + 1) = (g : Int) := Pl.str_same hg (by omega) (fun k hk => if_pos hk)
      clear hgrow5 hown4 hown5 hx4 hb3 hb4 ht3 hx hnil e0 e1 e2 e3 htg hb1 hb2 hz1
      go_wp2_with fail
      refine (ZZscanString_at j ht5 rfl (by omega) (by omega)).mono ?_
      rintro e w' ⟨rfl, rfl⟩
      rw [hext]
      clear ht5 hext
      by_cases hk1 : (j : Int) < k
      · by_cases hk2 : k < (g : Int)
        · obtain ⟨q, rfl⟩ := Int.eq_ofNat_of_zero_le (show 0 ≤ k by omega)
          have hsq : Pl.str d q (j + 1) = -1 := Pl.str_short hg (by omega)
          have htq : Txt w5 w.heap.size 0 q d := hd5.cut (by omega)
          go_wp2_with fail
          refine (ZZscanString_at j htq rfl (by omega) (by omega)).mono ?_
          rintro e w' ⟨rfl, rfl⟩
          rw [hsq]
          go_wp2_with fail
          go_ret
          exact ⟨rfl, hend⟩
        · go_wp2_with fail
          go_ret
          exact ⟨rfl, hend⟩
      · go_wp2_with fail
        go_ret
        exact ⟨rfl, hend⟩
  · go_enter Try.func7, Try.ntmps7
    go_wp2_with (go_at_call 20; refine (bytes20_no _ _ _ _ _ _ _ _ _ (by omega) hm0 hm3).mono ?_; rintro e w' ⟨rfl, rfl⟩)
    go_ret
    exact ⟨rfl, Below.refl _ _⟩

end Go.Proofs.Qxb6602097a
