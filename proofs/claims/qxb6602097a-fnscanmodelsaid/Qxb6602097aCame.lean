/-
  A slice of bytes that came in; zzClone of it.
-/
import Derived.Test.Qxb6602097aClone
namespace Go.Proofs.Qxb6602097a
open Go.RowKit

/-- What is known of a slice of bytes that came in: it is nil and empty, or its bytes lie where it says. -/
def Came (w : World) (a : Option Addr) (n : Nat) (d : Nat → Int) : Prop := (a = none ∧ n = 0) ∨ ∃ x, a = some x ∧ ∀ k, k < n → w.cell? (x.add k) = some (.int .u8 (d k))

theorem Came.below {w w' : World} {a : Option Addr} {n : Nat} {d : Nat → Int} (h : Came w a n d) (hb : Below w.heap.size w w') : Came w' a n d := by
  rcases h with h | ⟨x, rfl, hc⟩
  · exact .inl h
  · exact .inr ⟨x, rfl, fun k hk => (hb.cell (p := x.add k) (cell_lt (hc k hk))).trans (hc k hk)⟩

theorem plain_add (b o i : Nat) : (⟨b, o, none⟩ : Addr).add i = ⟨b, o + i, none⟩ := by unfold Addr.add; split <;> simp_all

theorem Came.cell {w : World} {a : Option Addr} {n : Nat} {d : Nat → Int} (h : Came w a n d) {x : Addr} (hx : a = some x) {k : Nat} (hk : k < n) : w.cell? (x.add k) = some (.int .u8 (d k)) := by
  rcases h with ⟨h, _⟩ | ⟨y, h, hc⟩
  · rw [h] at hx; cases hx
  · rw [h] at hx; cases hx; exact hc k hk

/-- Two texts one behind the other, owned: the bytes of the first, then those of the second. -/
theorem txt_of_owns {w : World} {base g' g m cap : Nat} {d dx : Nat → Int} (h : w.ownsRow base 5 1 (.slice (some ⟨g', 0, none⟩) (g + m) cap) (g + m) (cellsOf d g ++ cellsOf dx m)) :
    Txt w g' 0 (g + m) (fun k => if k < g then d k else dx (k - g)) := by
  intro k hk
  rw [Nat.zero_add, h.cellAt k (by omega)]
  by_cases hkg : k < g
  · rw [List.getElem?_append_left (by rw [length_cellsOf]; exact hkg)]
    exact (get_cellsOf d g k _).2 ⟨hkg, by simp [hkg]⟩
  · rw [List.getElem?_append_right (by rw [length_cellsOf]; omega), length_cellsOf]
    exact (get_cellsOf dx m (k - g) _).2 ⟨by omega, by simp [hkg]⟩

theorem zzClone_pos (a : Option Addr) (n c : Nat) (d : Nat → Int) (w : World) (hn : n ≤ 1048576) (h0 : 0 < n) (h : Came w a n d) :
    Calls Try.prog 11 #[.slice a n c] w fun e w' => e = .returned (.slice (some ⟨w.heap.size, 0, none⟩) n n) ∧ Below w.heap.size w w' ∧ Txt w' w.heap.size 0 n d ∧ w.heap.size < w'.heap.size := by
  rcases h with ⟨_, h⟩ | ⟨x, rfl, hc⟩
  · omega
  · exact zzClone_some x n c d w hn hc

theorem zzClone_any (a : Option Addr) (n c : Nat) (d : Nat → Int) (w : World) (hn : n ≤ 1048576) (h : Came w a n d) :
    Calls Try.prog 11 #[.slice a n c] w fun e w' => ∃ a' c', e = .returned (.slice a' n c') ∧ Below w.heap.size w w' ∧ (a' = none → n = 0 ∧ c' = 0) ∧ Came w' a' n d := by
  rcases h with ⟨rfl, rfl⟩ | ⟨x, rfl, hc⟩
  · refine (zzClone_nil 0 c w).mono ?_
    rintro e w' ⟨rfl, rfl⟩
    exact ⟨none, 0, rfl, Below.refl _ _, fun _ => ⟨rfl, rfl⟩, .inl ⟨rfl, rfl⟩⟩
  · refine (zzClone_some x n c d w hn hc).mono ?_
    rintro e w' ⟨rfl, hb, ht, _⟩
    refine ⟨some ⟨w.heap.size, 0, none⟩, n, rfl, hb, ?_, .inr ⟨_, rfl, fun k hk => ?_⟩⟩
    · intro h; cases h
    · have := ht k hk
      simp only [Nat.zero_add] at this
      cases k <;> simpa [Addr.add] using this

end Go.Proofs.Qxb6602097a
