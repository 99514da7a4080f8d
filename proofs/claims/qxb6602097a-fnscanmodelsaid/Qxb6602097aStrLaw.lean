/-
  PLAIN LAWS of scanString's reading. No Go in sight.
-/
import Derived.Test.Qxb6602097aPlain
namespace Go.Proofs.Qxb6602097a.Pl

/-- Nothing, or a place past j, within the text, right behind a quote. -/
theorem strF_range (d : Nat → Int) (n : Nat) : ∀ f j, strF d n f j = -1 ∨ ∃ g : Nat, strF d n f j = (g : Int) ∧ j + 1 ≤ g ∧ g ≤ n ∧ d (g - 1) = 34 := by
  intro f
  induction f with
  | zero => intro j; exact .inl rfl
  | succ f ih =>
    intro j
    have step : ∀ m, j ≤ m → (strF d n f m = -1 ∨ ∃ g : Nat, strF d n f m = (g : Int) ∧ j + 1 ≤ g ∧ g ≤ n ∧ d (g - 1) = 34) := by
      intro m hm
      rcases ih m with h | ⟨g, h1, h2, h3, h4⟩
      · exact .inl h
      · exact .inr ⟨g, h1, by omega, h3, h4⟩
    simp only [strF]
    split
    · exact .inl rfl
    split
    · exact step _ (by omega)
    split
    · rename_i h; exact .inr ⟨j + 1, rfl, by omega, by omega, by simpa using h⟩
    split
    · exact .inl rfl
    split
    · exact step _ (by omega)
    split
    · split
      · exact .inl rfl
      · exact step _ (by omega)
    · exact .inl rfl

/-- A string that is found is found again in every text that agrees with this one up to its end. -/
theorem strF_same (d d' : Nat → Int) (n n' : Nat) : ∀ f j (g : Nat), strF d n f j = (g : Int) → g ≤ n' → (∀ k, k < g → d' k = d k) → strF d' n' f j = (g : Int) := by
  intro f
  induction f with
  | zero => intro j g h; simp [strF] at h
  | succ f ih =>
    intro j g h hn hd
    have hr : j + 1 ≤ g ∧ g ≤ n := by
      rcases strF_range d n (f + 1) j with e | ⟨g', e, e1, e2, _⟩
      · rw [e] at h; omega
      · rw [e] at h; omega
    have d0 : d' j = d j := hd j (by omega)
    have after : ∀ m, strF d n f m = (g : Int) → m + 1 ≤ g := by
      intro m hm
      rcases strF_range d n f m with e | ⟨g', e, e1, _, _⟩
      · rw [e] at hm; omega
      · rw [e] at hm; omega
    simp only [strF] at h ⊢
    rw [if_neg (show ¬ n ≤ j by omega)] at h
    rw [if_neg (show ¬ n' ≤ j by omega), d0]
    by_cases c1 : 32 ≤ d j ∧ d j ≠ 34 ∧ d j ≠ 92
    · rw [if_pos c1] at h ⊢
      exact ih _ _ h hn hd
    rw [if_neg c1] at h ⊢
    by_cases c2 : d j = 34
    · rw [if_pos c2] at h ⊢
      exact h
    rw [if_neg c2] at h ⊢
    by_cases c3 : d j < 32 ∨ j + 1 = n
    · rw [if_pos c3] at h; omega
    rw [if_neg c3] at h
    by_cases c4 : escB (d (j + 1)) = true
    · rw [if_pos c4] at h
      have := after _ h
      have d1 : d' (j + 1) = d (j + 1) := hd (j + 1) (by omega)
      rw [if_neg (by omega), d1, if_pos c4]
      exact ih _ _ h hn hd
    rw [if_neg c4] at h
    by_cases c5 : d (j + 1) = 117
    · rw [if_pos c5] at h
      by_cases c6 : n ≤ j + 5 ∨ hexB (d (j + 2)) = false ∨ hexB (d (j + 3)) = false ∨ hexB (d (j + 4)) = false ∨ hexB (d (j + 5)) = false
      · rw [if_pos c6] at h; omega
      rw [if_neg c6] at h
      have := after _ h
      have d1 : d' (j + 1) = d (j + 1) := hd (j + 1) (by omega)
      have d2 : d' (j + 2) = d (j + 2) := hd (j + 2) (by omega)
      have d3 : d' (j + 3) = d (j + 3) := hd (j + 3) (by omega)
      have d4 : d' (j + 4) = d (j + 4) := hd (j + 4) (by omega)
      have d5 : d' (j + 5) = d (j + 5) := hd (j + 5) (by omega)
      have c7 : ¬ (n' ≤ j + 5 ∨ hexB (d (j + 2)) = false ∨ hexB (d (j + 3)) = false ∨ hexB (d (j + 4)) = false ∨ hexB (d (j + 5)) = false) := by
        intro c; apply c6; rcases c with c | c
        · omega
        · exact .inr c
      rw [if_neg (by omega), d1, if_neg c4, if_pos c5, d2, d3, d4, d5, if_neg c7]
      exact ih _ _ h hn hd
    rw [if_neg c5] at h; omega

/-- The text moved by i places reads the same, i places on. -/
theorem strF_shift (d : Nat → Int) (n i : Nat) (hi : i ≤ n) : ∀ f j, strF d n f (i + j) = (if strF (fun k => d (i + k)) (n - i) f j < 0 then -1 else strF (fun k => d (i + k)) (n - i) f j + i) := by
  intro f
  induction f with
  | zero => intro j; simp [strF]
  | succ f ih =>
    intro j
    simp only [strF]
    by_cases c0 : n ≤ i + j
    · rw [if_pos c0, if_pos (show n - i ≤ j by omega)]; rfl
    rw [if_neg c0, if_neg (show ¬ n - i ≤ j by omega)]
    by_cases c1 : 32 ≤ d (i + j) ∧ d (i + j) ≠ 34 ∧ d (i + j) ≠ 92
    · rw [if_pos c1, if_pos c1]; exact ih (j + 1)
    rw [if_neg c1, if_neg c1]
    by_cases c2 : d (i + j) = 34
    · rw [if_pos c2, if_pos c2, if_neg (by omega)]; omega
    rw [if_neg c2, if_neg c2]
    by_cases c3 : d (i + j) < 32 ∨ i + j + 1 = n
    · rw [if_pos c3, if_pos (show d (i + j) < 32 ∨ j + 1 = n - i by omega)]; rfl
    rw [if_neg c3, if_neg (show ¬ (d (i + j) < 32 ∨ j + 1 = n - i) by omega)]
    show (if escB (d (i + (j + 1))) = true then strF d n f (i + (j + 2)) else if d (i + (j + 1)) = 117 then if n ≤ i + j + 5 ∨ hexB (d (i + (j + 2))) = false ∨ hexB (d (i + (j + 3))) = false ∨ hexB (d (i + (j + 4))) = false ∨ hexB (d (i + (j + 5))) = false then -1 else strF d n f (i + (j + 6)) else -1) = _
    by_cases c4 : escB (d (i + (j + 1))) = true
    · rw [if_pos c4, if_pos c4]; exact ih (j + 2)
    rw [if_neg c4, if_neg c4]
    by_cases c5 : d (i + (j + 1)) = 117
    · rw [if_pos c5, if_pos c5]
      by_cases c6 : n ≤ i + j + 5 ∨ hexB (d (i + (j + 2))) = false ∨ hexB (d (i + (j + 3))) = false ∨ hexB (d (i + (j + 4))) = false ∨ hexB (d (i + (j + 5))) = false
      · rw [if_pos c6, if_pos (show n - i ≤ j + 5 ∨ hexB (d (i + (j + 2))) = false ∨ hexB (d (i + (j + 3))) = false ∨ hexB (d (i + (j + 4))) = false ∨ hexB (d (i + (j + 5))) = false from by rcases c6 with c | c; exact .inl (by omega); exact .inr c)]; rfl
      · rw [if_neg c6, if_neg (show ¬ (n - i ≤ j + 5 ∨ hexB (d (i + (j + 2))) = false ∨ hexB (d (i + (j + 3))) = false ∨ hexB (d (i + (j + 4))) = false ∨ hexB (d (i + (j + 5))) = false) from by intro c; apply c6; rcases c with c | c; exact .inl (by omega); exact .inr c)]
        exact ih (j + 6)
    · rw [if_neg c5, if_neg c5]; rfl

/-! The same of 'str'. -/
theorem str_range (d : Nat → Int) (n j : Nat) : str d n j = -1 ∨ ∃ g : Nat, str d n j = (g : Int) ∧ j + 1 ≤ g ∧ g ≤ n ∧ d (g - 1) = 34 := strF_range d n _ j

theorem str_same {d d' : Nat → Int} {n n' j g : Nat} (h : str d n j = (g : Int)) (hn : g ≤ n') (hd : ∀ k, k < g → d' k = d k) : str d' n' j = (g : Int) := by
  have h1 : strF d n (n + n' + 1) j = (g : Int) := by rw [← h]; exact strF_fuel d n _ _ j (by omega) (by omega)
  have h2 := strF_same d d' n n' _ j g h1 hn hd
  rw [← h2]; exact strF_fuel d' n' _ _ j (by omega) (by omega)

theorem str_shift (d : Nat → Int) (n i j : Nat) (hi : i ≤ n) : str d n (i + j) = (if str (fun k => d (i + k)) (n - i) j < 0 then -1 else str (fun k => d (i + k)) (n - i) j + i) := by
  have h := strF_shift d n i hi (n + 1 - j) j
  have e1 : str d n (i + j) = strF d n (n + 1 - j) (i + j) := strF_fuel d n _ _ _ (by omega) (by omega)
  have e2 : str (fun k => d (i + k)) (n - i) j = strF (fun k => d (i + k)) (n - i) (n + 1 - j) j := strF_fuel _ _ _ _ _ (by omega) (by omega)
  rw [e1, e2]; exact h

/-- A cut ahead of the end holds no whole string. -/
theorem str_short {d : Nat → Int} {n j g k : Nat} (h : str d n j = (g : Int)) (hk : k < g) : str d k j = -1 := by
  rcases str_range d k j with e | ⟨g', e, _, e2, _⟩
  · exact e
  · rcases str_range d n j with h' | ⟨g2, h', _, h2, _⟩
    · rw [h'] at h; omega
    · have : g2 = g := by rw [h'] at h; omega
      subst this
      have := str_same (d' := d) (n' := n) e (by omega) (fun _ _ => rfl)
      rw [h] at this; omega

end Go.Proofs.Qxb6602097a.Pl
