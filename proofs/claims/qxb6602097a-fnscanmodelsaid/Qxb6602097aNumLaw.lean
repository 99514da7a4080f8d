/-
  PLAIN LAWS of scanNumber's reading. No Go in sight.
-/
import Derived.Test.Qxb6602097aNumPlain
namespace Go.Proofs.Qxb6602097a.Pl

/-! ### skip -/
theorem skip_last (p : Int → Bool) (d : Nat → Int) (n : Nat) : ∀ f j, n - j ≤ f → j < n → p (d j) = true → p (d (skip p d n j - 1)) = true := by
  intro f
  induction f with
  | zero => intro j h hj; omega
  | succ f ih =>
    intro j h hj hp
    rw [skip_step p d n j hj hp]
    by_cases hs : j + 1 < n ∧ p (d (j + 1)) = true
    · exact ih (j + 1) (by omega) hs.1 hs.2
    · rw [skip_stop p d n (j + 1) hs]; exact hp

theorem skip_shift (p : Int → Bool) (d : Nat → Int) (n i : Nat) (hi : i ≤ n) : ∀ f j, n - i - j ≤ f → skip p d n (i + j) = i + skip p (fun k => d (i + k)) (n - i) j := by
  intro f
  induction f with
  | zero => intro j h; rw [skip_end p d n _ (by omega), skip_end p _ (n - i) j (by omega)]
  | succ f ih =>
    intro j h
    by_cases hs : j < n - i ∧ p (d (i + j)) = true
    · rw [skip_step p d n (i + j) (by omega) hs.2, skip_step p (fun k => d (i + k)) (n - i) j hs.1 hs.2, Nat.add_assoc]
      exact ih (j + 1) (by omega)
    · rw [skip_stop p (fun k => d (i + k)) (n - i) j hs, skip_stop p d n (i + j) (fun h => hs ⟨by omega, h.2⟩)]
theorem skip_sh (p : Int → Bool) (d : Nat → Int) (n i j : Nat) (hi : i ≤ n) : skip p d n (i + j) = i + skip p (fun k => d (i + k)) (n - i) j := skip_shift p d n i hi _ j (Nat.le_refl _)

/-- The same end is found in a text cut at, or behind, that end. -/
theorem skip_cut_f (p : Int → Bool) (d : Nat → Int) (n g : Nat) (hg : g ≤ n) : ∀ f j, n - j ≤ f → skip p d n j ≤ g → skip p d g j = skip p d n j := by
  intro f
  induction f with
  | zero =>
    intro j h hs
    rw [skip_end p d n j (by omega)] at hs ⊢
    rw [skip_end p d g j (by omega)]
  | succ f ih =>
    intro j h hs
    by_cases hj : j < n ∧ p (d j) = true
    · have h1 := skip_one p d n j hj.1 hj.2
      rw [skip_step p d n j hj.1 hj.2] at hs ⊢
      rw [skip_step p d g j (by rw [skip_step p d n j hj.1 hj.2] at h1; omega) hj.2]
      exact ih (j + 1) (by omega) hs
    · rw [skip_stop p d n j hj] at hs ⊢
      rw [skip_stop p d g j (fun h => hj ⟨by omega, h.2⟩)]
theorem skip_cut {p : Int → Bool} {d : Nat → Int} {n g j : Nat} (hg : g ≤ n) (h : skip p d n j ≤ g) : skip p d g j = skip p d n j := skip_cut_f p d n g hg _ j (Nat.le_refl _) h

/-! ### the stages: what they answer -/
theorem sgn_range (d : Nat → Int) (i : Nat) : i ≤ sgn d i ∧ sgn d i ≤ i + 1 := by unfold sgn; split <;> omega

theorem nInt_some {d : Nat → Int} {n s j : Nat} (hs : s ≤ n) (h : nInt d n s = some j) : s + 1 ≤ j ∧ j ≤ n ∧ digB (d (j - 1)) = true ∧ s < n ∧ digB (d s) = true := by
  unfold nInt at h
  by_cases c : s = n ∨ digB (d s) = false
  · rw [if_pos c] at h; cases h
  · rw [if_neg c] at h
    have hd : digB (d s) = true := by cases e : digB (d s) <;> simp_all
    have hsn : s < n := by have := not_or.1 c; omega
    injection h with h
    by_cases c2 : d s = 48
    · rw [if_pos c2] at h; subst h; exact ⟨by omega, by omega, by simpa using hd, hsn, hd⟩
    · rw [if_neg c2] at h; subst h
      have := skip_one digB d n s hsn hd
      exact ⟨this.1, this.2, skip_last digB d n _ s (Nat.le_refl _) hsn hd, hsn, hd⟩

theorem nFrac_some {d : Nat → Int} {n j k : Nat} (hj : j ≤ n) (h : nFrac d n j = some k) : j ≤ k ∧ k ≤ n ∧ (k = j ∨ digB (d (k - 1)) = true) := by
  unfold nFrac at h
  by_cases c : j < n ∧ d j = 46
  · rw [if_pos c] at h
    by_cases c2 : j + 1 = n ∨ digB (d (j + 1)) = false
    · rw [if_pos c2] at h; cases h
    · rw [if_neg c2] at h
      have hd : digB (d (j + 1)) = true := by cases e : digB (d (j + 1)) <;> simp_all
      have hsn : j + 1 < n := by have := not_or.1 c2; omega
      injection h with h; subst h
      have := skip_one digB d n (j + 1) hsn hd
      exact ⟨by omega, this.2, .inr (skip_last digB d n _ (j + 1) (Nat.le_refl _) hsn hd)⟩
  · rw [if_neg c] at h; injection h with h; subst h; exact ⟨by omega, hj, .inl rfl⟩

theorem eSgn_range (d : Nat → Int) (n j : Nat) (hj : j < n) : j + 1 ≤ eSgn d n j ∧ eSgn d n j ≤ n := by unfold eSgn; split <;> omega

theorem nExp_some {d : Nat → Int} {n j k : Nat} (hj : j ≤ n) (h : nExp d n j = some k) : j ≤ k ∧ k ≤ n ∧ (k = j ∨ digB (d (k - 1)) = true) := by
  unfold nExp at h
  by_cases c : j < n ∧ (d j = 101 ∨ d j = 69)
  · rw [if_pos c] at h
    have he := eSgn_range d n j c.1
    generalize eSgn d n j = e at *
    by_cases c2 : e = n ∨ digB (d e) = false
    · rw [if_pos c2] at h; cases h
    · rw [if_neg c2] at h
      have hd : digB (d e) = true := by cases e' : digB (d e) <;> simp_all
      have hsn : e < n := by have := not_or.1 c2; omega
      injection h with h; subst h
      have := skip_one digB d n e hsn hd
      exact ⟨by omega, this.2, .inr (skip_last digB d n _ e (Nat.le_refl _) hsn hd)⟩
  · rw [if_neg c] at h; injection h with h; subst h; exact ⟨by omega, hj, .inl rfl⟩

/-- What a found number's stages are. -/
theorem num_parts {d : Nat → Int} {n i g : Nat} (h : num d n i = (g : Int)) : ∃ j k, nInt d n (sgn d i) = some j ∧ nFrac d n j = some k ∧ nExp d n k = some g := by
  unfold num at h
  cases h1 : nInt d n (sgn d i) with
  | none => rw [h1] at h; simp at h
  | some j =>
    rw [h1] at h; simp only at h
    cases h2 : nFrac d n j with
    | none => rw [h2] at h; simp at h
    | some k =>
      rw [h2] at h; simp only at h
      cases h3 : nExp d n k with
      | none => rw [h3] at h; simp at h
      | some m =>
        rw [h3] at h; simp only at h
        have : m = g := by omega
        subst this
        exact ⟨j, k, rfl, h2, h3⟩

theorem num_cases (d : Nat → Int) (n i : Nat) : num d n i = -1 ∨ ∃ g : Nat, num d n i = (g : Int) := by
  unfold num
  split
  · exact .inl rfl
  · split
    · exact .inl rfl
    · split
      · exact .inl rfl
      · exact .inr ⟨_, rfl⟩

/-- Nothing, or an end past i, within the text, right behind a digit. -/
theorem num_range (d : Nat → Int) (n i : Nat) (hi : i < n) : num d n i = -1 ∨ ∃ g : Nat, num d n i = (g : Int) ∧ i + 1 ≤ g ∧ g ≤ n ∧ digB (d (g - 1)) = true := by
  rcases num_cases d n i with h | ⟨g, h⟩
  · exact .inl h
  · refine .inr ⟨g, h, ?_⟩
    obtain ⟨j, k, h1, h2, h3⟩ := num_parts h
    have hs := sgn_range d i
    have a1 := nInt_some (by omega) h1
    have a2 := nFrac_some a1.2.1 h2
    have a3 := nExp_some a2.2.1 h3
    refine ⟨by omega, a3.2.1, ?_⟩
    rcases a3.2.2 with e | e
    · subst e
      rcases a2.2.2 with e | e
      · subst e; exact a1.2.2.1
      · exact e
    · exact e

/-- A start that is neither a sign nor a digit is refused. -/
theorem num_bad {d : Nat → Int} {n i : Nat} (h : d i ≠ 45) (hd : digB (d i) = false) : num d n i = -1 := by
  apply num_int
  unfold sgn nInt
  rw [if_neg h, if_pos (.inr hd)]

/-! ### the text moved by i places -/
theorem nInt_sh (d : Nat → Int) (n i s : Nat) (hi : i ≤ n) : nInt d n (i + s) = (nInt (fun k => d (i + k)) (n - i) s).map (i + ·) := by
  unfold nInt
  by_cases c : s = n - i ∨ digB (d (i + s)) = false
  · rw [if_pos c, if_pos (show i + s = n ∨ digB (d (i + s)) = false by rcases c with c | c; exact .inl (by omega); exact .inr c)]; rfl
  · rw [if_neg c, if_neg (show ¬ (i + s = n ∨ digB (d (i + s)) = false) from fun h => c (by rcases h with h | h; exact .inl (by omega); exact .inr h))]
    simp only [Option.map_some]
    by_cases c2 : d (i + s) = 48
    · rw [if_pos c2, if_pos c2]; rfl
    · rw [if_neg c2, if_neg c2, skip_sh digB d n i s hi]

theorem nFrac_sh (d : Nat → Int) (n i s : Nat) (hi : i ≤ n) : nFrac d n (i + s) = (nFrac (fun k => d (i + k)) (n - i) s).map (i + ·) := by
  unfold nFrac
  by_cases c : s < n - i ∧ d (i + s) = 46
  · rw [if_pos c, if_pos (show i + s < n ∧ d (i + s) = 46 from ⟨by omega, c.2⟩)]
    rw [Nat.add_assoc i s 1]
    by_cases c2 : s + 1 = n - i ∨ digB (d (i + (s + 1))) = false
    · rw [if_pos c2, if_pos (show i + (s + 1) = n ∨ digB (d (i + (s + 1))) = false by rcases c2 with c | c; exact .inl (by omega); exact .inr c)]; rfl
    · rw [if_neg c2, if_neg (show ¬ (i + (s + 1) = n ∨ digB (d (i + (s + 1))) = false) from fun h => c2 (by rcases h with h | h; exact .inl (by omega); exact .inr h))]
      simp only [Option.map_some]
      rw [skip_sh digB d n i (s + 1) hi]
  · rw [if_neg c, if_neg (show ¬ (i + s < n ∧ d (i + s) = 46) from fun h => c ⟨by omega, h.2⟩)]; rfl

theorem eSgn_sh (d : Nat → Int) (n i s : Nat) : eSgn d n (i + s) = i + eSgn (fun k => d (i + k)) (n - i) s := by
  unfold eSgn
  rw [Nat.add_assoc i s 1]
  by_cases c : s + 1 < n - i ∧ (d (i + (s + 1)) = 43 ∨ d (i + (s + 1)) = 45)
  · rw [if_pos c, if_pos (show i + (s + 1) < n ∧ (d (i + (s + 1)) = 43 ∨ d (i + (s + 1)) = 45) from ⟨by omega, c.2⟩)]; rfl
  · rw [if_neg c, if_neg (show ¬ (i + (s + 1) < n ∧ (d (i + (s + 1)) = 43 ∨ d (i + (s + 1)) = 45)) from fun h => c ⟨by omega, h.2⟩)]

theorem nExp_sh (d : Nat → Int) (n i s : Nat) (hi : i ≤ n) : nExp d n (i + s) = (nExp (fun k => d (i + k)) (n - i) s).map (i + ·) := by
  unfold nExp
  rw [eSgn_sh d n i s]
  generalize eSgn (fun k => d (i + k)) (n - i) s = e
  by_cases c : s < n - i ∧ (d (i + s) = 101 ∨ d (i + s) = 69)
  · rw [if_pos c, if_pos (show i + s < n ∧ (d (i + s) = 101 ∨ d (i + s) = 69) from ⟨by omega, c.2⟩)]
    by_cases c2 : e = n - i ∨ digB (d (i + e)) = false
    · rw [if_pos c2, if_pos (show i + e = n ∨ digB (d (i + e)) = false by rcases c2 with c | c; exact .inl (by omega); exact .inr c)]; rfl
    · rw [if_neg c2, if_neg (show ¬ (i + e = n ∨ digB (d (i + e)) = false) from fun h => c2 (by rcases h with h | h; exact .inl (by omega); exact .inr h))]
      simp only [Option.map_some]
      rw [skip_sh digB d n i e hi]
  · rw [if_neg c, if_neg (show ¬ (i + s < n ∧ (d (i + s) = 101 ∨ d (i + s) = 69)) from fun h => c ⟨by omega, h.2⟩)]; rfl

theorem sgn_sh (d : Nat → Int) (i : Nat) : sgn d i = i + sgn (fun k => d (i + k)) 0 := by
  unfold sgn
  by_cases c : d i = 45
  · rw [if_pos c, if_pos (show d (i + 0) = 45 from c)]
  · rw [if_neg c, if_neg (show ¬ d (i + 0) = 45 from c)]; rfl

theorem num_sh (d : Nat → Int) (n i : Nat) (hi : i ≤ n) : num d n i = (if num (fun k => d (i + k)) (n - i) 0 < 0 then -1 else num (fun k => d (i + k)) (n - i) 0 + i) := by
  unfold num
  rw [sgn_sh d i, nInt_sh d n i _ hi]
  cases h1 : nInt (fun k => d (i + k)) (n - i) (sgn (fun k => d (i + k)) 0) with
  | none => rfl
  | some j =>
    simp only [Option.map_some]
    rw [nFrac_sh d n i j hi]
    cases h2 : nFrac (fun k => d (i + k)) (n - i) j with
    | none => rfl
    | some k =>
      simp only [Option.map_some]
      rw [nExp_sh d n i k hi]
      cases h3 : nExp (fun k => d (i + k)) (n - i) k with
      | none => rfl
      | some m =>
        simp only [Option.map_some]
        rw [if_neg (by omega)]; omega

/-! ### the number, cut out -/
theorem nInt_cut {d : Nat → Int} {n s j g : Nat} (hs : s ≤ n) (h : nInt d n s = some j) (hg : g ≤ n) (hj : j ≤ g) : nInt d g s = some j := by
  have a := nInt_some hs h
  unfold nInt at h ⊢
  rw [if_neg (by simp [a.2.2.2.2]; omega)] at h ⊢
  by_cases c2 : d s = 48
  · rw [if_pos c2] at h ⊢; exact h
  · rw [if_neg c2] at h ⊢
    injection h with h
    rw [skip_cut hg (by omega), h]

theorem nFrac_cut {d : Nat → Int} {n j k g : Nat} (hj : j ≤ n) (h : nFrac d n j = some k) (hg : g ≤ n) (hk : k ≤ g) : nFrac d g j = some k := by
  unfold nFrac at h ⊢
  by_cases c : j < n ∧ d j = 46
  · rw [if_pos c] at h
    by_cases c2 : j + 1 = n ∨ digB (d (j + 1)) = false
    · rw [if_pos c2] at h; cases h
    · rw [if_neg c2] at h
      have hd : digB (d (j + 1)) = true := by cases e : digB (d (j + 1)) <;> simp_all
      have hsn : j + 1 < n := by have := not_or.1 c2; omega
      have := skip_one digB d n (j + 1) hsn hd
      injection h with h
      rw [if_pos ⟨by omega, c.2⟩, if_neg (by simp [hd]; omega), skip_cut hg (by omega), h]
  · rw [if_neg c] at h; rw [if_neg (fun h' => c ⟨by omega, h'.2⟩)]; exact h

theorem nExp_cut {d : Nat → Int} {n j k g : Nat} (hj : j ≤ n) (h : nExp d n j = some k) (hg : g ≤ n) (hk : k ≤ g) : nExp d g j = some k := by
  unfold nExp at h ⊢
  by_cases c : j < n ∧ (d j = 101 ∨ d j = 69)
  · rw [if_pos c] at h
    have he := eSgn_range d n j c.1
    by_cases c2 : eSgn d n j = n ∨ digB (d (eSgn d n j)) = false
    · rw [if_pos c2] at h; cases h
    · rw [if_neg c2] at h
      have hd : digB (d (eSgn d n j)) = true := by cases e : digB (d (eSgn d n j)) <;> simp_all
      have hsn : eSgn d n j < n := by have := not_or.1 c2; omega
      have := skip_one digB d n _ hsn hd
      injection h with h
      have ee : eSgn d g j = eSgn d n j := by
        have h7 : eSgn d n j < g := by omega
        unfold eSgn at h7 ⊢
        by_cases c3 : j + 1 < n ∧ (d (j + 1) = 43 ∨ d (j + 1) = 45)
        · rw [if_pos c3] at h7; rw [if_pos c3, if_pos ⟨by omega, c3.2⟩]
        · rw [if_neg c3, if_neg (fun h' => c3 ⟨by omega, h'.2⟩)]
      rw [if_pos ⟨by omega, c.2⟩, ee, if_neg (by simp [hd]; omega), skip_cut hg (by omega), h]
  · rw [if_neg c] at h; rw [if_neg (fun h' => c ⟨by omega, h'.2⟩)]; exact h

theorem num_cut {d : Nat → Int} {n i g : Nat} (hi : i < n) (h : num d n i = (g : Int)) : num d g i = (g : Int) := by
  obtain ⟨j, k, h1, h2, h3⟩ := num_parts h
  have hs := sgn_range d i
  have a1 := nInt_some (by omega) h1
  have a2 := nFrac_some a1.2.1 h2
  have a3 := nExp_some a2.2.1 h3
  exact num_some (nInt_cut (by omega) h1 a3.2.1 (by omega)) (nFrac_cut a1.2.1 h2 a3.2.1 (by omega)) (nExp_cut a2.2.1 h3 a3.2.1 (Nat.le_refl _))

end Go.Proofs.Qxb6602097a.Pl
