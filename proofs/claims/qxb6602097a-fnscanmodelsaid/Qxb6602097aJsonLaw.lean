/-
  PLAIN LAWS: scan's machine accepts just what the recursive-descent model accepts. No Go in sight.
-/
import Derived.Test.Qxb6602097aJson
namespace Go.Proofs.Qxb6602097a.Pl

theorem mstep_range {d : Nat → Int} {n t p dep : Nat} {k : Nat → Nat → Nat → Int} (hp : p ≤ n) (hk : ∀ t' p' dep', p' ≤ n → Rng n p' (k t' p' dep')) : Rng n p (mstep d n t p dep k) := by
  have up : ∀ {q r}, p ≤ q → Rng n q r → Rng n p r := by
    intro q r h1 h2
    rcases h2 with h | ⟨g, h, h3, h4⟩
    · exact .inl h
    · exact .inr ⟨g, h, by omega, h4⟩
  have one : ∀ q, p ≤ q → q < n → Rng n p (((q + 1 : Nat) : Int)) := fun q h1 h2 => .inr ⟨q + 1, rfl, by omega, by omega⟩
  unfold mstep
  by_cases t0 : t = 0
  · rw [if_pos t0]
    by_cases c : n ≤ p
    · rw [if_pos c]; exact .inl rfl
    rw [if_neg c]
    have hw := ws_range (d := d) (show p + 1 ≤ n by omega)
    by_cases c1 : d p = 91
    · rw [if_pos c1]
      split
      · exact .inl rfl
      split
      · rename_i h; exact one _ (by omega) h.1
      · exact up (by omega) (hk _ _ _ hw.2)
    rw [if_neg c1]
    by_cases c2 : d p = 123
    · rw [if_pos c2]
      split
      · exact .inl rfl
      split
      · rename_i h; exact one _ (by omega) h.1
      · exact up (by omega) (hk _ _ _ hw.2)
    rw [if_neg c2]
    rcases scal_range d n p (by omega) with h | ⟨g, h, h1, h2⟩
    · exact .inl h
    · exact .inr ⟨g, h, h1, h2⟩
  rw [if_neg t0]
  by_cases t1 : t = 1
  · rw [if_pos t1]
    rcases hk 0 p dep hp with h | ⟨g, h, h1, h2⟩
    · rw [h, if_pos (by decide)]; exact .inl rfl
    · rw [h, if_neg (by omega), Int.toNat_natCast]
      have hw := ws_range (d := d) h2
      simp only
      by_cases c : n ≤ ws d n g
      · rw [if_pos c]; exact .inl rfl
      rw [if_neg c]
      split
      · exact one _ (by omega) (by omega)
      split
      · exact .inl rfl
      · have hw2 := ws_range (d := d) (show ws d n g + 1 ≤ n by omega)
        exact up (by omega) (hk _ _ _ hw2.2)
  rw [if_neg t1]
  by_cases c : n ≤ p ∨ d p ≠ 34
  · rw [if_pos c]; exact .inl rfl
  rw [if_neg c]
  rcases str_range d n (p + 1) with h | ⟨s, h, h1, h2, _⟩
  · rw [h, if_pos (by decide)]; exact .inl rfl
  rw [h, if_neg (by omega), Int.toNat_natCast]
  have hw := ws_range (d := d) h2
  simp only
  by_cases c2 : n ≤ ws d n s ∨ d (ws d n s) ≠ 58
  · rw [if_pos c2]; exact .inl rfl
  rw [if_neg c2]
  have hw1 := ws_range (d := d) (show ws d n s + 1 ≤ n by omega)
  rcases hk 0 (ws d n (ws d n s + 1)) dep hw1.2 with h3 | ⟨g, h3, h4, h5⟩
  · rw [h3, if_pos (by decide)]; exact .inl rfl
  rw [h3, if_neg (by omega), Int.toNat_natCast]
  have hw2 := ws_range (d := d) h5
  by_cases c3 : n ≤ ws d n g
  · rw [if_pos c3]; exact .inl rfl
  rw [if_neg c3]
  split
  · exact one _ (by omega) (by omega)
  split
  · exact .inl rfl
  · have hw3 := ws_range (d := d) (show ws d n g + 1 ≤ n by omega)
    exact up (by omega) (hk _ _ _ hw3.2)

theorem mdlF_range (d : Nat → Int) (n : Nat) : ∀ f t p dep, p ≤ n → Rng n p (mdlF d n f t p dep) := by
  intro f
  induction f with
  | zero => intro t p dep _; exact .inl rfl
  | succ f ih => intro t p dep hp; exact mstep_range hp ih

theorem mstep_congr {d : Nat → Int} {n t p dep : Nat} {k1 k2 : Nat → Nat → Nat → Int} (hp : p ≤ n) (hk : ∀ t' p' dep', p' ≤ n → Rng n p' (k1 t' p' dep'))
    (h : ∀ t' p' dep', p' ≤ n → nu n t' p' < nu n t p → k1 t' p' dep' = k2 t' p' dep') : mstep d n t p dep k1 = mstep d n t p dep k2 := by
  have m2 : ∀ t' p', p + 1 ≤ p' → p' ≤ n → nu n t' p' < nu n t p := by intro t' p' h1 h2; unfold nu; split <;> split <;> omega
  unfold mstep
  by_cases t0 : t = 0
  · rw [if_pos t0, if_pos t0]
    by_cases c : n ≤ p
    · rw [if_pos c, if_pos c]
    rw [if_neg c, if_neg c]
    have hw := ws_range (d := d) (show p + 1 ≤ n by omega)
    rw [h 1 _ (dep + 1) hw.2 (m2 _ _ (by omega) hw.2), h 2 _ (dep + 1) hw.2 (m2 _ _ (by omega) hw.2)]
  rw [if_neg t0, if_neg t0]
  by_cases t1 : t = 1
  · rw [if_pos t1, if_pos t1]
    have e0 : k1 0 p dep = k2 0 p dep := h 0 p dep hp (by unfold nu; rw [if_pos rfl, if_neg t0]; omega)
    rw [← e0]
    rcases hk 0 p dep hp with e | ⟨g, e, h1, h2⟩
    · rw [e, if_pos (by decide), if_pos (by decide)]
    · have gn : ¬ ((g : Nat) : Int) < 0 := by omega
      rw [e, if_neg gn, if_neg gn, Int.toNat_natCast]
      have hw := ws_range (d := d) h2
      simp only
      by_cases c : n ≤ ws d n g
      · rw [if_pos c, if_pos c]
      have hw2 := ws_range (d := d) (show ws d n g + 1 ≤ n by omega)
      rw [h 1 _ dep hw2.2 (m2 _ _ (by omega) hw2.2)]
  rw [if_neg t1, if_neg t1]
  by_cases c : n ≤ p ∨ d p ≠ 34
  · rw [if_pos c, if_pos c]
  rw [if_neg c, if_neg c]
  rcases str_range d n (p + 1) with e | ⟨s, e, h1, h2, _⟩
  · rw [e, if_pos (by decide), if_pos (by decide)]
  have sn : ¬ ((s : Nat) : Int) < 0 := by omega
  rw [e, if_neg sn, if_neg sn, Int.toNat_natCast]
  have hw := ws_range (d := d) h2
  simp only
  by_cases c2 : n ≤ ws d n s ∨ d (ws d n s) ≠ 58
  · rw [if_pos c2, if_pos c2]
  rw [if_neg c2, if_neg c2]
  have hw1 := ws_range (d := d) (show ws d n s + 1 ≤ n by omega)
  rw [← h 0 _ dep hw1.2 (m2 _ _ (by omega) hw1.2)]
  rcases hk 0 (ws d n (ws d n s + 1)) dep hw1.2 with h3 | ⟨g, h3, h4, h5⟩
  · rw [h3, if_pos (by decide), if_pos (by decide)]
  have gn : ¬ ((g : Nat) : Int) < 0 := by omega
  rw [h3, if_neg gn, if_neg gn, Int.toNat_natCast]
  have hw2 := ws_range (d := d) h5
  by_cases c3 : n ≤ ws d n g
  · rw [if_pos c3, if_pos c3]
  have hw3 := ws_range (d := d) (show ws d n g + 1 ≤ n by omega)
  rw [h 2 _ dep hw3.2 (m2 _ _ (by omega) hw3.2)]

theorem mdlF_fuel (d : Nat → Int) (n : Nat) : ∀ f g t p dep, p ≤ n → nu n t p < f → nu n t p < g → mdlF d n f t p dep = mdlF d n g t p dep := by
  intro f
  induction f with
  | zero => intro g t p dep _ h; omega
  | succ f ih =>
    intro g t p dep hp hf hg
    cases g with
    | zero => omega
    | succ g =>
      simp only [mdlF]
      exact mstep_congr hp (mdlF_range d n f) fun t' p' dep' h1 h2 => ih g t' p' dep' h1 (by omega) (by omega)

theorem mdl_eq (d : Nat → Int) (n t p dep : Nat) (hp : p ≤ n) : mdl d n t p dep = mstep d n t p dep (mdl d n) := by
  show mdlF d n (nu n t p + 1) t p dep = _
  simp only [mdlF]
  exact mstep_congr hp (mdlF_range d n _) fun t' p' dep' h1 h2 => mdlF_fuel d n _ _ t' p' dep' h1 (by omega) (by omega)
theorem mdl_range (d : Nat → Int) (n t p dep : Nat) (hp : p ≤ n) : Rng n p (mdl d n t p dep) := mdlF_range d n _ t p dep hp

theorem run_ws (d : Nat → Int) (n p st : Nat) (stk : List Bool) (hp : p ≤ n) : run d n (ws d n p) st stk = run d n p st stk := by
  rw [run_eq d n _ st stk (ws_range hp).2, run_eq d n p st stk hp, ws_ws hp]

/-- What the machine goes on to where the model has found an end. -/
def fin (d : Nat → Int) (n : Nat) (r : Int) (stk : List Bool) : Bool := if r < 0 then false else run d n r.toNat 5 stk
theorem fin_neg (d : Nat → Int) (n : Nat) (stk : List Bool) : fin d n (-1) stk = false := rfl
theorem fin_pos (d : Nat → Int) (n g : Nat) (stk : List Bool) : fin d n (g : Int) stk = run d n g 5 stk := by unfold fin; rw [if_neg (by omega), Int.toNat_natCast]

def Good (d : Nat → Int) (n t p : Nat) : Prop := ∀ stk : List Bool,
  (t = 0 → stk.length ≤ 10000 → run d n p 0 stk = fin d n (mdl d n 0 (ws d n p) stk.length) stk) ∧
  (t = 1 → stk.length + 1 ≤ 10000 → run d n p 0 (false :: stk) = fin d n (mdl d n 1 (ws d n p) (stk.length + 1)) stk) ∧
  (t = 2 → stk.length + 1 ≤ 10000 → run d n p 3 (true :: stk) = fin d n (mdl d n 2 (ws d n p) (stk.length + 1)) stk)

/-! single rounds of the machine, in the forms that are met below -/
theorem run_end {d : Nat → Int} {n p st : Nat} {stk : List Bool} (hp : p ≤ n) (h : ws d n p = n) : run d n p st stk = (st == 5 && stk.isEmpty) := by rw [run_eq d n p st stk hp, if_pos h]
theorem run_at {d : Nat → Int} {n p st : Nat} {stk : List Bool} (hp : p ≤ n) (h : ws d n p ≠ n) : run d n p st stk = rstep d n (ws d n p) st stk (run d n) := by rw [run_eq d n p st stk hp, if_neg h]

theorem mdl_end0 (d : Nat → Int) (n dep : Nat) : mdl d n 0 n dep = -1 := by rw [mdl_eq d n 0 n dep (Nat.le_refl _)]; unfold mstep; rw [if_pos rfl, if_pos (Nat.le_refl _)]
theorem mdl_end1 (d : Nat → Int) (n dep : Nat) : mdl d n 1 n dep = -1 := by rw [mdl_eq d n 1 n dep (Nat.le_refl _)]; unfold mstep; rw [if_neg (by decide), if_pos rfl, mdl_end0, if_pos (by decide)]
theorem mdl_end2 (d : Nat → Int) (n dep : Nat) : mdl d n 2 n dep = -1 := by rw [mdl_eq d n 2 n dep (Nat.le_refl _)]; unfold mstep; rw [if_neg (by decide), if_neg (by decide), if_pos (.inl (Nat.le_refl _))]

theorem good_all (d : Nat → Int) (n : Nat) : ∀ m t p, p ≤ n → nu n t (ws d n p) ≤ m → Good d n t p := by
  intro m
  induction m using Nat.strongRecOn with
  | _ m ih =>
  intro t p hp hm stk
  have hw := ws_range (d := d) hp
  -- what comes later
  have later : ∀ t' p', p' ≤ n → ws d n p + 1 ≤ ws d n p' → Good d n t' p' := by
    intro t' p' h1 h2
    have hw' := ws_range (d := d) h1
    refine ih (nu n t' (ws d n p')) ?_ t' p' h1 (Nat.le_refl _)
    unfold nu at hm ⊢; split at hm <;> split <;> omega
  refine ⟨?_, ?_, ?_⟩
  · -- a value
    intro _ hl
    by_cases hn : ws d n p = n
    · rw [run_end hp hn, hn, mdl_end0]; rfl
    have hlt : ws d n p < n := by omega
    rw [run_at hp hn, mdl_eq d n 0 _ _ hw.2]
    generalize hi : ws d n p = i at *
    have hw1 := ws_range (d := d) (show i + 1 ≤ n by omega)
    unfold rstep mstep
    rw [if_neg (by decide), if_neg (by decide), if_neg (by decide), if_neg (by decide), if_neg (by decide), if_pos rfl, if_neg (by omega)]
    unfold vstep
    by_cases h91 : d i = 91
    · rw [if_pos (.inr h91), if_pos h91, if_neg (show ¬ d i = 123 by omega), show (d i == 123) = false by simp [h91]]
      by_cases hd : 10000 < stk.length + 1
      · rw [if_pos hd, if_pos hd]; rfl
      rw [if_neg hd, if_neg hd]
      by_cases hj : ws d n (i + 1) = n
      · rw [run_end (by omega) hj, hj, if_neg (by omega), mdl_end1]; rfl
      rw [run_at (by omega) hj]
      unfold rstep
      rw [if_neg (by decide), if_pos rfl]
      by_cases h93 : d (ws d n (i + 1)) = 93
      · rw [if_pos h93, if_pos ⟨by omega, h93⟩, fin_pos]; rfl
      rw [if_neg h93, if_neg (fun h => h93 h.2)]
      have g := (later 1 (i + 1) (by omega) (by omega) stk).2.1 rfl (by omega)
      rw [run_at (by omega) hj] at g
      unfold rstep at g
      rw [if_neg (by decide), if_neg (by decide), if_neg (by decide), if_neg (by decide), if_neg (by decide)] at g
      exact g
    by_cases h123 : d i = 123
    · rw [if_pos (.inl h123), if_neg h91, if_pos h123, if_pos h123, show (d i == 123) = true by simp [h123]]
      by_cases hd : 10000 < stk.length + 1
      · rw [if_pos hd, if_pos hd]; rfl
      rw [if_neg hd, if_neg hd]
      by_cases hj : ws d n (i + 1) = n
      · rw [run_end (by omega) hj, hj, if_neg (by omega), mdl_end2]; rfl
      rw [run_at (by omega) hj]
      unfold rstep
      rw [if_neg (by decide), if_neg (by decide), if_pos rfl]
      by_cases h125 : d (ws d n (i + 1)) = 125
      · rw [if_pos h125, if_pos ⟨by omega, h125⟩, fin_pos]; rfl
      rw [if_neg h125, if_neg (fun h => h125 h.2), run_ws d n (i + 1) 3 _ (by omega)]
      exact (later 2 (i + 1) (by omega) (by omega) stk).2.2 rfl (by omega)
    rw [if_neg (by omega), if_neg h91, if_neg h123]
    rfl
  · -- an array's rounds
    intro ht hl
    have g0 := (ih (nu n 0 (ws d n p)) (by subst ht; unfold nu at hm ⊢; simp at hm ⊢; omega) 0 p hp (Nat.le_refl _) (false :: stk)).1 rfl hl
    rw [g0, mdl_eq d n 1 _ _ hw.2]
    unfold mstep
    rw [if_neg (by decide), if_pos rfl]
    show fin d n (mdl d n 0 (ws d n p) (stk.length + 1)) (false :: stk) = _
    rcases mdl_range d n 0 (ws d n p) (stk.length + 1) hw.2 with e | ⟨g, e, h1, h2⟩
    · rw [e, if_pos (by decide)]; rfl
    rw [e, if_neg (by omega), Int.toNat_natCast, fin_pos]
    have hq := ws_range (d := d) h2
    by_cases hn : ws d n g = n
    · rw [run_end h2 hn]; simp only; rw [if_pos (by omega)]; rfl
    rw [run_at h2 hn]
    simp only
    rw [if_neg (show ¬ n ≤ ws d n g by omega)]
    unfold rstep
    rw [if_pos rfl]
    show (if d (ws d n g) = 93 then run d n (ws d n g + 1) 5 stk else if d (ws d n g) ≠ 44 then false else run d n (ws d n g + 1) 0 (false :: stk)) = _
    by_cases h93 : d (ws d n g) = 93
    · rw [if_pos h93, if_pos h93, fin_pos]
    rw [if_neg h93, if_neg h93]
    by_cases h44 : d (ws d n g) ≠ 44
    · rw [if_pos h44, if_pos h44]; rfl
    rw [if_neg h44, if_neg h44]
    have hw1 := ws_range (d := d) (show ws d n g + 1 ≤ n by omega)
    exact (later 1 (ws d n g + 1) (by omega) (by omega) stk).2.1 rfl hl
  · -- an object's rounds
    intro ht hl
    rw [mdl_eq d n 2 _ _ hw.2]
    unfold mstep
    rw [if_neg (by decide), if_neg (by decide)]
    by_cases hn : ws d n p = n
    · rw [run_end hp hn, if_pos (.inl (by omega))]; rfl
    rw [run_at hp hn]
    generalize hi : ws d n p = i at *
    unfold rstep
    rw [if_neg (by decide), if_neg (by decide), if_neg (by decide), if_pos rfl]
    by_cases h34 : d i ≠ 34
    · rw [if_pos h34, if_pos (.inr h34)]; rfl
    rw [if_neg h34, if_neg (show ¬ (n ≤ i ∨ d i ≠ 34) by omega)]
    rcases str_range d n (i + 1) with e | ⟨s, e, h1, h2, _⟩
    · have mn : (-1 : Int) < 0 := by decide
      rw [e, if_pos mn, if_pos mn]; rfl
    have sn : ¬ ((s : Nat) : Int) < 0 := by omega
    rw [e, if_neg sn, if_neg sn, Int.toNat_natCast]
    have hq := ws_range (d := d) h2
    by_cases hn2 : ws d n s = n
    · rw [run_end h2 hn2]; simp only; rw [if_pos (.inl (by omega))]; rfl
    rw [run_at h2 hn2]
    simp only
    unfold rstep
    rw [if_neg (by decide), if_neg (by decide), if_neg (by decide), if_neg (by decide), if_pos rfl]
    by_cases h58 : d (ws d n s) ≠ 58
    · rw [if_pos h58, if_pos (.inr h58)]; rfl
    rw [if_neg h58, if_neg (show ¬ (n ≤ ws d n s ∨ d (ws d n s) ≠ 58) by omega)]
    have hw1 := ws_range (d := d) (show ws d n s + 1 ≤ n by omega)
    have g0 := (later 0 (ws d n s + 1) (by omega) (by omega) (true :: stk)).1 rfl hl
    rw [g0]
    show fin d n (mdl d n 0 (ws d n (ws d n s + 1)) (stk.length + 1)) (true :: stk) = _
    rcases mdl_range d n 0 (ws d n (ws d n s + 1)) (stk.length + 1) hw1.2 with e2 | ⟨g, e2, h3, h4⟩
    · rw [e2, if_pos (by decide)]; rfl
    rw [e2, if_neg (by omega), Int.toNat_natCast, fin_pos]
    have hr := ws_range (d := d) h4
    by_cases hn3 : ws d n g = n
    · rw [run_end h4 hn3, if_pos (by omega)]; rfl
    rw [run_at h4 hn3, if_neg (by omega)]
    unfold rstep
    rw [if_pos rfl]
    show (if d (ws d n g) = 125 then run d n (ws d n g + 1) 5 stk else if d (ws d n g) ≠ 44 then false else run d n (ws d n g + 1) 3 (true :: stk)) = _
    by_cases h125 : d (ws d n g) = 125
    · rw [if_pos h125, if_pos h125, fin_pos]
    rw [if_neg h125, if_neg h125]
    by_cases h44 : d (ws d n g) ≠ 44
    · rw [if_pos h44, if_pos h44]; rfl
    rw [if_neg h44, if_neg h44]
    have hw3 := ws_range (d := d) (show ws d n g + 1 ≤ n by omega)
    exact (later 2 (ws d n g + 1) (by omega) (by omega) stk).2.2 rfl hl

/-- What the model answers of the whole text from i on. -/
def accB (d : Nat → Int) (n i : Nat) : Bool := decide (0 ≤ mdl d n 0 (ws d n i) 0) && (ws d n (mdl d n 0 (ws d n i) 0).toNat == n)

theorem run_acc (d : Nat → Int) (n i : Nat) (hi : i ≤ n) : run d n i 0 [] = accB d n i := by
  have hw := ws_range (d := d) hi
  rw [(good_all d n _ 0 i hi (Nat.le_refl _) []).1 rfl (by simp)]
  unfold accB
  show fin d n (mdl d n 0 (ws d n i) 0) [] = _
  rcases mdl_range d n 0 (ws d n i) 0 hw.2 with e | ⟨g, e, h1, h2⟩
  · rw [e]; rfl
  · rw [e, fin_pos, Int.toNat_natCast]
    by_cases hn : ws d n g = n
    · rw [run_end h2 hn, hn]; simp
    · rw [run_at h2 hn]; unfold rstep; rw [if_pos rfl]; simp [hn]

end Go.Proofs.Qxb6602097a.Pl
