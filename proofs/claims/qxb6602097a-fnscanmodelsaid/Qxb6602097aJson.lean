/-
  PLAIN MATHEMATICS: scan's machine and the recursive-descent model; they accept the same texts. No Go in sight.
-/
import Derived.Test.Qxb6602097aNumLaw
import Derived.Test.Qxb6602097aStrLaw
namespace Go.Proofs.Qxb6602097a.Pl

/-! ### literals, scalars -/
/-- The bytes L lie at p. -/
def litB (d : Nat → Int) (n p : Nat) (L : List Int) : Bool := decide (p + L.length ≤ n) && (List.range L.length).all fun k => d (p + k) == L.getD k 0
def lit (d : Nat → Int) (n p : Nat) (L : List Int) : Int := if litB d n p L = true then ((p + L.length : Nat) : Int) else -1
/-- A string, a literal or a number that starts at p. -/
def scal (d : Nat → Int) (n p : Nat) : Int :=
  if d p = 34 then str d n (p + 1)
  else if d p = 116 then lit d n p [116, 114, 117, 101]
  else if d p = 102 then lit d n p [102, 97, 108, 115, 101]
  else if d p = 110 then lit d n p [110, 117, 108, 108]
  else num d n p

theorem lit_range (d : Nat → Int) (n p : Nat) (L : List Int) (hL : 1 ≤ L.length) : lit d n p L = -1 ∨ ∃ g : Nat, lit d n p L = (g : Int) ∧ p + 1 ≤ g ∧ g ≤ n := by
  unfold lit
  by_cases h : litB d n p L = true
  · rw [if_pos h]
    have : p + L.length ≤ n := by
      unfold litB at h
      rw [Bool.and_eq_true] at h
      exact of_decide_eq_true h.1
    exact .inr ⟨p + L.length, rfl, by omega, this⟩
  · rw [if_neg h]; exact .inl rfl

theorem scal_range (d : Nat → Int) (n p : Nat) (hp : p < n) : scal d n p = -1 ∨ ∃ g : Nat, scal d n p = (g : Int) ∧ p + 1 ≤ g ∧ g ≤ n := by
  unfold scal
  split
  · rcases str_range d n (p + 1) with h | ⟨g, h, h1, h2, _⟩
    · exact .inl h
    · exact .inr ⟨g, h, by omega, h2⟩
  split
  · exact lit_range d n p _ (by decide)
  split
  · exact lit_range d n p _ (by decide)
  split
  · exact lit_range d n p _ (by decide)
  rcases num_range d n p hp with h | ⟨g, h, h1, h2, _⟩
  · exact .inl h
  · exact .inr ⟨g, h, h1, h2⟩

/-- White space passed over. -/
def ws (d : Nat → Int) (n j : Nat) : Nat := skip spB d n j
theorem ws_range {d : Nat → Int} {n j : Nat} (h : j ≤ n) : j ≤ ws d n j ∧ ws d n j ≤ n := skip_ge spB d n j h
theorem ws_ws {d : Nat → Int} {n j : Nat} (h : j ≤ n) : ws d n (ws d n j) = ws d n j := by
  have key : ∀ f j, n - j ≤ f → j ≤ n → skip spB d n (skip spB d n j) = skip spB d n j := by
    intro f
    induction f with
    | zero => intro j h1 h2; rw [skip_end spB d n j (by omega)]; exact skip_end spB d n j (by omega)
    | succ f ih =>
      intro j h1 h2
      by_cases hs : j < n ∧ spB (d j) = true
      · rw [skip_step spB d n j hs.1 hs.2]; exact ih (j + 1) (by omega) (by omega)
      · rw [skip_stop spB d n j hs]; exact skip_stop spB d n j hs
  exact key _ j (Nat.le_refl _) h

/-! ### scan's machine: states 0 value, 1 element, 2 member, 3 key, 4 colon, 5 next; the stack of what is open (true: an object), the innermost first -/
def cls (o : Bool) : Int := if o = true then 125 else 93
/-- A value starts at i. -/
def vstep (d : Nat → Int) (n i : Nat) (stk : List Bool) (k : Nat → Nat → List Bool → Bool) : Bool :=
  if d i = 123 ∨ d i = 91 then (if 10000 < stk.length + 1 then false else k (i + 1) (if d i = 123 then 2 else 1) ((d i == 123) :: stk))
  else if scal d n i < 0 then false else k (scal d n i).toNat 5 stk
/-- One round, i past white space and below n. -/
def rstep (d : Nat → Int) (n i st : Nat) (stk : List Bool) (k : Nat → Nat → List Bool → Bool) : Bool :=
  if st = 5 then
    match stk with
    | [] => false
    | o :: rest => if d i = cls o then k (i + 1) 5 rest else if d i ≠ 44 then false else k (i + 1) (if o = true then 3 else 0) (o :: rest)
  else if st = 1 then (if d i = 93 then k (i + 1) 5 stk.tail else vstep d n i stk k)
  else if st = 2 then (if d i = 125 then k (i + 1) 5 stk.tail else k i 3 stk)
  else if st = 3 then (if d i ≠ 34 then false else if str d n (i + 1) < 0 then false else k (str d n (i + 1)).toNat 4 stk)
  else if st = 4 then (if d i ≠ 58 then false else k (i + 1) 0 stk)
  else vstep d n i stk k
def runF (d : Nat → Int) (n : Nat) : Nat → Nat → Nat → List Bool → Bool
  | 0, _, _, _ => false
  | f + 1, i, st, stk => if ws d n i = n then (st == 5 && stk.isEmpty) else rstep d n (ws d n i) st stk (runF d n f)
/-- What bounds the rounds to come. -/
def mu (n i st : Nat) : Nat := 2 * (n - i) + (if st = 2 then 1 else 0)
def run (d : Nat → Int) (n i st : Nat) (stk : List Bool) : Bool := runF d n (mu n i st + 1) i st stk

/-- Two continuations that agree wherever less is to come give the same round. -/
theorem rstep_congr {d : Nat → Int} {n i st : Nat} {stk : List Bool} {k1 k2 : Nat → Nat → List Bool → Bool} (hi : i < n)
    (h : ∀ i' st' stk', i' ≤ n → mu n i' st' < mu n i st → k1 i' st' stk' = k2 i' st' stk') : rstep d n i st stk k1 = rstep d n i st stk k2 := by
  have m2 : ∀ i' st', i + 1 ≤ i' → i' ≤ n → mu n i' st' < mu n i st := by intro i' st' h1 h2; unfold mu; split <;> split <;> omega
  have hv : vstep d n i stk k1 = vstep d n i stk k2 := by
    unfold vstep
    split
    · split
      · rfl
      · exact h _ _ _ (by omega) (m2 _ _ (by omega) (by omega))
    · rcases scal_range d n i hi with e | ⟨g, e, h1, h2⟩
      · rw [e]; rfl
      · rw [e, if_neg (by omega), if_neg (by omega), Int.toNat_natCast]; exact h _ _ _ h2 (m2 _ _ h1 h2)
  unfold rstep
  split
  · split
    · rfl
    · split
      · exact h _ _ _ (by omega) (m2 _ _ (by omega) (by omega))
      · split
        · rfl
        · exact h _ _ _ (by omega) (m2 _ _ (by omega) (by omega))
  split
  · split
    · exact h _ _ _ (by omega) (m2 _ _ (by omega) (by omega))
    · exact hv
  split
  · split
    · exact h _ _ _ (by omega) (m2 _ _ (by omega) (by omega))
    · rename_i h2 _
      refine h _ _ _ (by omega) ?_
      unfold mu; rw [if_neg (by decide), if_pos h2]; omega
  split
  · split
    · rfl
    · rcases str_range d n (i + 1) with e | ⟨g, e, h1, h2, _⟩
      · rw [e]; rfl
      · rw [e, if_neg (by omega), if_neg (by omega), Int.toNat_natCast]; exact h _ _ _ h2 (m2 _ _ (by omega) h2)
  split
  · split
    · rfl
    · exact h _ _ _ (by omega) (m2 _ _ (by omega) (by omega))
  exact hv

theorem mu_ws {d : Nat → Int} {n i st : Nat} (h : i ≤ n) : mu n (ws d n i) st ≤ mu n i st := by
  have := ws_range (d := d) h
  unfold mu; split <;> omega

theorem runF_fuel (d : Nat → Int) (n : Nat) : ∀ f g i st stk, i ≤ n → mu n i st < f → mu n i st < g → runF d n f i st stk = runF d n g i st stk := by
  intro f
  induction f with
  | zero => intro g i st stk _ h; omega
  | succ f ih =>
    intro g i st stk hi hf hg
    cases g with
    | zero => omega
    | succ g =>
      simp only [runF]
      by_cases hn : ws d n i = n
      · rw [if_pos hn, if_pos hn]
      · rw [if_neg hn, if_neg hn]
        have hw := ws_range (d := d) hi
        have hm := mu_ws (d := d) (st := st) hi
        exact rstep_congr (by omega) fun i' st' stk' h1 h2 => ih g i' st' stk' h1 (by omega) (by omega)

/-- The machine's round. -/
theorem run_eq (d : Nat → Int) (n i st : Nat) (stk : List Bool) (hi : i ≤ n) :
    run d n i st stk = if ws d n i = n then (st == 5 && stk.isEmpty) else rstep d n (ws d n i) st stk (run d n) := by
  show runF d n (mu n i st + 1) i st stk = _
  simp only [runF]
  by_cases hn : ws d n i = n
  · rw [if_pos hn, if_pos hn]
  · rw [if_neg hn, if_neg hn]
    have hw := ws_range (d := d) hi
    have hm := mu_ws (d := d) (st := st) hi
    exact rstep_congr (by omega) fun i' st' stk' h1 h2 => runF_fuel d n _ _ i' st' stk' h1 (by omega) (by omega)

/-! ### the model: tags 0 a value at p, 1 an array's rounds from p on, 2 an object's -/
def mstep (d : Nat → Int) (n t p dep : Nat) (k : Nat → Nat → Nat → Int) : Int :=
  if t = 0 then
    if n ≤ p then -1
    else if d p = 91 then
      (if 10000 < dep + 1 then -1 else if ws d n (p + 1) < n ∧ d (ws d n (p + 1)) = 93 then ((ws d n (p + 1) + 1 : Nat) : Int) else k 1 (ws d n (p + 1)) (dep + 1))
    else if d p = 123 then
      (if 10000 < dep + 1 then -1 else if ws d n (p + 1) < n ∧ d (ws d n (p + 1)) = 125 then ((ws d n (p + 1) + 1 : Nat) : Int) else k 2 (ws d n (p + 1)) (dep + 1))
    else scal d n p
  else if t = 1 then
    if k 0 p dep < 0 then -1
    else
      let q := ws d n (k 0 p dep).toNat
      if n ≤ q then -1 else if d q = 93 then ((q + 1 : Nat) : Int) else if d q ≠ 44 then -1 else k 1 (ws d n (q + 1)) dep
  else
    if n ≤ p ∨ d p ≠ 34 then -1
    else if str d n (p + 1) < 0 then -1
    else
      let q := ws d n (str d n (p + 1)).toNat
      if n ≤ q ∨ d q ≠ 58 then -1
      else if k 0 (ws d n (q + 1)) dep < 0 then -1
      else
        let r := ws d n (k 0 (ws d n (q + 1)) dep).toNat
        if n ≤ r then -1 else if d r = 125 then ((r + 1 : Nat) : Int) else if d r ≠ 44 then -1 else k 2 (ws d n (r + 1)) dep
def mdlF (d : Nat → Int) (n : Nat) : Nat → Nat → Nat → Nat → Int
  | 0, _, _, _ => -1
  | f + 1, t, p, dep => mstep d n t p dep (mdlF d n f)
def nu (n t p : Nat) : Nat := 2 * (n - p) + (if t = 0 then 0 else 1)
def mdl (d : Nat → Int) (n t p dep : Nat) : Int := mdlF d n (nu n t p + 1) t p dep

/-- -1, or an end past p and within the text. -/
def Rng (n p : Nat) (r : Int) : Prop := r = -1 ∨ ∃ g : Nat, r = (g : Int) ∧ p + 1 ≤ g ∧ g ≤ n

end Go.Proofs.Qxb6602097a.Pl
