/-
  PLAIN LAWS: the model's steps, a way each. No Go in sight.
-/
import Derived.Test.Qxb6602097aJsonLaw
namespace Go.Proofs.Qxb6602097a.Pl

/-- What an array that opens at p comes to. -/
def arrAt (d : Nat → Int) (n p dep : Nat) : Int :=
  if 10000 < dep then -1 else if ws d n (p + 1) < n ∧ d (ws d n (p + 1)) = 93 then ((ws d n (p + 1) + 1 : Nat) : Int) else mdl d n 1 (ws d n (p + 1)) dep
def objAt (d : Nat → Int) (n p dep : Nat) : Int :=
  if 10000 < dep then -1 else if ws d n (p + 1) < n ∧ d (ws d n (p + 1)) = 125 then ((ws d n (p + 1) + 1 : Nat) : Int) else mdl d n 2 (ws d n (p + 1)) dep

theorem mdl0_arr {d : Nat → Int} {n p dep : Nat} (hp : p < n) (h : d p = 91) : mdl d n 0 p dep = arrAt d n p (dep + 1) := by
  rw [mdl_eq d n 0 p dep (by omega)]; unfold mstep arrAt
  rw [if_pos rfl, if_neg (by omega), if_pos h]
theorem mdl0_obj {d : Nat → Int} {n p dep : Nat} (hp : p < n) (h : d p = 123) : mdl d n 0 p dep = objAt d n p (dep + 1) := by
  rw [mdl_eq d n 0 p dep (by omega)]; unfold mstep objAt
  rw [if_pos rfl, if_neg (by omega), if_neg (by omega), if_pos h]
theorem mdl0_scal {d : Nat → Int} {n p dep : Nat} (hp : p < n) (h : d p ≠ 91) (h2 : d p ≠ 123) : mdl d n 0 p dep = scal d n p := by
  rw [mdl_eq d n 0 p dep (by omega)]; unfold mstep
  rw [if_pos rfl, if_neg (by omega), if_neg h, if_neg h2]

section arr
variable {d : Nat → Int} {n q dep : Nat}
theorem mdl1_neg (hq : q ≤ n) (h : mdl d n 0 q dep = -1) : mdl d n 1 q dep = -1 := by
  rw [mdl_eq d n 1 q dep hq]; unfold mstep
  rw [if_neg (by decide), if_pos rfl, h, if_pos (by decide)]
theorem mdl1_pos {g : Nat} (hq : q ≤ n) (h : mdl d n 0 q dep = (g : Int)) : mdl d n 1 q dep = if n ≤ ws d n g then -1 else if d (ws d n g) = 93 then ((ws d n g + 1 : Nat) : Int) else if d (ws d n g) ≠ 44 then -1 else mdl d n 1 (ws d n (ws d n g + 1)) dep := by
  rw [mdl_eq d n 1 q dep hq]; unfold mstep
  rw [if_neg (by decide), if_pos rfl, h, if_neg (by omega), Int.toNat_natCast]
end arr

theorem mdl2_noq {d : Nat → Int} {n q dep : Nat} (hq : q ≤ n) (h : n ≤ q ∨ d q ≠ 34) : mdl d n 2 q dep = -1 := by
  rw [mdl_eq d n 2 q dep hq]; unfold mstep
  rw [if_neg (by decide), if_neg (by decide), if_pos h]
theorem mdl2_nostr {d : Nat → Int} {n q dep : Nat} (hq : q < n) (h : d q = 34) (hs : str d n (q + 1) = -1) : mdl d n 2 q dep = -1 := by
  rw [mdl_eq d n 2 q dep (by omega)]; unfold mstep
  rw [if_neg (by decide), if_neg (by decide), if_neg (by omega), hs, if_pos (by decide)]
theorem mdl2_nocol {d : Nat → Int} {n q dep s : Nat} (hq : q < n) (h : d q = 34) (hs : str d n (q + 1) = (s : Int)) (hc : n ≤ ws d n s ∨ d (ws d n s) ≠ 58) : mdl d n 2 q dep = -1 := by
  rw [mdl_eq d n 2 q dep (by omega)]; unfold mstep
  rw [if_neg (by decide), if_neg (by decide), if_neg (by omega), hs, if_neg (by omega), Int.toNat_natCast]
  simp only
  rw [if_pos hc]
theorem mdl2_noval {d : Nat → Int} {n q dep s : Nat} (hq : q < n) (h : d q = 34) (hs : str d n (q + 1) = (s : Int)) (hc : ¬ (n ≤ ws d n s ∨ d (ws d n s) ≠ 58)) (hv : mdl d n 0 (ws d n (ws d n s + 1)) dep = -1) : mdl d n 2 q dep = -1 := by
  rw [mdl_eq d n 2 q dep (by omega)]; unfold mstep
  rw [if_neg (by decide), if_neg (by decide), if_neg (by omega), hs, if_neg (by omega), Int.toNat_natCast]
  simp only
  rw [if_neg hc, hv, if_pos (by decide)]
theorem mdl2_pos {d : Nat → Int} {n q dep s g : Nat} (hq : q < n) (h : d q = 34) (hs : str d n (q + 1) = (s : Int)) (hc : ¬ (n ≤ ws d n s ∨ d (ws d n s) ≠ 58)) (hv : mdl d n 0 (ws d n (ws d n s + 1)) dep = (g : Int)) :
    mdl d n 2 q dep = if n ≤ ws d n g then -1 else if d (ws d n g) = 125 then ((ws d n g + 1 : Nat) : Int) else if d (ws d n g) ≠ 44 then -1 else mdl d n 2 (ws d n (ws d n g + 1)) dep := by
  rw [mdl_eq d n 2 q dep (by omega)]; unfold mstep
  rw [if_neg (by decide), if_neg (by decide), if_neg (by omega), hs, if_neg (by omega), Int.toNat_natCast]
  simp only
  rw [if_neg hc, hv, if_neg (by omega), Int.toNat_natCast]

end Go.Proofs.Qxb6602097a.Pl
