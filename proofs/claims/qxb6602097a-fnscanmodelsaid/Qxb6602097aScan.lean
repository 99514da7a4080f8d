/-
  scan: what one round needs; what holds at each round's head.
-/
import Derived.Test.Qxb6602097aLiteral
import Derived.Test.Qxb6602097aBits
import Derived.Test.Qxb6602097aString
import Derived.Test.Qxb6602097aNumber
import Derived.Deep.CutBlock
namespace Go.Proofs.Qxb6602097a
open Go.RowKit

/-- The words of 'objects' as they are laid. -/
def zeros : Array Value := Array.replicate 157 (.int .u64 0)
theorem zero34 (w : World) : (zeroValue 34).run Try.prog w = .ok (.agg zeros) w := by kernel_rfl

theorem Words.set {w : World} {B : Nat} {ob : Nat → Nat} (h : Words w B ob) {q : Nat} (hq : q < 157) (v : Nat) : Words (w.setCell ⟨B, q, none⟩ (.int .u64 v)) B (fun k => if k = q then v else ob k) := by
  intro k hk
  refine ⟨?_, by rw [World.frozen?_setCell]; exact (h k hk).2⟩
  by_cases e : k = q
  · subst e
    rw [World.cell?_setCell_same _ _ _ (h k hk).1]; simp
  · rw [World.cell?_setCell_other _ _ _ _ (by intro x; injection x with _ x; exact e x.symm)]
    simp only [if_neg e]
    exact (h k hk).1
theorem Words.below {w w' : World} {B : Nat} {ob : Nat → Nat} (h : Words w B ob) (hb : Below w.heap.size w w') (hB : B < w.heap.size) : Words w' B ob := fun k hk =>
  ⟨(hb.cell (p := ⟨B, k, none⟩) hB).trans (h k hk).1, (hb.frozen (p := ⟨B, k, none⟩) hB).trans (h k hk).2⟩
theorem Words.eq {w : World} {B : Nat} {ob ob' : Nat → Nat} (h : Words w B ob) (he : ∀ k, ob k = ob' k) : Words w B ob' := by
  have : ob = ob' := funext he
  rw [← this]; exact h

theorem words_zero (w : World) : Words (w.alloc (.cells zeros 34)) w.heap.size (fun _ => 0) := by
  intro k hk
  have hb : (w.alloc (.cells zeros 34)).heap[w.heap.size]? = some (.cells zeros 34 (0, 0)) := by
    show (w.heap.push (.cells zeros 34))[w.heap.size]? = _
    simp
  constructor
  · rw [cell_of_row _ _ _ _ _ _ hb]
    unfold zeros
    rw [Array.getElem?_replicate, if_pos hk]; rfl
  · unfold World.frozen?
    rw [hb]; simp

def Rel (d : Nat → Int) (n B : Nat) (w : World) (R : Bool) (a b c : Value) (wr : World) : Prop := ∃ (j st : Nat) (stk : List Bool) (ob : Nat → Nat),
  j ≤ n ∧ st ≤ 5 ∧ stk.length ≤ 10000 ∧ (st = 1 ∨ st = 2 → 1 ≤ stk.length) ∧ a = .int .i64 j ∧ b = .int .i64 stk.length ∧ c = .int .i64 st ∧
  Words wr B ob ∧ Small ob ∧ Bits ob stk ∧ Below B w wr ∧ B < wr.heap.size ∧ R = Pl.run d n j st stk

theorem rel_mk {d : Nat → Int} {n B : Nat} {w : World} {R : Bool} {x y z : Int} {wr : World} (j st : Nat) (stk : List Bool) (ob : Nat → Nat)
    (hx : x = (j : Int)) (hy : y = (stk.length : Int)) (hz : z = (st : Int)) (hj : j ≤ n) (hst : st ≤ 5) (hl : stk.length ≤ 10000) (hne : st = 1 ∨ st = 2 → 1 ≤ stk.length)
    (hW : Words wr B ob) (hS : Small ob) (hB : Bits ob stk) (hb : Below B w wr) (hBr : B < wr.heap.size) (hR : R = Pl.run d n j st stk) : Rel d n B w R (.int .i64 x) (.int .i64 y) (.int .i64 z) wr := by
  subst hx; subst hy; subst hz
  exact ⟨j, st, stk, ob, hj, hst, hl, hne, rfl, rfl, rfl, hW, hS, hB, hb, hBr, hR⟩

def muV (n : Nat) (a c : Value) : Nat := Pl.mu n (intOf a).toNat (intOf c).toNat
theorem mu_lt {n i j : Nat} {x y z u : Int} (hx : x = (i : Int)) (hy : y = (j : Int)) (h : j + 1 ≤ i) (hn : i ≤ n) : muV n (.int .i64 x) (.int .i64 z) < muV n (.int .i64 y) (.int .i64 u) := by
  subst hx; subst hy
  simp only [muV, intOf, Int.toNat_natCast, Pl.mu]
  by_cases h1 : z.toNat = 2 <;> by_cases h2 : u.toNat = 2 <;> simp only [h1, h2, if_true, if_false] <;> omega

theorem below_draws {w : World} (nq : Nat) : Below w.heap.size w (w.drewN nq) := ⟨rfl, rfl, rfl, Nat.le_refl _, fun _ _ => rfl⟩

theorem ret_ba {a b : Bool} {w w' : World} (h : a = b) (hb : Below w.heap.size w w') : Ending.returned (.bool a) = .returned (.bool b) ∧ Below w.heap.size w w' := by rw [h]; exact ⟨rfl, hb⟩

end Go.Proofs.Qxb6602097a
