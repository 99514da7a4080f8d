/-
  ZZCycles, ZZSnapshot, UnderWay; what Observe's memory is.
-/
import Derived.Test.Qxb6001754aTime
import Derived.Deep.QuietTactic
import Derived.BigQuiet
namespace Go.Proofs.Qxb6001754a
open Go.RowKit

/-! ### blocks that are known whole -/
theorem blk_cell {w : World} {g : Nat} {cs : Array Value} {t : TypeId} (h : w.heap[g]? = some (.cells cs t (0, 0))) (k : Nat) : w.cell? ⟨g, k, none⟩ = cs[k]? := by
  simp [World.cell?, h]
theorem blk_free {w : World} {g : Nat} {cs : Array Value} {t : TypeId} (h : w.heap[g]? = some (.cells cs t (0, 0))) (k : Nat) : w.frozen? ⟨g, k, none⟩ = false := by
  simp [World.frozen?, h]
theorem blk_lt {w : World} {g : Nat} {o : Obj} (h : w.heap[g]? = some o) : g < w.heap.size := (Array.getElem?_eq_some_iff.1 h).1
theorem blk_set {w : World} {g : Nat} {cs : Array Value} {t : TypeId} (h : w.heap[g]? = some (.cells cs t (0, 0))) (k : Nat) (v : Value) : (w.setCell ⟨g, k, none⟩ v).heap[g]? = some (.cells (cs.setIfInBounds k v) t (0, 0)) := by
  simp [World.setCell, Array.getElem?_modify, h]
theorem blk_far {w : World} {g g' : Nat} {o : Option Obj} (h : w.heap[g']? = o) (ne : g' ≠ g) (k : Nat) (v : Value) : (w.setCell ⟨g, k, none⟩ v).heap[g']? = o := by
  rw [Below.heap_setCell w ⟨g, k, none⟩ v g' ne]; exact h
theorem blk_below {w w' : World} {B g : Nat} {o : Option Obj} (h : w.heap[g]? = o) (hb : Below B w w') (hg : g < B) : w'.heap[g]? = o := (hb.block g hg).trans h

/-- A tracker lies at block b: its counts, its start, its last time. -/
def Cyc (w : World) (b : Nat) (dn st sw se lw le : Int) : Prop := w.heap[b]? = some (.cells #[.int .u64 dn, .int .u64 st, .int .u64 sw, .int .i64 se, .pointer none, .int .u64 lw, .int .i64 le, .pointer none] 47 (0, 0))
theorem Cyc.below {w w' : World} {b : Nat} {dn st sw se lw le : Int} (h : Cyc w b dn st sw se lw le) (hb : Below w.heap.size w w') : Cyc w' b dn st sw se lw le := blk_below h hb (blk_lt h)
theorem Cyc.lt {w : World} {b : Nat} {dn st sw se lw le : Int} (h : Cyc w b dn st sw se lw le) : b < w.heap.size := blk_lt h

set_option maxHeartbeats 400000 in
theorem snapshot_at (h a c s : Int) (w : World) :
    Calls Try.prog 14 #[.int .u64 h, .int .u64 a, .int .u64 c, .int .u64 s] w fun e w' => e = .returned (.agg #[.int .u64 h, .int .u64 0, .int .u64 a, .int .u64 0, .int .u64 c, .int .u64 s]) ∧ Below w.heap.size w w' := by
  go_enter Try.func14, Try.ntmps14
  go_wp2
  exact bodyPost_ret (v := .agg #[.int .u64 h, .int .u64 0, .int .u64 a, .int .u64 0, .int .u64 c, .int .u64 s]) (by simp [results, Try.results14, go_sem]) rfl ⟨rfl, (Below.refl _ _).alloc (Nat.le_refl _) _⟩

set_option maxHeartbeats 400000 in
theorem underWay_at (b : Nat) (dn st sw se lw le : Int) (w : World) (hC : Cyc w b dn st sw se lw le) :
    Calls Try.prog 15 #[.pointer (some ⟨b, 0, none⟩)] w fun e w' => e = .returned (.bool (!(sw == 0 && se == 0))) ∧ Below w.heap.size w w' := by
  have c2 : w.cell? ⟨b, 2, none⟩ = some (.int .u64 sw) := blk_cell hC 2
  have c3 : w.cell? ⟨b, 3, none⟩ = some (.int .i64 se) := blk_cell hC 3
  have c4 : w.cell? ⟨b, 4, none⟩ = some (.pointer none) := blk_cell hC 4
  have h := isZero_at sw se w
  generalize (sw == 0 && se == 0) = z at *
  go_enter Try.func15, Try.ntmps15
  go_wp2_with fail
  refine h.mono ?_
  rintro e w1 ⟨rfl, hb⟩
  clear h
  go_wp2_with fail
  go_ret
  exact ⟨rfl, hb⟩

set_option maxRecDepth 100000 in
set_option maxHeartbeats 1000000 in
theorem cycles_at (dn st sn ln : Int) (w : World) (h0 : -9223372036854775808 ≤ sn) (h1 : sn ≤ 9223372036854775807) (h2 : -9223372036854775808 ≤ ln) (h3 : ln ≤ 9223372036854775807) :
    Calls Try.prog 11 #[.int .u64 dn, .int .u64 st, .int .i64 sn, .int .i64 ln] w fun e w' => ∃ g, e = .returned (.pointer (some ⟨g, 0, none⟩)) ∧ w.heap.size ≤ g ∧ Cyc w' g dn st (sn % 1000000000) (sn / 1000000000) (ln % 1000000000) (ln / 1000000000) ∧ Below w.heap.size w w' := by
  go_enter Try.func11, Try.ntmps11
  go_wp2_with fail
  refine (zzTime_at sn _ h0 h1).mono ?_
  rintro e w1 ⟨rfl, hb1⟩
  go_wp2_with fail
  refine (zzTime_at ln _ h2 h3).mono ?_
  rintro e w2 ⟨rfl, hb2⟩
  have hb : Below w.heap.size w w2 := hb1.trans (hb2.mono hb1.size)
  clear hb1 hb2
  go_wp2_with fail
  go_ret
  refine ⟨_, rfl, hb.size, ?_, hb.alloc hb.size _⟩
  exact heap_alloc_new _ _

/-- Of what lay in w only the block b may have turned. -/
structure Tch (b : Nat) (w W : World) : Prop where
  bel : Below b w W
  oth : ∀ g, g ≠ b → g < w.heap.size → W.heap[g]? = w.heap[g]?
theorem Tch.setB {b : Nat} {w W : World} (h : Tch b w W) (k : Nat) (v : Value) : Tch b w (W.setCell ⟨b, k, none⟩ v) :=
  ⟨h.bel.setCell (Nat.le_refl _) _, fun g h1 h2 => blk_far (h.oth g h1 h2) h1 _ _⟩
theorem Tch.setN {b p : Nat} {w W : World} (h : Tch b w W) (hb : b ≤ p) (hp : w.heap.size ≤ p) (k : Nat) (v : Value) : Tch b w (W.setCell ⟨p, k, none⟩ v) :=
  ⟨h.bel.setCell hb _, fun g h1 h2 => blk_far (h.oth g h1 h2) (by omega) _ _⟩
theorem Tch.below {b : Nat} {w W w1 : World} (h : Tch b w W) (k : Below W.heap.size W w1) (lt : b < W.heap.size) : Tch b w w1 :=
  ⟨h.bel.trans (k.mono (Nat.le_of_lt lt)), fun g h1 h2 => (k.block g (Nat.lt_of_lt_of_le h2 h.bel.size)).trans (h.oth g h1 h2)⟩
theorem Tch.drew {b : Nat} {w W : World} (h : Tch b w W) : Tch b w W.drew := ⟨h.bel.drew, h.oth⟩
theorem Tch.draws {b : Nat} {w W : World} (h : Tch b w W) (m : Nat) : Tch b w (W.drewN m) := ⟨h.bel.trans ⟨rfl, rfl, rfl, Nat.le_refl _, fun _ _ => rfl⟩, h.oth⟩
theorem Tch.of {b : Nat} {w W : World} (h : Below w.heap.size w W) (lt : b < w.heap.size) : Tch b w W := ⟨h.mono (Nat.le_of_lt lt), fun g _ h2 => h.block g h2⟩
theorem Tch.trans {b : Nat} {w W w1 : World} (h : Tch b w W) (k : Tch b W w1) : Tch b w w1 := ⟨h.bel.trans k.bel, fun g h1 h2 => (k.oth g h1 (Nat.lt_of_lt_of_le h2 h.bel.size)).trans (h.oth g h1 h2)⟩

/-- Observe's memory: the snapshot at p0, the time at p1, the result at p2, the change at p3; the tracker at b; below b nothing has turned. -/
structure Obs (w W : World) (b p0 p1 p2 p3 : Nat) (dn st sw se lw le x0 x1 x2 x3 cy gs nw ne : Int) (qs : Bool) (en vw ve : Int) : Prop where
  hb : Cyc W b dn st sw se lw le
  hs : W.heap[p0]? = some (.cells #[.int .u64 x0, .int .u64 x1, .int .u64 x2, .int .u64 x3, .int .u64 cy, .int .u64 gs] 34 (0, 0))
  ht : W.heap[p1]? = some (.cells #[.int .u64 nw, .int .i64 ne, .pointer none] 44 (0, 0))
  hr : W.heap[p2]? = some (.cells #[.bool false, .int .u64 0, .int .u64 0, .int .i64 0, .pointer none] 49 (0, 0))
  hq : W.heap[p3]? = some (.cells #[.bool qs, .int .u64 en, .int .u64 vw, .int .i64 ve, .pointer none] 49 (0, 0))
  ord : b < p0 ∧ p0 < p1 ∧ p1 < p2 ∧ p2 < p3
  bel : Tch b w W
  sz : w.heap.size ≤ p0

theorem Obs.below {w W : World} {b p0 p1 p2 p3 : Nat} {dn st sw se lw le x0 x1 x2 x3 cy gs nw ne : Int} {qs : Bool} {en vw ve : Int} {w1 : World} (h : Obs w W b p0 p1 p2 p3 dn st sw se lw le x0 x1 x2 x3 cy gs nw ne qs en vw ve) (k : Below W.heap.size W w1) : Obs w w1 b p0 p1 p2 p3 dn st sw se lw le x0 x1 x2 x3 cy gs nw ne qs en vw ve :=
  ⟨h.hb.below k, blk_below h.hs k (blk_lt h.hs), blk_below h.ht k (blk_lt h.ht), blk_below h.hr k (blk_lt h.hr), blk_below h.hq k (blk_lt h.hq), h.ord, h.bel.below k h.hb.lt, h.sz⟩
theorem Obs.draws {w W : World} {b p0 p1 p2 p3 : Nat} {dn st sw se lw le x0 x1 x2 x3 cy gs nw ne : Int} {qs : Bool} {en vw ve : Int} (h : Obs w W b p0 p1 p2 p3 dn st sw se lw le x0 x1 x2 x3 cy gs nw ne qs en vw ve) (m : Nat) : Obs w (W.drewN m) b p0 p1 p2 p3 dn st sw se lw le x0 x1 x2 x3 cy gs nw ne qs en vw ve := ⟨h.hb, h.hs, h.ht, h.hr, h.hq, h.ord, h.bel.draws m, h.sz⟩
theorem Obs.q0 {w W : World} {b p0 p1 p2 p3 : Nat} {dn st sw se lw le x0 x1 x2 x3 cy gs nw ne : Int} {qs : Bool} {en vw ve : Int} (h : Obs w W b p0 p1 p2 p3 dn st sw se lw le x0 x1 x2 x3 cy gs nw ne qs en vw ve) (z : Bool) : Obs w (W.setCell ⟨p3, 0, none⟩ (.bool z)) b p0 p1 p2 p3 dn st sw se lw le x0 x1 x2 x3 cy gs nw ne z en vw ve := by
  obtain ⟨o1, o2, o3, o4⟩ := h.ord
  exact ⟨blk_far h.hb (by omega) _ _, blk_far h.hs (by omega) _ _, blk_far h.ht (by omega) _ _, blk_far h.hr (by omega) _ _, blk_set h.hq 0 _, h.ord, h.bel.setN (by omega) (by have := h.sz; omega) _ _, h.sz⟩
theorem Obs.q1 {w W : World} {b p0 p1 p2 p3 : Nat} {dn st sw se lw le x0 x1 x2 x3 cy gs nw ne : Int} {qs : Bool} {en vw ve : Int} (h : Obs w W b p0 p1 p2 p3 dn st sw se lw le x0 x1 x2 x3 cy gs nw ne qs en vw ve) (z : Int) : Obs w (W.setCell ⟨p3, 1, none⟩ (.int .u64 z)) b p0 p1 p2 p3 dn st sw se lw le x0 x1 x2 x3 cy gs nw ne qs z vw ve := by
  obtain ⟨o1, o2, o3, o4⟩ := h.ord
  exact ⟨blk_far h.hb (by omega) _ _, blk_far h.hs (by omega) _ _, blk_far h.ht (by omega) _ _, blk_far h.hr (by omega) _ _, blk_set h.hq 1 _, h.ord, h.bel.setN (by omega) (by have := h.sz; omega) _ _, h.sz⟩
theorem Obs.q2 {w W : World} {b p0 p1 p2 p3 : Nat} {dn st sw se lw le x0 x1 x2 x3 cy gs nw ne : Int} {qs : Bool} {en vw ve : Int} (h : Obs w W b p0 p1 p2 p3 dn st sw se lw le x0 x1 x2 x3 cy gs nw ne qs en vw ve) (z : Int) : Obs w (W.setCell ⟨p3, 2, none⟩ (.int .u64 z)) b p0 p1 p2 p3 dn st sw se lw le x0 x1 x2 x3 cy gs nw ne qs en z ve := by
  obtain ⟨o1, o2, o3, o4⟩ := h.ord
  exact ⟨blk_far h.hb (by omega) _ _, blk_far h.hs (by omega) _ _, blk_far h.ht (by omega) _ _, blk_far h.hr (by omega) _ _, blk_set h.hq 2 _, h.ord, h.bel.setN (by omega) (by have := h.sz; omega) _ _, h.sz⟩
theorem Obs.q3 {w W : World} {b p0 p1 p2 p3 : Nat} {dn st sw se lw le x0 x1 x2 x3 cy gs nw ne : Int} {qs : Bool} {en vw ve : Int} (h : Obs w W b p0 p1 p2 p3 dn st sw se lw le x0 x1 x2 x3 cy gs nw ne qs en vw ve) (z : Int) : Obs w (W.setCell ⟨p3, 3, none⟩ (.int .i64 z)) b p0 p1 p2 p3 dn st sw se lw le x0 x1 x2 x3 cy gs nw ne qs en vw z := by
  obtain ⟨o1, o2, o3, o4⟩ := h.ord
  exact ⟨blk_far h.hb (by omega) _ _, blk_far h.hs (by omega) _ _, blk_far h.ht (by omega) _ _, blk_far h.hr (by omega) _ _, blk_set h.hq 3 _, h.ord, h.bel.setN (by omega) (by have := h.sz; omega) _ _, h.sz⟩
theorem Obs.q4 {w W : World} {b p0 p1 p2 p3 : Nat} {dn st sw se lw le x0 x1 x2 x3 cy gs nw ne : Int} {qs : Bool} {en vw ve : Int} (h : Obs w W b p0 p1 p2 p3 dn st sw se lw le x0 x1 x2 x3 cy gs nw ne qs en vw ve) : Obs w (W.setCell ⟨p3, 4, none⟩ (.pointer none)) b p0 p1 p2 p3 dn st sw se lw le x0 x1 x2 x3 cy gs nw ne qs en vw ve := by
  obtain ⟨o1, o2, o3, o4⟩ := h.ord
  exact ⟨blk_far h.hb (by omega) _ _, blk_far h.hs (by omega) _ _, blk_far h.ht (by omega) _ _, blk_far h.hr (by omega) _ _, blk_set h.hq 4 _, h.ord, h.bel.setN (by omega) (by have := h.sz; omega) _ _, h.sz⟩
theorem Obs.c0 {w W : World} {b p0 p1 p2 p3 : Nat} {dn st sw se lw le x0 x1 x2 x3 cy gs nw ne : Int} {qs : Bool} {en vw ve : Int} (h : Obs w W b p0 p1 p2 p3 dn st sw se lw le x0 x1 x2 x3 cy gs nw ne qs en vw ve) (z : Int) : Obs w (W.setCell ⟨b, 0, none⟩ (.int .u64 z)) b p0 p1 p2 p3 z st sw se lw le x0 x1 x2 x3 cy gs nw ne qs en vw ve := by
  obtain ⟨o1, o2, o3, o4⟩ := h.ord
  exact ⟨blk_set h.hb 0 _, blk_far h.hs (by omega) _ _, blk_far h.ht (by omega) _ _, blk_far h.hr (by omega) _ _, blk_far h.hq (by omega) _ _, h.ord, h.bel.setB _ _, h.sz⟩
theorem Obs.c1 {w W : World} {b p0 p1 p2 p3 : Nat} {dn st sw se lw le x0 x1 x2 x3 cy gs nw ne : Int} {qs : Bool} {en vw ve : Int} (h : Obs w W b p0 p1 p2 p3 dn st sw se lw le x0 x1 x2 x3 cy gs nw ne qs en vw ve) (z : Int) : Obs w (W.setCell ⟨b, 1, none⟩ (.int .u64 z)) b p0 p1 p2 p3 dn z sw se lw le x0 x1 x2 x3 cy gs nw ne qs en vw ve := by
  obtain ⟨o1, o2, o3, o4⟩ := h.ord
  exact ⟨blk_set h.hb 1 _, blk_far h.hs (by omega) _ _, blk_far h.ht (by omega) _ _, blk_far h.hr (by omega) _ _, blk_far h.hq (by omega) _ _, h.ord, h.bel.setB _ _, h.sz⟩
theorem Obs.c2 {w W : World} {b p0 p1 p2 p3 : Nat} {dn st sw se lw le x0 x1 x2 x3 cy gs nw ne : Int} {qs : Bool} {en vw ve : Int} (h : Obs w W b p0 p1 p2 p3 dn st sw se lw le x0 x1 x2 x3 cy gs nw ne qs en vw ve) (z : Int) : Obs w (W.setCell ⟨b, 2, none⟩ (.int .u64 z)) b p0 p1 p2 p3 dn st z se lw le x0 x1 x2 x3 cy gs nw ne qs en vw ve := by
  obtain ⟨o1, o2, o3, o4⟩ := h.ord
  exact ⟨blk_set h.hb 2 _, blk_far h.hs (by omega) _ _, blk_far h.ht (by omega) _ _, blk_far h.hr (by omega) _ _, blk_far h.hq (by omega) _ _, h.ord, h.bel.setB _ _, h.sz⟩
theorem Obs.c3 {w W : World} {b p0 p1 p2 p3 : Nat} {dn st sw se lw le x0 x1 x2 x3 cy gs nw ne : Int} {qs : Bool} {en vw ve : Int} (h : Obs w W b p0 p1 p2 p3 dn st sw se lw le x0 x1 x2 x3 cy gs nw ne qs en vw ve) (z : Int) : Obs w (W.setCell ⟨b, 3, none⟩ (.int .i64 z)) b p0 p1 p2 p3 dn st sw z lw le x0 x1 x2 x3 cy gs nw ne qs en vw ve := by
  obtain ⟨o1, o2, o3, o4⟩ := h.ord
  exact ⟨blk_set h.hb 3 _, blk_far h.hs (by omega) _ _, blk_far h.ht (by omega) _ _, blk_far h.hr (by omega) _ _, blk_far h.hq (by omega) _ _, h.ord, h.bel.setB _ _, h.sz⟩
theorem Obs.c4 {w W : World} {b p0 p1 p2 p3 : Nat} {dn st sw se lw le x0 x1 x2 x3 cy gs nw ne : Int} {qs : Bool} {en vw ve : Int} (h : Obs w W b p0 p1 p2 p3 dn st sw se lw le x0 x1 x2 x3 cy gs nw ne qs en vw ve) : Obs w (W.setCell ⟨b, 4, none⟩ (.pointer none)) b p0 p1 p2 p3 dn st sw se lw le x0 x1 x2 x3 cy gs nw ne qs en vw ve := by
  obtain ⟨o1, o2, o3, o4⟩ := h.ord
  exact ⟨blk_set h.hb 4 _, blk_far h.hs (by omega) _ _, blk_far h.ht (by omega) _ _, blk_far h.hr (by omega) _ _, blk_far h.hq (by omega) _ _, h.ord, h.bel.setB _ _, h.sz⟩
theorem Obs.c5 {w W : World} {b p0 p1 p2 p3 : Nat} {dn st sw se lw le x0 x1 x2 x3 cy gs nw ne : Int} {qs : Bool} {en vw ve : Int} (h : Obs w W b p0 p1 p2 p3 dn st sw se lw le x0 x1 x2 x3 cy gs nw ne qs en vw ve) (z : Int) : Obs w (W.setCell ⟨b, 5, none⟩ (.int .u64 z)) b p0 p1 p2 p3 dn st sw se z le x0 x1 x2 x3 cy gs nw ne qs en vw ve := by
  obtain ⟨o1, o2, o3, o4⟩ := h.ord
  exact ⟨blk_set h.hb 5 _, blk_far h.hs (by omega) _ _, blk_far h.ht (by omega) _ _, blk_far h.hr (by omega) _ _, blk_far h.hq (by omega) _ _, h.ord, h.bel.setB _ _, h.sz⟩
theorem Obs.c6 {w W : World} {b p0 p1 p2 p3 : Nat} {dn st sw se lw le x0 x1 x2 x3 cy gs nw ne : Int} {qs : Bool} {en vw ve : Int} (h : Obs w W b p0 p1 p2 p3 dn st sw se lw le x0 x1 x2 x3 cy gs nw ne qs en vw ve) (z : Int) : Obs w (W.setCell ⟨b, 6, none⟩ (.int .i64 z)) b p0 p1 p2 p3 dn st sw se lw z x0 x1 x2 x3 cy gs nw ne qs en vw ve := by
  obtain ⟨o1, o2, o3, o4⟩ := h.ord
  exact ⟨blk_set h.hb 6 _, blk_far h.hs (by omega) _ _, blk_far h.ht (by omega) _ _, blk_far h.hr (by omega) _ _, blk_far h.hq (by omega) _ _, h.ord, h.bel.setB _ _, h.sz⟩
theorem Obs.c7 {w W : World} {b p0 p1 p2 p3 : Nat} {dn st sw se lw le x0 x1 x2 x3 cy gs nw ne : Int} {qs : Bool} {en vw ve : Int} (h : Obs w W b p0 p1 p2 p3 dn st sw se lw le x0 x1 x2 x3 cy gs nw ne qs en vw ve) : Obs w (W.setCell ⟨b, 7, none⟩ (.pointer none)) b p0 p1 p2 p3 dn st sw se lw le x0 x1 x2 x3 cy gs nw ne qs en vw ve := by
  obtain ⟨o1, o2, o3, o4⟩ := h.ord
  exact ⟨blk_set h.hb 7 _, blk_far h.hs (by omega) _ _, blk_far h.ht (by omega) _ _, blk_far h.hr (by omega) _ _, blk_far h.hq (by omega) _ _, h.ord, h.bel.setB _ _, h.sz⟩

theorem obs_start (b : Nat) (dn st sw se lw le x0 x1 x2 x3 cy gs nw ne : Int) (w : World) (hC : Cyc w b dn st sw se lw le) :
    Obs w ((((w.alloc (.cells #[.int .u64 x0, .int .u64 x1, .int .u64 x2, .int .u64 x3, .int .u64 cy, .int .u64 gs] 34)).alloc (.cells #[.int .u64 nw, .int .i64 ne, .pointer none] 44)).alloc (.cells #[.bool false, .int .u64 0, .int .u64 0, .int .i64 0, .pointer none] 49)).alloc (.cells #[.bool false, .int .u64 0, .int .u64 0, .int .i64 0, .pointer none] 49))
      b w.heap.size (w.heap.size + 1) (w.heap.size + 1 + 1) (w.heap.size + 1 + 1 + 1) dn st sw se lw le x0 x1 x2 x3 cy gs nw ne false 0 0 0 := by
  have lt := hC.lt
  have ha : ∀ (v : World) (o : Obj) (k : Nat), k < v.heap.size → (v.alloc o).heap[k]? = v.heap[k]? := fun v o k h => Below.heap_alloc v o k h
  have hn : ∀ (v : World) (o : Obj) (k : Nat), k = v.heap.size → (v.alloc o).heap[k]? = some o := fun v o k h => by rw [h]; exact heap_alloc_new v o
  refine ⟨?_, ?_, ?_, ?_, ?_, by omega, ?_, Nat.le_refl _⟩
  · show _ = _
    rw [ha _ _ _ (by simp; omega), ha _ _ _ (by simp; omega), ha _ _ _ (by simp; omega), ha _ _ _ lt]; exact hC
  · rw [ha _ _ _ (by simp; omega), ha _ _ _ (by simp; omega), ha _ _ _ (by simp), hn _ _ _ (by simp)]
  · rw [ha _ _ _ (by simp), ha _ _ _ (by simp), hn _ _ _ (by simp)]
  · rw [ha _ _ _ (by simp), hn _ _ _ (by simp)]
  · rw [hn _ _ _ (by simp)]
  · exact Tch.of (((((Below.refl _ _).alloc (Nat.le_refl _) _).alloc (by simp) _).alloc (by simp; omega) _).alloc (by simp; omega) _) lt

end Go.Proofs.Qxb6001754a
