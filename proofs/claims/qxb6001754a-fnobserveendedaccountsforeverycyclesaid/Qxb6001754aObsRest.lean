/-
  Observe where no cycle has ended.
-/
import Derived.Test.Qxb6001754aObsWalk
namespace Go.Proofs.Qxb6001754a
open Go.RowKit

abbrev ObsS (w W : World) (b p0 p1 p2 p3 : Nat) (dn st sw se lw le x0 x1 x2 x3 cy gs nw ne : Int) : Prop :=
  Obs w W b p0 p1 p2 p3 dn st sw se lw le x0 x1 x2 x3 cy gs nw ne false 0 0 0 ∧ W.cell? ⟨p0, 5, none⟩ = some (.int .u64 gs) ∧ W.cell? ⟨b, 1, none⟩ = some (.int .u64 st) ∧ W.cell? ⟨b, 2, none⟩ = some (.int .u64 sw) ∧ W.cell? ⟨b, 3, none⟩ = some (.int .i64 se) ∧ W.cell? ⟨b, 4, none⟩ = some (.pointer none)
theorem obsS_of {w W : World} {b p0 p1 p2 p3 : Nat} {dn st sw se lw le x0 x1 x2 x3 cy gs nw ne : Int} (h : Obs w W b p0 p1 p2 p3 dn st sw se lw le x0 x1 x2 x3 cy gs nw ne false 0 0 0) : ObsS w W b p0 p1 p2 p3 dn st sw se lw le x0 x1 x2 x3 cy gs nw ne :=
  ⟨h, blk_cell h.hs 5, blk_cell h.hb 1, blk_cell h.hb 2, blk_cell h.hb 3, blk_cell h.hb 4⟩
theorem Obs.drew {w W : World} {b p0 p1 p2 p3 : Nat} {dn st sw se lw le x0 x1 x2 x3 cy gs nw ne : Int} {qs : Bool} {en vw ve : Int} (h : Obs w W b p0 p1 p2 p3 dn st sw se lw le x0 x1 x2 x3 cy gs nw ne qs en vw ve) : Obs w W.drew b p0 p1 p2 p3 dn st sw se lw le x0 x1 x2 x3 cy gs nw ne qs en vw ve := ⟨h.hb, h.hs, h.ht, h.hr, h.hq, h.ord, h.bel.drew, h.sz⟩

set_option maxRecDepth 100000 in
set_option maxHeartbeats 4000000 in
theorem observe_start (b : Nat) (dn st sw se lw le x0 x1 x2 x3 cy gs nw ne : Int) (w : World) (hC : Cyc w b dn st sw se lw le) (heq : cy = dn) (hst : gs ≠ st) (hz : (sw == 0 && se == 0) = true) :
    Calls Try.prog 21 #[.pointer (some ⟨b, 0, none⟩), .agg #[.int .u64 x0, .int .u64 x1, .int .u64 x2, .int .u64 x3, .int .u64 cy, .int .u64 gs], .agg #[.int .u64 nw, .int .i64 ne, .pointer none]] w fun e w' => e = .returned (.agg #[.bool true, .int .u64 0, .int .u64 lw, .int .i64 le, .pointer none]) ∧ Cyc w' b dn st lw le nw ne ∧ Tch b w w' := by
  have gne : (cy != dn) = false := by simp [heq]
  clear heq
  have gst : (gs != st) = true := by simp [hst]
  clear hst
  have hO := obs_start b dn st sw se lw le x0 x1 x2 x3 cy gs nw ne w hC
  clear hC
  go_enter Try.func21, Try.ntmps21
  go_upto_region 2 with fail
  generalize ((((w.alloc (.cells #[.int .u64 x0, .int .u64 x1, .int .u64 x2, .int .u64 x3, .int .u64 cy, .int .u64 gs] 34)).alloc (.cells #[.int .u64 nw, .int .i64 ne, .pointer none] 44)).alloc (.cells #[.bool false, .int .u64 0, .int .u64 0, .int .i64 0, .pointer none] 49)).alloc (.cells #[.bool false, .int .u64 0, .int .u64 0, .int .i64 0, .pointer none] 49)) = W at hO ⊢
  generalize w.heap.size + 1 + 1 + 1 = p3 at hO ⊢
  generalize w.heap.size + 1 + 1 = p2 at hO ⊢
  generalize w.heap.size + 1 = p1 at hO ⊢
  generalize w.heap.size = p0 at hO ⊢
  obtain ⟨o1, o2, o3, o4⟩ := hO.ord
  have d1 : b ≠ p3 := by omega
  have d2 : b ≠ p2 := by omega
  have d3 : b ≠ p1 := by omega
  have d4 : b ≠ p0 := by omega
  have d5 : p3 ≠ b := by omega
  have d6 : p3 ≠ p2 := by omega
  have d7 : p3 ≠ p1 := by omega
  have d8 : p3 ≠ p0 := by omega
  have d9 : p2 ≠ p3 := by omega
  have c0 : W.cell? ⟨b, 0, none⟩ = some (.int .u64 dn) := blk_cell hO.hb 0
  have f0 : W.frozen? ⟨b, 0, none⟩ = false := blk_free hO.hb 0
  have c1 : W.cell? ⟨b, 1, none⟩ = some (.int .u64 st) := blk_cell hO.hb 1
  have f1 : W.frozen? ⟨b, 1, none⟩ = false := blk_free hO.hb 1
  have c2 : W.cell? ⟨b, 2, none⟩ = some (.int .u64 sw) := blk_cell hO.hb 2
  have f2 : W.frozen? ⟨b, 2, none⟩ = false := blk_free hO.hb 2
  have c3 : W.cell? ⟨b, 3, none⟩ = some (.int .i64 se) := blk_cell hO.hb 3
  have f3 : W.frozen? ⟨b, 3, none⟩ = false := blk_free hO.hb 3
  have c4 : W.cell? ⟨b, 4, none⟩ = some (.pointer none) := blk_cell hO.hb 4
  have f4 : W.frozen? ⟨b, 4, none⟩ = false := blk_free hO.hb 4
  have c5 : W.cell? ⟨b, 5, none⟩ = some (.int .u64 lw) := blk_cell hO.hb 5
  have f5 : W.frozen? ⟨b, 5, none⟩ = false := blk_free hO.hb 5
  have c6 : W.cell? ⟨b, 6, none⟩ = some (.int .i64 le) := blk_cell hO.hb 6
  have f6 : W.frozen? ⟨b, 6, none⟩ = false := blk_free hO.hb 6
  have c7 : W.cell? ⟨b, 7, none⟩ = some (.pointer none) := blk_cell hO.hb 7
  have f7 : W.frozen? ⟨b, 7, none⟩ = false := blk_free hO.hb 7
  have s4 : W.cell? ⟨p0, 4, none⟩ = some (.int .u64 cy) := blk_cell hO.hs 4
  have s5 : W.cell? ⟨p0, 5, none⟩ = some (.int .u64 gs) := blk_cell hO.hs 5
  have t0 : W.cell? ⟨p1, 0, none⟩ = some (.int .u64 nw) := blk_cell hO.ht 0
  have t1 : W.cell? ⟨p1, 1, none⟩ = some (.int .i64 ne) := blk_cell hO.ht 1
  have t2 : W.cell? ⟨p1, 2, none⟩ = some (.pointer none) := blk_cell hO.ht 2
  have r0 : W.cell? ⟨p2, 0, none⟩ = some (.bool false) := blk_cell hO.hr 0
  have e0 : W.frozen? ⟨p2, 0, none⟩ = false := blk_free hO.hr 0
  have r1 : W.cell? ⟨p2, 1, none⟩ = some (.int .u64 0) := blk_cell hO.hr 1
  have e1 : W.frozen? ⟨p2, 1, none⟩ = false := blk_free hO.hr 1
  have r2 : W.cell? ⟨p2, 2, none⟩ = some (.int .u64 0) := blk_cell hO.hr 2
  have e2 : W.frozen? ⟨p2, 2, none⟩ = false := blk_free hO.hr 2
  have r3 : W.cell? ⟨p2, 3, none⟩ = some (.int .i64 0) := blk_cell hO.hr 3
  have e3 : W.frozen? ⟨p2, 3, none⟩ = false := blk_free hO.hr 3
  have r4 : W.cell? ⟨p2, 4, none⟩ = some (.pointer none) := blk_cell hO.hr 4
  have e4 : W.frozen? ⟨p2, 4, none⟩ = false := blk_free hO.hr 4
  have q0 : W.cell? ⟨p3, 0, none⟩ = some (.bool false) := blk_cell hO.hq 0
  have g0 : W.frozen? ⟨p3, 0, none⟩ = false := blk_free hO.hq 0
  have q1 : W.cell? ⟨p3, 1, none⟩ = some (.int .u64 0) := blk_cell hO.hq 1
  have g1 : W.frozen? ⟨p3, 1, none⟩ = false := blk_free hO.hq 1
  have q2 : W.cell? ⟨p3, 2, none⟩ = some (.int .u64 0) := blk_cell hO.hq 2
  have g2 : W.frozen? ⟨p3, 2, none⟩ = false := blk_free hO.hq 2
  have q3 : W.cell? ⟨p3, 3, none⟩ = some (.int .i64 0) := blk_cell hO.hq 3
  have g3 : W.frozen? ⟨p3, 3, none⟩ = false := blk_free hO.hq 3
  have q4 : W.cell? ⟨p3, 4, none⟩ = some (.pointer none) := blk_cell hO.hq 4
  have g4 : W.frozen? ⟨p3, 4, none⟩ = false := blk_free hO.hq 4
  go_quiet (fail)
  go_wp2_with fail
  go_region_held3 (fun w' => ObsS w w' b p0 p1 p2 p3 dn st sw se lw le x0 x1 x2 x3 cy gs nw ne) (first | exact obsS_of (hO.draws _) | exact obsS_of (hO.draws _).drew | exact obsS_of (Obs.below (And.left (by assumption)) (by assumption))) (first | (go_at_call 23; refine (isZero_at sw se _).mono ?_; rintro e w1 ⟨rfl, hb1⟩))
  have hS : ObsS w w1 b p0 p1 p2 p3 dn st sw se lw le x0 x1 x2 x3 cy gs nw ne := by assumption
  have hO1 := hS.1
  clear c0 c1 c2 c3 c4 c5 c6 c7 f0 f1 f2 f3 f4 f5 f6 f7 s4 s5 t0 t1 t2 r0 r1 r2 r3 r4 e0 e1 e2 e3 e4 q0 q1 q2 q3 q4 g0 g1 g2 g3 g4
  clear hO hb1
  have c0 : w1.cell? ⟨b, 0, none⟩ = some (.int .u64 dn) := blk_cell hO1.hb 0
  have f0 : w1.frozen? ⟨b, 0, none⟩ = false := blk_free hO1.hb 0
  have c1 : w1.cell? ⟨b, 1, none⟩ = some (.int .u64 st) := blk_cell hO1.hb 1
  have f1 : w1.frozen? ⟨b, 1, none⟩ = false := blk_free hO1.hb 1
  have c2 : w1.cell? ⟨b, 2, none⟩ = some (.int .u64 sw) := blk_cell hO1.hb 2
  have f2 : w1.frozen? ⟨b, 2, none⟩ = false := blk_free hO1.hb 2
  have c3 : w1.cell? ⟨b, 3, none⟩ = some (.int .i64 se) := blk_cell hO1.hb 3
  have f3 : w1.frozen? ⟨b, 3, none⟩ = false := blk_free hO1.hb 3
  have c4 : w1.cell? ⟨b, 4, none⟩ = some (.pointer none) := blk_cell hO1.hb 4
  have f4 : w1.frozen? ⟨b, 4, none⟩ = false := blk_free hO1.hb 4
  have c5 : w1.cell? ⟨b, 5, none⟩ = some (.int .u64 lw) := blk_cell hO1.hb 5
  have f5 : w1.frozen? ⟨b, 5, none⟩ = false := blk_free hO1.hb 5
  have c6 : w1.cell? ⟨b, 6, none⟩ = some (.int .i64 le) := blk_cell hO1.hb 6
  have f6 : w1.frozen? ⟨b, 6, none⟩ = false := blk_free hO1.hb 6
  have c7 : w1.cell? ⟨b, 7, none⟩ = some (.pointer none) := blk_cell hO1.hb 7
  have f7 : w1.frozen? ⟨b, 7, none⟩ = false := blk_free hO1.hb 7
  have s4 : w1.cell? ⟨p0, 4, none⟩ = some (.int .u64 cy) := blk_cell hO1.hs 4
  have s5 : w1.cell? ⟨p0, 5, none⟩ = some (.int .u64 gs) := blk_cell hO1.hs 5
  have t0 : w1.cell? ⟨p1, 0, none⟩ = some (.int .u64 nw) := blk_cell hO1.ht 0
  have t1 : w1.cell? ⟨p1, 1, none⟩ = some (.int .i64 ne) := blk_cell hO1.ht 1
  have t2 : w1.cell? ⟨p1, 2, none⟩ = some (.pointer none) := blk_cell hO1.ht 2
  have r0 : w1.cell? ⟨p2, 0, none⟩ = some (.bool false) := blk_cell hO1.hr 0
  have e0 : w1.frozen? ⟨p2, 0, none⟩ = false := blk_free hO1.hr 0
  have r1 : w1.cell? ⟨p2, 1, none⟩ = some (.int .u64 0) := blk_cell hO1.hr 1
  have e1 : w1.frozen? ⟨p2, 1, none⟩ = false := blk_free hO1.hr 1
  have r2 : w1.cell? ⟨p2, 2, none⟩ = some (.int .u64 0) := blk_cell hO1.hr 2
  have e2 : w1.frozen? ⟨p2, 2, none⟩ = false := blk_free hO1.hr 2
  have r3 : w1.cell? ⟨p2, 3, none⟩ = some (.int .i64 0) := blk_cell hO1.hr 3
  have e3 : w1.frozen? ⟨p2, 3, none⟩ = false := blk_free hO1.hr 3
  have r4 : w1.cell? ⟨p2, 4, none⟩ = some (.pointer none) := blk_cell hO1.hr 4
  have e4 : w1.frozen? ⟨p2, 4, none⟩ = false := blk_free hO1.hr 4
  have q0 : w1.cell? ⟨p3, 0, none⟩ = some (.bool false) := blk_cell hO1.hq 0
  have g0 : w1.frozen? ⟨p3, 0, none⟩ = false := blk_free hO1.hq 0
  have q1 : w1.cell? ⟨p3, 1, none⟩ = some (.int .u64 0) := blk_cell hO1.hq 1
  have g1 : w1.frozen? ⟨p3, 1, none⟩ = false := blk_free hO1.hq 1
  have q2 : w1.cell? ⟨p3, 2, none⟩ = some (.int .u64 0) := blk_cell hO1.hq 2
  have g2 : w1.frozen? ⟨p3, 2, none⟩ = false := blk_free hO1.hq 2
  have q3 : w1.cell? ⟨p3, 3, none⟩ = some (.int .i64 0) := blk_cell hO1.hq 3
  have g3 : w1.frozen? ⟨p3, 3, none⟩ = false := blk_free hO1.hq 3
  have q4 : w1.cell? ⟨p3, 4, none⟩ = some (.pointer none) := blk_cell hO1.hq 4
  have g4 : w1.frozen? ⟨p3, 4, none⟩ = false := blk_free hO1.hq 4
  go_wp2_with fail
  have hV := ((((((((((hO1.q0 true).q2 lw).q3 le).q4).c2 lw).c3 le).c4).c5 nw).c6 ne).c7)
  exact bodyPost_ret (v := .agg #[.bool true, .int .u64 0, .int .u64 lw, .int .i64 le, .pointer none]) (ret_run (ret_blk hV.hr _ _ _ _ _) rfl) rfl ⟨rfl, ret_cyc hV.hb d2 _ _ _ _ _, ret_bel hV.bel hV.sz (by omega) (by omega) _ _ _ _ _⟩

set_option maxRecDepth 100000 in
set_option maxHeartbeats 4000000 in
theorem observe_on (b : Nat) (dn st sw se lw le x0 x1 x2 x3 cy gs nw ne : Int) (w : World) (hC : Cyc w b dn st sw se lw le) (heq : cy = dn) (hst : gs ≠ st) (hz : (sw == 0 && se == 0) = false) :
    Calls Try.prog 21 #[.pointer (some ⟨b, 0, none⟩), .agg #[.int .u64 x0, .int .u64 x1, .int .u64 x2, .int .u64 x3, .int .u64 cy, .int .u64 gs], .agg #[.int .u64 nw, .int .i64 ne, .pointer none]] w fun e w' => e = .returned (.agg #[.bool false, .int .u64 0, .int .u64 0, .int .i64 0, .pointer none]) ∧ Cyc w' b dn st sw se nw ne ∧ Tch b w w' := by
  have gne : (cy != dn) = false := by simp [heq]
  clear heq
  have gst : (gs != st) = true := by simp [hst]
  clear hst
  have hO := obs_start b dn st sw se lw le x0 x1 x2 x3 cy gs nw ne w hC
  clear hC
  go_enter Try.func21, Try.ntmps21
  go_upto_region 2 with fail
  generalize ((((w.alloc (.cells #[.int .u64 x0, .int .u64 x1, .int .u64 x2, .int .u64 x3, .int .u64 cy, .int .u64 gs] 34)).alloc (.cells #[.int .u64 nw, .int .i64 ne, .pointer none] 44)).alloc (.cells #[.bool false, .int .u64 0, .int .u64 0, .int .i64 0, .pointer none] 49)).alloc (.cells #[.bool false, .int .u64 0, .int .u64 0, .int .i64 0, .pointer none] 49)) = W at hO ⊢
  generalize w.heap.size + 1 + 1 + 1 = p3 at hO ⊢
  generalize w.heap.size + 1 + 1 = p2 at hO ⊢
  generalize w.heap.size + 1 = p1 at hO ⊢
  generalize w.heap.size = p0 at hO ⊢
  obtain ⟨o1, o2, o3, o4⟩ := hO.ord
  have d1 : b ≠ p3 := by omega
  have d2 : b ≠ p2 := by omega
  have d3 : b ≠ p1 := by omega
  have d4 : b ≠ p0 := by omega
  have d5 : p3 ≠ b := by omega
  have d6 : p3 ≠ p2 := by omega
  have d7 : p3 ≠ p1 := by omega
  have d8 : p3 ≠ p0 := by omega
  have d9 : p2 ≠ p3 := by omega
  have c0 : W.cell? ⟨b, 0, none⟩ = some (.int .u64 dn) := blk_cell hO.hb 0
  have f0 : W.frozen? ⟨b, 0, none⟩ = false := blk_free hO.hb 0
  have c1 : W.cell? ⟨b, 1, none⟩ = some (.int .u64 st) := blk_cell hO.hb 1
  have f1 : W.frozen? ⟨b, 1, none⟩ = false := blk_free hO.hb 1
  have c2 : W.cell? ⟨b, 2, none⟩ = some (.int .u64 sw) := blk_cell hO.hb 2
  have f2 : W.frozen? ⟨b, 2, none⟩ = false := blk_free hO.hb 2
  have c3 : W.cell? ⟨b, 3, none⟩ = some (.int .i64 se) := blk_cell hO.hb 3
  have f3 : W.frozen? ⟨b, 3, none⟩ = false := blk_free hO.hb 3
  have c4 : W.cell? ⟨b, 4, none⟩ = some (.pointer none) := blk_cell hO.hb 4
  have f4 : W.frozen? ⟨b, 4, none⟩ = false := blk_free hO.hb 4
  have c5 : W.cell? ⟨b, 5, none⟩ = some (.int .u64 lw) := blk_cell hO.hb 5
  have f5 : W.frozen? ⟨b, 5, none⟩ = false := blk_free hO.hb 5
  have c6 : W.cell? ⟨b, 6, none⟩ = some (.int .i64 le) := blk_cell hO.hb 6
  have f6 : W.frozen? ⟨b, 6, none⟩ = false := blk_free hO.hb 6
  have c7 : W.cell? ⟨b, 7, none⟩ = some (.pointer none) := blk_cell hO.hb 7
  have f7 : W.frozen? ⟨b, 7, none⟩ = false := blk_free hO.hb 7
  have s4 : W.cell? ⟨p0, 4, none⟩ = some (.int .u64 cy) := blk_cell hO.hs 4
  have s5 : W.cell? ⟨p0, 5, none⟩ = some (.int .u64 gs) := blk_cell hO.hs 5
  have t0 : W.cell? ⟨p1, 0, none⟩ = some (.int .u64 nw) := blk_cell hO.ht 0
  have t1 : W.cell? ⟨p1, 1, none⟩ = some (.int .i64 ne) := blk_cell hO.ht 1
  have t2 : W.cell? ⟨p1, 2, none⟩ = some (.pointer none) := blk_cell hO.ht 2
  have r0 : W.cell? ⟨p2, 0, none⟩ = some (.bool false) := blk_cell hO.hr 0
  have e0 : W.frozen? ⟨p2, 0, none⟩ = false := blk_free hO.hr 0
  have r1 : W.cell? ⟨p2, 1, none⟩ = some (.int .u64 0) := blk_cell hO.hr 1
  have e1 : W.frozen? ⟨p2, 1, none⟩ = false := blk_free hO.hr 1
  have r2 : W.cell? ⟨p2, 2, none⟩ = some (.int .u64 0) := blk_cell hO.hr 2
  have e2 : W.frozen? ⟨p2, 2, none⟩ = false := blk_free hO.hr 2
  have r3 : W.cell? ⟨p2, 3, none⟩ = some (.int .i64 0) := blk_cell hO.hr 3
  have e3 : W.frozen? ⟨p2, 3, none⟩ = false := blk_free hO.hr 3
  have r4 : W.cell? ⟨p2, 4, none⟩ = some (.pointer none) := blk_cell hO.hr 4
  have e4 : W.frozen? ⟨p2, 4, none⟩ = false := blk_free hO.hr 4
  have q0 : W.cell? ⟨p3, 0, none⟩ = some (.bool false) := blk_cell hO.hq 0
  have g0 : W.frozen? ⟨p3, 0, none⟩ = false := blk_free hO.hq 0
  have q1 : W.cell? ⟨p3, 1, none⟩ = some (.int .u64 0) := blk_cell hO.hq 1
  have g1 : W.frozen? ⟨p3, 1, none⟩ = false := blk_free hO.hq 1
  have q2 : W.cell? ⟨p3, 2, none⟩ = some (.int .u64 0) := blk_cell hO.hq 2
  have g2 : W.frozen? ⟨p3, 2, none⟩ = false := blk_free hO.hq 2
  have q3 : W.cell? ⟨p3, 3, none⟩ = some (.int .i64 0) := blk_cell hO.hq 3
  have g3 : W.frozen? ⟨p3, 3, none⟩ = false := blk_free hO.hq 3
  have q4 : W.cell? ⟨p3, 4, none⟩ = some (.pointer none) := blk_cell hO.hq 4
  have g4 : W.frozen? ⟨p3, 4, none⟩ = false := blk_free hO.hq 4
  go_quiet (fail)
  go_wp2_with fail
  go_region_held3 (fun w' => ObsS w w' b p0 p1 p2 p3 dn st sw se lw le x0 x1 x2 x3 cy gs nw ne) (first | exact obsS_of (hO.draws _) | exact obsS_of (hO.draws _).drew | exact obsS_of (Obs.below (And.left (by assumption)) (by assumption))) (first | (go_at_call 23; refine (isZero_at sw se _).mono ?_; rintro e w1 ⟨rfl, hb1⟩))
  have hS : ObsS w w1 b p0 p1 p2 p3 dn st sw se lw le x0 x1 x2 x3 cy gs nw ne := by assumption
  have hO1 := hS.1
  clear c0 c1 c2 c3 c4 c5 c6 c7 f0 f1 f2 f3 f4 f5 f6 f7 s4 s5 t0 t1 t2 r0 r1 r2 r3 r4 e0 e1 e2 e3 e4 q0 q1 q2 q3 q4 g0 g1 g2 g3 g4
  clear hO hb1
  have c0 : w1.cell? ⟨b, 0, none⟩ = some (.int .u64 dn) := blk_cell hO1.hb 0
  have f0 : w1.frozen? ⟨b, 0, none⟩ = false := blk_free hO1.hb 0
  have c1 : w1.cell? ⟨b, 1, none⟩ = some (.int .u64 st) := blk_cell hO1.hb 1
  have f1 : w1.frozen? ⟨b, 1, none⟩ = false := blk_free hO1.hb 1
  have c2 : w1.cell? ⟨b, 2, none⟩ = some (.int .u64 sw) := blk_cell hO1.hb 2
  have f2 : w1.frozen? ⟨b, 2, none⟩ = false := blk_free hO1.hb 2
  have c3 : w1.cell? ⟨b, 3, none⟩ = some (.int .i64 se) := blk_cell hO1.hb 3
  have f3 : w1.frozen? ⟨b, 3, none⟩ = false := blk_free hO1.hb 3
  have c4 : w1.cell? ⟨b, 4, none⟩ = some (.pointer none) := blk_cell hO1.hb 4
  have f4 : w1.frozen? ⟨b, 4, none⟩ = false := blk_free hO1.hb 4
  have c5 : w1.cell? ⟨b, 5, none⟩ = some (.int .u64 lw) := blk_cell hO1.hb 5
  have f5 : w1.frozen? ⟨b, 5, none⟩ = false := blk_free hO1.hb 5
  have c6 : w1.cell? ⟨b, 6, none⟩ = some (.int .i64 le) := blk_cell hO1.hb 6
  have f6 : w1.frozen? ⟨b, 6, none⟩ = false := blk_free hO1.hb 6
  have c7 : w1.cell? ⟨b, 7, none⟩ = some (.pointer none) := blk_cell hO1.hb 7
  have f7 : w1.frozen? ⟨b, 7, none⟩ = false := blk_free hO1.hb 7
  have s4 : w1.cell? ⟨p0, 4, none⟩ = some (.int .u64 cy) := blk_cell hO1.hs 4
  have s5 : w1.cell? ⟨p0, 5, none⟩ = some (.int .u64 gs) := blk_cell hO1.hs 5
  have t0 : w1.cell? ⟨p1, 0, none⟩ = some (.int .u64 nw) := blk_cell hO1.ht 0
  have t1 : w1.cell? ⟨p1, 1, none⟩ = some (.int .i64 ne) := blk_cell hO1.ht 1
  have t2 : w1.cell? ⟨p1, 2, none⟩ = some (.pointer none) := blk_cell hO1.ht 2
  have r0 : w1.cell? ⟨p2, 0, none⟩ = some (.bool false) := blk_cell hO1.hr 0
  have e0 : w1.frozen? ⟨p2, 0, none⟩ = false := blk_free hO1.hr 0
  have r1 : w1.cell? ⟨p2, 1, none⟩ = some (.int .u64 0) := blk_cell hO1.hr 1
  have e1 : w1.frozen? ⟨p2, 1, none⟩ = false := blk_free hO1.hr 1
  have r2 : w1.cell? ⟨p2, 2, none⟩ = some (.int .u64 0) := blk_cell hO1.hr 2
  have e2 : w1.frozen? ⟨p2, 2, none⟩ = false := blk_free hO1.hr 2
  have r3 : w1.cell? ⟨p2, 3, none⟩ = some (.int .i64 0) := blk_cell hO1.hr 3
  have e3 : w1.frozen? ⟨p2, 3, none⟩ = false := blk_free hO1.hr 3
  have r4 : w1.cell? ⟨p2, 4, none⟩ = some (.pointer none) := blk_cell hO1.hr 4
  have e4 : w1.frozen? ⟨p2, 4, none⟩ = false := blk_free hO1.hr 4
  have q0 : w1.cell? ⟨p3, 0, none⟩ = some (.bool false) := blk_cell hO1.hq 0
  have g0 : w1.frozen? ⟨p3, 0, none⟩ = false := blk_free hO1.hq 0
  have q1 : w1.cell? ⟨p3, 1, none⟩ = some (.int .u64 0) := blk_cell hO1.hq 1
  have g1 : w1.frozen? ⟨p3, 1, none⟩ = false := blk_free hO1.hq 1
  have q2 : w1.cell? ⟨p3, 2, none⟩ = some (.int .u64 0) := blk_cell hO1.hq 2
  have g2 : w1.frozen? ⟨p3, 2, none⟩ = false := blk_free hO1.hq 2
  have q3 : w1.cell? ⟨p3, 3, none⟩ = some (.int .i64 0) := blk_cell hO1.hq 3
  have g3 : w1.frozen? ⟨p3, 3, none⟩ = false := blk_free hO1.hq 3
  have q4 : w1.cell? ⟨p3, 4, none⟩ = some (.pointer none) := blk_cell hO1.hq 4
  have g4 : w1.frozen? ⟨p3, 4, none⟩ = false := blk_free hO1.hq 4
  go_wp2_with fail
  have hV := ((hO1.c5 nw).c6 ne).c7
  exact bodyPost_ret (v := .agg #[.bool false, .int .u64 0, .int .u64 0, .int .i64 0, .pointer none]) (ret_run (ret_blk hV.hr _ _ _ _ _) rfl) rfl ⟨rfl, ret_cyc hV.hb d2 _ _ _ _ _, ret_bel hV.bel hV.sz (by omega) (by omega) _ _ _ _ _⟩

set_option maxRecDepth 100000 in
set_option maxHeartbeats 4000000 in
theorem observe_still (b : Nat) (dn st sw se lw le x0 x1 x2 x3 cy gs nw ne : Int) (w : World) (hC : Cyc w b dn st sw se lw le) (heq : cy = dn) (hst : gs = st) :
    Calls Try.prog 21 #[.pointer (some ⟨b, 0, none⟩), .agg #[.int .u64 x0, .int .u64 x1, .int .u64 x2, .int .u64 x3, .int .u64 cy, .int .u64 gs], .agg #[.int .u64 nw, .int .i64 ne, .pointer none]] w fun e w' => e = .returned (.agg #[.bool false, .int .u64 0, .int .u64 0, .int .i64 0, .pointer none]) ∧ Cyc w' b dn st sw se nw ne ∧ Tch b w w' := by
  have gne : (cy != dn) = false := by simp [heq]
  clear heq
  have gst : (gs != st) = false := by simp [hst]
  clear hst
  have hO := obs_start b dn st sw se lw le x0 x1 x2 x3 cy gs nw ne w hC
  clear hC
  go_enter Try.func21, Try.ntmps21
  go_upto_region 2 with fail
  generalize ((((w.alloc (.cells #[.int .u64 x0, .int .u64 x1, .int .u64 x2, .int .u64 x3, .int .u64 cy, .int .u64 gs] 34)).alloc (.cells #[.int .u64 nw, .int .i64 ne, .pointer none] 44)).alloc (.cells #[.bool false, .int .u64 0, .int .u64 0, .int .i64 0, .pointer none] 49)).alloc (.cells #[.bool false, .int .u64 0, .int .u64 0, .int .i64 0, .pointer none] 49)) = W at hO ⊢
  generalize w.heap.size + 1 + 1 + 1 = p3 at hO ⊢
  generalize w.heap.size + 1 + 1 = p2 at hO ⊢
  generalize w.heap.size + 1 = p1 at hO ⊢
  generalize w.heap.size = p0 at hO ⊢
  obtain ⟨o1, o2, o3, o4⟩ := hO.ord
  have d1 : b ≠ p3 := by omega
  have d2 : b ≠ p2 := by omega
  have d3 : b ≠ p1 := by omega
  have d4 : b ≠ p0 := by omega
  have d5 : p3 ≠ b := by omega
  have d6 : p3 ≠ p2 := by omega
  have d7 : p3 ≠ p1 := by omega
  have d8 : p3 ≠ p0 := by omega
  have d9 : p2 ≠ p3 := by omega
  have c0 : W.cell? ⟨b, 0, none⟩ = some (.int .u64 dn) := blk_cell hO.hb 0
  have f0 : W.frozen? ⟨b, 0, none⟩ = false := blk_free hO.hb 0
  have c1 : W.cell? ⟨b, 1, none⟩ = some (.int .u64 st) := blk_cell hO.hb 1
  have f1 : W.frozen? ⟨b, 1, none⟩ = false := blk_free hO.hb 1
  have c2 : W.cell? ⟨b, 2, none⟩ = some (.int .u64 sw) := blk_cell hO.hb 2
  have f2 : W.frozen? ⟨b, 2, none⟩ = false := blk_free hO.hb 2
  have c3 : W.cell? ⟨b, 3, none⟩ = some (.int .i64 se) := blk_cell hO.hb 3
  have f3 : W.frozen? ⟨b, 3, none⟩ = false := blk_free hO.hb 3
  have c4 : W.cell? ⟨b, 4, none⟩ = some (.pointer none) := blk_cell hO.hb 4
  have f4 : W.frozen? ⟨b, 4, none⟩ = false := blk_free hO.hb 4
  have c5 : W.cell? ⟨b, 5, none⟩ = some (.int .u64 lw) := blk_cell hO.hb 5
  have f5 : W.frozen? ⟨b, 5, none⟩ = false := blk_free hO.hb 5
  have c6 : W.cell? ⟨b, 6, none⟩ = some (.int .i64 le) := blk_cell hO.hb 6
  have f6 : W.frozen? ⟨b, 6, none⟩ = false := blk_free hO.hb 6
  have c7 : W.cell? ⟨b, 7, none⟩ = some (.pointer none) := blk_cell hO.hb 7
  have f7 : W.frozen? ⟨b, 7, none⟩ = false := blk_free hO.hb 7
  have s4 : W.cell? ⟨p0, 4, none⟩ = some (.int .u64 cy) := blk_cell hO.hs 4
  have s5 : W.cell? ⟨p0, 5, none⟩ = some (.int .u64 gs) := blk_cell hO.hs 5
  have t0 : W.cell? ⟨p1, 0, none⟩ = some (.int .u64 nw) := blk_cell hO.ht 0
  have t1 : W.cell? ⟨p1, 1, none⟩ = some (.int .i64 ne) := blk_cell hO.ht 1
  have t2 : W.cell? ⟨p1, 2, none⟩ = some (.pointer none) := blk_cell hO.ht 2
  have r0 : W.cell? ⟨p2, 0, none⟩ = some (.bool false) := blk_cell hO.hr 0
  have e0 : W.frozen? ⟨p2, 0, none⟩ = false := blk_free hO.hr 0
  have r1 : W.cell? ⟨p2, 1, none⟩ = some (.int .u64 0) := blk_cell hO.hr 1
  have e1 : W.frozen? ⟨p2, 1, none⟩ = false := blk_free hO.hr 1
  have r2 : W.cell? ⟨p2, 2, none⟩ = some (.int .u64 0) := blk_cell hO.hr 2
  have e2 : W.frozen? ⟨p2, 2, none⟩ = false := blk_free hO.hr 2
  have r3 : W.cell? ⟨p2, 3, none⟩ = some (.int .i64 0) := blk_cell hO.hr 3
  have e3 : W.frozen? ⟨p2, 3, none⟩ = false := blk_free hO.hr 3
  have r4 : W.cell? ⟨p2, 4, none⟩ = some (.pointer none) := blk_cell hO.hr 4
  have e4 : W.frozen? ⟨p2, 4, none⟩ = false := blk_free hO.hr 4
  have q0 : W.cell? ⟨p3, 0, none⟩ = some (.bool false) := blk_cell hO.hq 0
  have g0 : W.frozen? ⟨p3, 0, none⟩ = false := blk_free hO.hq 0
  have q1 : W.cell? ⟨p3, 1, none⟩ = some (.int .u64 0) := blk_cell hO.hq 1
  have g1 : W.frozen? ⟨p3, 1, none⟩ = false := blk_free hO.hq 1
  have q2 : W.cell? ⟨p3, 2, none⟩ = some (.int .u64 0) := blk_cell hO.hq 2
  have g2 : W.frozen? ⟨p3, 2, none⟩ = false := blk_free hO.hq 2
  have q3 : W.cell? ⟨p3, 3, none⟩ = some (.int .i64 0) := blk_cell hO.hq 3
  have g3 : W.frozen? ⟨p3, 3, none⟩ = false := blk_free hO.hq 3
  have q4 : W.cell? ⟨p3, 4, none⟩ = some (.pointer none) := blk_cell hO.hq 4
  have g4 : W.frozen? ⟨p3, 4, none⟩ = false := blk_free hO.hq 4
  go_quiet (fail)
  go_wp2_with fail
  go_quiet (fail)
  go_wp2_with fail
  rename_i n2
  have hV := (((hO.draws (n2 + nq)).c5 nw).c6 ne).c7
  exact bodyPost_ret (v := .agg #[.bool false, .int .u64 0, .int .u64 0, .int .i64 0, .pointer none]) (ret_run (ret_blk hV.hr _ _ _ _ _) rfl) rfl ⟨rfl, ret_cyc hV.hb d2 _ _ _ _ _, ret_bel hV.bel hV.sz (by omega) (by omega) _ _ _ _ _⟩

end Go.Proofs.Qxb6001754a
