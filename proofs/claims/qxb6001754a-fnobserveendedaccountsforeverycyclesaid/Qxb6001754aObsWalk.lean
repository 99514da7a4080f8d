/-
  Observe.
-/
import Derived.Test.Qxb6001754aObserve
import Derived.Deep.CutBlock
namespace Go.Proofs.Qxb6001754a
open Go.RowKit

/-- The result laid out leaves the tracker and what lies below it. -/
theorem ret_cyc {V : World} {b p2 : Nat} {dn st sw se lw le : Int} (h : Cyc V b dn st sw se lw le) (hne : b ≠ p2) (v0 v1 v2 v3 v4 : Value) :
    Cyc (((((V.setCell ⟨p2, 0, none⟩ v0).setCell ⟨p2, 1, none⟩ v1).setCell ⟨p2, 2, none⟩ v2).setCell ⟨p2, 3, none⟩ v3).setCell ⟨p2, 4, none⟩ v4) b dn st sw se lw le :=
  blk_far (blk_far (blk_far (blk_far (blk_far h hne _ _) hne _ _) hne _ _) hne _ _) hne _ _
theorem ret_bel {V w : World} {b p0 p2 : Nat} (h : Tch b w V) (hs : w.heap.size ≤ p0) (hle : b ≤ p2) (hp : p0 ≤ p2) (v0 v1 v2 v3 v4 : Value) :
    Tch b w (((((V.setCell ⟨p2, 0, none⟩ v0).setCell ⟨p2, 1, none⟩ v1).setCell ⟨p2, 2, none⟩ v2).setCell ⟨p2, 3, none⟩ v3).setCell ⟨p2, 4, none⟩ v4) :=
  have hq := Nat.le_trans hs hp
  ((((h.setN hle hq _ _).setN hle hq _ _).setN hle hq _ _).setN hle hq _ _).setN hle hq _ _

theorem Cyc.drew {V : World} {b : Nat} {dn st sw se lw le : Int} (h : Cyc V b dn st sw se lw le) : Cyc V.drew b dn st sw se lw le := h
theorem Cyc.draws {V : World} {b : Nat} {dn st sw se lw le : Int} (h : Cyc V b dn st sw se lw le) (m : Nat) : Cyc (V.drewN m) b dn st sw se lw le := h
theorem blk_drew {w : World} {g : Nat} {o : Option Obj} (h : w.heap[g]? = o) : w.drew.heap[g]? = o := h
theorem blk_draws {w : World} {g : Nat} {o : Option Obj} (h : w.heap[g]? = o) (m : Nat) : (w.drewN m).heap[g]? = o := h
theorem Below.draws {b : Nat} {w V : World} (h : Below b w V) (m : Nat) : Below b w (V.drewN m) := h.trans ⟨rfl, rfl, rfl, Nat.le_refl _, fun _ _ => rfl⟩
theorem ret_blk {V : World} {p2 : Nat} {a0 a1 a2 a3 a4 : Value} (h : V.heap[p2]? = some (.cells #[a0, a1, a2, a3, a4] 49 (0, 0))) (v0 v1 v2 v3 v4 : Value) :
    (((((V.setCell ⟨p2, 0, none⟩ v0).setCell ⟨p2, 1, none⟩ v1).setCell ⟨p2, 2, none⟩ v2).setCell ⟨p2, 3, none⟩ v3).setCell ⟨p2, 4, none⟩ v4).heap[p2]? = some (.cells #[v0, v1, v2, v3, v4] 49 (0, 0)) :=
  blk_set (blk_set (blk_set (blk_set (blk_set h 0 _) 1 _) 2 _) 3 _) 4 _
theorem ret_run {V : World} {p2 : Nat} {v0 : Bool} {v1 v2 v3 : Int} (h : V.heap[p2]? = some (.cells #[.bool v0, .int .u64 v1, .int .u64 v2, .int .i64 v3, .pointer none] 49 (0, 0))) {tmps : Array Value} (ht : tmps[6]?.getD undef = .pointer (some ⟨p2, 0, none⟩)) :
    (results Try.f21 tmps).run Try.prog V = .ok (.agg #[.bool v0, .int .u64 v1, .int .u64 v2, .int .i64 v3, .pointer none]) V := by
  have c0 := blk_cell h 0
  have c1 := blk_cell h 1
  have c2 := blk_cell h 2
  have c3 := blk_cell h 3
  have c4 := blk_cell h 4
  simp [results, Try.results21, go_sem, ht, c0, c1, c2, c3, c4]

set_option maxRecDepth 100000 in
set_option maxHeartbeats 4000000 in
theorem observe_end (b : Nat) (dn st sw se lw le x0 x1 x2 x3 cy gs nw ne : Int) (w : World) (hC : Cyc w b dn st sw se lw le) (hne : cy ≠ dn) (v0 : 0 ≤ sw ∧ sw < 1000000000) (v1 : 0 ≤ lw ∧ lw < 1000000000) :
    Calls Try.prog 21 #[.pointer (some ⟨b, 0, none⟩), .agg #[.int .u64 x0, .int .u64 x1, .int .u64 x2, .int .u64 x3, .int .u64 cy, .int .u64 gs], .agg #[.int .u64 nw, .int .i64 ne, .pointer none]] w fun e w' =>
      ∃ vw ve, e = .returned (.agg #[.bool false, .int .u64 (IntKind.u64.wrap (cy - dn)), .int .u64 vw, .int .i64 ve, .pointer none]) ∧ (0 ≤ vw ∧ vw < 1000000000) ∧ Cyc w' b cy gs 0 0 nw ne ∧ Tch b w w' := by
  have gne : (cy != dn) = true := by simp [hne]
  clear hne
  have hO := obs_start b dn st sw se lw le x0 x1 x2 x3 cy gs nw ne w hC
  clear hC
  go_enter Try.func21, Try.ntmps21
  go_upto_region 2 with fail
  generalize ((((w.alloc (.cells #[.int .u64 x0, .int .u64 x1, .int .u64 x2, .int .u64 x3, .int .u64 cy, .int .u64 gs] 34)).alloc (.cells #[.int .u64 nw, .int .i64 ne, .pointer none] 44)).alloc (.cells #[.bool false, .int .u64 0, .int .u64 0, .int .i64 0, .pointer none] 49)).alloc (.cells #[.bool false, .int .u64 0, .int .u64 0, .int .i64 0, .pointer none] 49)) = W at hO ⊢
  generalize w.heap.size + 1 + 1 + 1 = p3 at hO ⊢
  generalize w.heap.size + 1 + 1 = p2 at hO ⊢
  generalize w.heap.size + 1 = p1 at hO ⊢
  generalize w.heap.size = p0 at hO ⊢
  obtain ⟨o1, o2, o3, o4⟩ := hO.ord
  have d1 : b ≠ p3 := by omega
  have d2 : b ≠ p2 := by omega
  have d3 : b ≠ p1 := by omega
  have d4 : b ≠ p0 := by omega
  have d5 : p3 ≠ b := by omega
  have d6 : p3 ≠ p2 := by omega
  have d7 : p3 ≠ p1 := by omega
  have d8 : p3 ≠ p0 := by omega
  have d9 : p2 ≠ p3 := by omega
  have c0 : W.cell? ⟨b, 0, none⟩ = some (.int .u64 dn) := blk_cell hO.hb 0
  have f0 : W.frozen? ⟨b, 0, none⟩ = false := blk_free hO.hb 0
  have c1 : W.cell? ⟨b, 1, none⟩ = some (.int .u64 st) := blk_cell hO.hb 1
  have f1 : W.frozen? ⟨b, 1, none⟩ = false := blk_free hO.hb 1
  have c2 : W.cell? ⟨b, 2, none⟩ = some (.int .u64 sw) := blk_cell hO.hb 2
  have f2 : W.frozen? ⟨b, 2, none⟩ = false := blk_free hO.hb 2
  have c3 : W.cell? ⟨b, 3, none⟩ = some (.int .i64 se) := blk_cell hO.hb 3
  have f3 : W.frozen? ⟨b, 3, none⟩ = false := blk_free hO.hb 3
  have c4 : W.cell? ⟨b, 4, none⟩ = some (.pointer none) := blk_cell hO.hb 4
  have f4 : W.frozen? ⟨b, 4, none⟩ = false := blk_free hO.hb 4
  have c5 : W.cell? ⟨b, 5, none⟩ = some (.int .u64 lw) := blk_cell hO.hb 5
  have f5 : W.frozen? ⟨b, 5, none⟩ = false := blk_free hO.hb 5
  have c6 : W.cell? ⟨b, 6, none⟩ = some (.int .i64 le) := blk_cell hO.hb 6
  have f6 : W.frozen? ⟨b, 6, none⟩ = false := blk_free hO.hb 6
  have c7 : W.cell? ⟨b, 7, none⟩ = some (.pointer none) := blk_cell hO.hb 7
  have f7 : W.frozen? ⟨b, 7, none⟩ = false := blk_free hO.hb 7
  have s4 : W.cell? ⟨p0, 4, none⟩ = some (.int .u64 cy) := blk_cell hO.hs 4
  have s5 : W.cell? ⟨p0, 5, none⟩ = some (.int .u64 gs) := blk_cell hO.hs 5
  have t0 : W.cell? ⟨p1, 0, none⟩ = some (.int .u64 nw) := blk_cell hO.ht 0
  have t1 : W.cell? ⟨p1, 1, none⟩ = some (.int .i64 ne) := blk_cell hO.ht 1
  have t2 : W.cell? ⟨p1, 2, none⟩ = some (.pointer none) := blk_cell hO.ht 2
  have r0 : W.cell? ⟨p2, 0, none⟩ = some (.bool false) := blk_cell hO.hr 0
  have e0 : W.frozen? ⟨p2, 0, none⟩ = false := blk_free hO.hr 0
  have r1 : W.cell? ⟨p2, 1, none⟩ = some (.int .u64 0) := blk_cell hO.hr 1
  have e1 : W.frozen? ⟨p2, 1, none⟩ = false := blk_free hO.hr 1
  have r2 : W.cell? ⟨p2, 2, none⟩ = some (.int .u64 0) := blk_cell hO.hr 2
  have e2 : W.frozen? ⟨p2, 2, none⟩ = false := blk_free hO.hr 2
  have r3 : W.cell? ⟨p2, 3, none⟩ = some (.int .i64 0) := blk_cell hO.hr 3
  have e3 : W.frozen? ⟨p2, 3, none⟩ = false := blk_free hO.hr 3
  have r4 : W.cell? ⟨p2, 4, none⟩ = some (.pointer none) := blk_cell hO.hr 4
  have e4 : W.frozen? ⟨p2, 4, none⟩ = false := blk_free hO.hr 4
  have q0 : W.cell? ⟨p3, 0, none⟩ = some (.bool false) := blk_cell hO.hq 0
  have g0 : W.frozen? ⟨p3, 0, none⟩ = false := blk_free hO.hq 0
  have q1 : W.cell? ⟨p3, 1, none⟩ = some (.int .u64 0) := blk_cell hO.hq 1
  have g1 : W.frozen? ⟨p3, 1, none⟩ = false := blk_free hO.hq 1
  have q2 : W.cell? ⟨p3, 2, none⟩ = some (.int .u64 0) := blk_cell hO.hq 2
  have g2 : W.frozen? ⟨p3, 2, none⟩ = false := blk_free hO.hq 2
  have q3 : W.cell? ⟨p3, 3, none⟩ = some (.int .i64 0) := blk_cell hO.hq 3
  have g3 : W.frozen? ⟨p3, 3, none⟩ = false := blk_free hO.hq 3
  have q4 : W.cell? ⟨p3, 4, none⟩ = some (.pointer none) := blk_cell hO.hq 4
  have g4 : W.frozen? ⟨p3, 4, none⟩ = false := blk_free hO.hq 4
  go_quiet (fail)
  go_wp2_with fail
  go_region_held3 (fun w' => w'.cell? ⟨p0, 4, none⟩ = some (.int .u64 cy) ∧ w'.cell? ⟨b, 0, none⟩ = some (.int .u64 dn)) (first | go_keep | skip) (fail)
  go_wp2_with fail
  refine (isZero_at sw se _).mono ?_
  rintro e w1 ⟨rfl, hb1⟩
  have hO1 := (((((hO.draws _).q1 _).q2 _).q3 _).q4).below hb1
  clear c0 c1 c2 c3 c4 c5 c6 c7 f0 f1 f2 f3 f4 f5 f6 f7 s4 s5 t0 t1 t2 r0 r1 r2 r3 r4 e0 e1 e2 e3 e4 q0 q1 q2 q3 q4 g0 g1 g2 g3 g4
  clear hb1 hO
  generalize (sw == 0 && se == 0) = z
  go_upto_if 30 with fail
  go_cut [30] (fun _ wx => ∃ vw ve : Int, (0 ≤ vw ∧ vw < 1000000000) ∧ Obs w wx b p0 p1 p2 p3 dn st sw se lw le x0 x1 x2 x3 cy gs nw ne false (IntKind.u64.wrap (cy - dn)) vw ve)
  case first =>
    have c0 : w1.cell? ⟨b, 0, none⟩ = some (.int .u64 dn) := blk_cell hO1.hb 0
    have f0 : w1.frozen? ⟨b, 0, none⟩ = false := blk_free hO1.hb 0
    have c1 : w1.cell? ⟨b, 1, none⟩ = some (.int .u64 st) := blk_cell hO1.hb 1
    have f1 : w1.frozen? ⟨b, 1, none⟩ = false := blk_free hO1.hb 1
    have c2 : w1.cell? ⟨b, 2, none⟩ = some (.int .u64 sw) := blk_cell hO1.hb 2
    have f2 : w1.frozen? ⟨b, 2, none⟩ = false := blk_free hO1.hb 2
    have c3 : w1.cell? ⟨b, 3, none⟩ = some (.int .i64 se) := blk_cell hO1.hb 3
    have f3 : w1.frozen? ⟨b, 3, none⟩ = false := blk_free hO1.hb 3
    have c4 : w1.cell? ⟨b, 4, none⟩ = some (.pointer none) := blk_cell hO1.hb 4
    have f4 : w1.frozen? ⟨b, 4, none⟩ = false := blk_free hO1.hb 4
    have c5 : w1.cell? ⟨b, 5, none⟩ = some (.int .u64 lw) := blk_cell hO1.hb 5
    have f5 : w1.frozen? ⟨b, 5, none⟩ = false := blk_free hO1.hb 5
    have c6 : w1.cell? ⟨b, 6, none⟩ = some (.int .i64 le) := blk_cell hO1.hb 6
    have f6 : w1.frozen? ⟨b, 6, none⟩ = false := blk_free hO1.hb 6
    have c7 : w1.cell? ⟨b, 7, none⟩ = some (.pointer none) := blk_cell hO1.hb 7
    have f7 : w1.frozen? ⟨b, 7, none⟩ = false := blk_free hO1.hb 7
    have s4 : w1.cell? ⟨p0, 4, none⟩ = some (.int .u64 cy) := blk_cell hO1.hs 4
    have s5 : w1.cell? ⟨p0, 5, none⟩ = some (.int .u64 gs) := blk_cell hO1.hs 5
    have t0 : w1.cell? ⟨p1, 0, none⟩ = some (.int .u64 nw) := blk_cell hO1.ht 0
    have t1 : w1.cell? ⟨p1, 1, none⟩ = some (.int .i64 ne) := blk_cell hO1.ht 1
    have t2 : w1.cell? ⟨p1, 2, none⟩ = some (.pointer none) := blk_cell hO1.ht 2
    have r0 : w1.cell? ⟨p2, 0, none⟩ = some (.bool false) := blk_cell hO1.hr 0
    have e0 : w1.frozen? ⟨p2, 0, none⟩ = false := blk_free hO1.hr 0
    have r1 : w1.cell? ⟨p2, 1, none⟩ = some (.int .u64 0) := blk_cell hO1.hr 1
    have e1 : w1.frozen? ⟨p2, 1, none⟩ = false := blk_free hO1.hr 1
    have r2 : w1.cell? ⟨p2, 2, none⟩ = some (.int .u64 0) := blk_cell hO1.hr 2
    have e2 : w1.frozen? ⟨p2, 2, none⟩ = false := blk_free hO1.hr 2
    have r3 : w1.cell? ⟨p2, 3, none⟩ = some (.int .i64 0) := blk_cell hO1.hr 3
    have e3 : w1.frozen? ⟨p2, 3, none⟩ = false := blk_free hO1.hr 3
    have r4 : w1.cell? ⟨p2, 4, none⟩ = some (.pointer none) := blk_cell hO1.hr 4
    have e4 : w1.frozen? ⟨p2, 4, none⟩ = false := blk_free hO1.hr 4
    have q0 : w1.cell? ⟨p3, 0, none⟩ = some (.bool false) := blk_cell hO1.hq 0
    have g0 : w1.frozen? ⟨p3, 0, none⟩ = false := blk_free hO1.hq 0
    have q1 : w1.cell? ⟨p3, 1, none⟩ = some (.int .u64 (IntKind.u64.wrap (cy - dn))) := blk_cell hO1.hq 1
    have g1 : w1.frozen? ⟨p3, 1, none⟩ = false := blk_free hO1.hq 1
    have q2 : w1.cell? ⟨p3, 2, none⟩ = some (.int .u64 sw) := blk_cell hO1.hq 2
    have g2 : w1.frozen? ⟨p3, 2, none⟩ = false := blk_free hO1.hq 2
    have q3 : w1.cell? ⟨p3, 3, none⟩ = some (.int .i64 se) := blk_cell hO1.hq 3
    have g3 : w1.frozen? ⟨p3, 3, none⟩ = false := blk_free hO1.hq 3
    have q4 : w1.cell? ⟨p3, 4, none⟩ = some (.pointer none) := blk_cell hO1.hq 4
    have g4 : w1.frozen? ⟨p3, 4, none⟩ = false := blk_free hO1.hq 4
    cases z with
    | true =>
      go_wp2_with fail
      go_meet
      case rel => exact ⟨lw, le, v1, ((hO1.q2 _).q3 _).q4⟩
    | false =>
      go_wp2_with fail
      go_meet
      case rel => exact ⟨sw, se, v0, hO1⟩
  case rest =>
  obtain ⟨vw, ve, hv, hO2⟩ := hcut
  clear hO1
  have c0 : wc.cell? ⟨b, 0, none⟩ = some (.int .u64 dn) := blk_cell hO2.hb 0
  have f0 : wc.frozen? ⟨b, 0, none⟩ = false := blk_free hO2.hb 0
  have c1 : wc.cell? ⟨b, 1, none⟩ = some (.int .u64 st) := blk_cell hO2.hb 1
  have f1 : wc.frozen? ⟨b, 1, none⟩ = false := blk_free hO2.hb 1
  have c2 : wc.cell? ⟨b, 2, none⟩ = some (.int .u64 sw) := blk_cell hO2.hb 2
  have f2 : wc.frozen? ⟨b, 2, none⟩ = false := blk_free hO2.hb 2
  have c3 : wc.cell? ⟨b, 3, none⟩ = some (.int .i64 se) := blk_cell hO2.hb 3
  have f3 : wc.frozen? ⟨b, 3, none⟩ = false := blk_free hO2.hb 3
  have c4 : wc.cell? ⟨b, 4, none⟩ = some (.pointer none) := blk_cell hO2.hb 4
  have f4 : wc.frozen? ⟨b, 4, none⟩ = false := blk_free hO2.hb 4
  have c5 : wc.cell? ⟨b, 5, none⟩ = some (.int .u64 lw) := blk_cell hO2.hb 5
  have f5 : wc.frozen? ⟨b, 5, none⟩ = false := blk_free hO2.hb 5
  have c6 : wc.cell? ⟨b, 6, none⟩ = some (.int .i64 le) := blk_cell hO2.hb 6
  have f6 : wc.frozen? ⟨b, 6, none⟩ = false := blk_free hO2.hb 6
  have c7 : wc.cell? ⟨b, 7, none⟩ = some (.pointer none) := blk_cell hO2.hb 7
  have f7 : wc.frozen? ⟨b, 7, none⟩ = false := blk_free hO2.hb 7
  have s4 : wc.cell? ⟨p0, 4, none⟩ = some (.int .u64 cy) := blk_cell hO2.hs 4
  have s5 : wc.cell? ⟨p0, 5, none⟩ = some (.int .u64 gs) := blk_cell hO2.hs 5
  have t0 : wc.cell? ⟨p1, 0, none⟩ = some (.int .u64 nw) := blk_cell hO2.ht 0
  have t1 : wc.cell? ⟨p1, 1, none⟩ = some (.int .i64 ne) := blk_cell hO2.ht 1
  have t2 : wc.cell? ⟨p1, 2, none⟩ = some (.pointer none) := blk_cell hO2.ht 2
  have r0 : wc.cell? ⟨p2, 0, none⟩ = some (.bool false) := blk_cell hO2.hr 0
  have e0 : wc.frozen? ⟨p2, 0, none⟩ = false := blk_free hO2.hr 0
  have r1 : wc.cell? ⟨p2, 1, none⟩ = some (.int .u64 0) := blk_cell hO2.hr 1
  have e1 : wc.frozen? ⟨p2, 1, none⟩ = false := blk_free hO2.hr 1
  have r2 : wc.cell? ⟨p2, 2, none⟩ = some (.int .u64 0) := blk_cell hO2.hr 2
  have e2 : wc.frozen? ⟨p2, 2, none⟩ = false := blk_free hO2.hr 2
  have r3 : wc.cell? ⟨p2, 3, none⟩ = some (.int .i64 0) := blk_cell hO2.hr 3
  have e3 : wc.frozen? ⟨p2, 3, none⟩ = false := blk_free hO2.hr 3
  have r4 : wc.cell? ⟨p2, 4, none⟩ = some (.pointer none) := blk_cell hO2.hr 4
  have e4 : wc.frozen? ⟨p2, 4, none⟩ = false := blk_free hO2.hr 4
  have q0 : wc.cell? ⟨p3, 0, none⟩ = some (.bool false) := blk_cell hO2.hq 0
  have g0 : wc.frozen? ⟨p3, 0, none⟩ = false := blk_free hO2.hq 0
  have q1 : wc.cell? ⟨p3, 1, none⟩ = some (.int .u64 (IntKind.u64.wrap (cy - dn))) := blk_cell hO2.hq 1
  have g1 : wc.frozen? ⟨p3, 1, none⟩ = false := blk_free hO2.hq 1
  have q2 : wc.cell? ⟨p3, 2, none⟩ = some (.int .u64 vw) := blk_cell hO2.hq 2
  have g2 : wc.frozen? ⟨p3, 2, none⟩ = false := blk_free hO2.hq 2
  have q3 : wc.cell? ⟨p3, 3, none⟩ = some (.int .i64 ve) := blk_cell hO2.hq 3
  have g3 : wc.frozen? ⟨p3, 3, none⟩ = false := blk_free hO2.hq 3
  have q4 : wc.cell? ⟨p3, 4, none⟩ = some (.pointer none) := blk_cell hO2.hq 4
  have g4 : wc.frozen? ⟨p3, 4, none⟩ = false := blk_free hO2.hq 4
  go_wp2_with fail
  go_region_held3 (fun w' => w'.cell? ⟨p0, 4, none⟩ = some (.int .u64 cy) ∧ w'.cell? ⟨p0, 5, none⟩ = some (.int .u64 gs)) (first | go_keep | skip) (fail)
  go_wp2_with fail
  have hV := (((((((hO2.c0 cy).c1 gs).c2 0).c3 0).c4).c5 nw).c6 ne).c7
  exact bodyPost_ret (v := .agg #[.bool false, .int .u64 (IntKind.u64.wrap (cy - dn)), .int .u64 vw, .int .i64 ve, .pointer none]) (ret_run (blk_drew (ret_blk hV.hr _ _ _ _ _)) rfl) rfl ⟨vw, ve, rfl, hv, (ret_cyc hV.hb d2 _ _ _ _ _).drew, (ret_bel hV.bel hV.sz (by omega) (by omega) _ _ _ _ _).drew⟩

end Go.Proofs.Qxb6001754a
