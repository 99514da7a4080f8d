/-
  ZZObserve.
-/
import Derived.Test.Qxb6001754aObsRest
import Derived.OwnWalk
namespace Go.Proofs.Qxb6001754a
open Go.RowKit

/-- Does this snapshot report a start? -/
def began (dn st sw se cy gs : Int) : Bool := cy == dn && (gs != st && (sw == 0 && se == 0))
/-- The pause count behind it. -/
def nst (dn st cy gs : Int) : Int := if cy = dn then st else gs
/-- A half of the start time behind it. -/
def nsv (dn st sw se cy gs x y : Int) : Int := if cy = dn then (if began dn st sw se cy gs = true then y else x) else 0

theorem observe_at (b : Nat) (dn st sw se lw le x0 x1 x2 x3 cy gs nw ne : Int) (w : World) (hC : Cyc w b dn st sw se lw le) (v0 : 0 ≤ sw ∧ sw < 1000000000) (v1 : 0 ≤ lw ∧ lw < 1000000000) :
    Calls Try.prog 21 #[.pointer (some ⟨b, 0, none⟩), .agg #[.int .u64 x0, .int .u64 x1, .int .u64 x2, .int .u64 x3, .int .u64 cy, .int .u64 gs], .agg #[.int .u64 nw, .int .i64 ne, .pointer none]] w fun e w' =>
      ∃ vw ve, e = .returned (.agg #[.bool (began dn st sw se cy gs), .int .u64 (IntKind.u64.wrap (cy - dn)), .int .u64 vw, .int .i64 ve, .pointer none]) ∧ (0 ≤ vw ∧ vw < 1000000000) ∧ Cyc w' b cy (nst dn st cy gs) (nsv dn st sw se cy gs sw lw) (nsv dn st sw se cy gs se le) nw ne ∧ Tch b w w' := by
  by_cases h : cy = dn
  · have hw : IntKind.u64.wrap (cy - dn) = 0 := by subst h; rw [Int.sub_self]; rfl
    by_cases hg : gs = st
    · have hb : began dn st sw se cy gs = false := by simp [began, hg]
      refine (observe_still b dn st sw se lw le x0 x1 x2 x3 cy gs nw ne w hC h hg).mono ?_
      rintro e w' ⟨rfl, h1, h2⟩
      refine ⟨0, 0, by rw [hb, hw], by omega, ?_, h2⟩
      simp only [nst, nsv, hb, if_pos h]
      rw [h]; exact h1
    · cases hz : (sw == 0 && se == 0) with
      | true =>
        have hb : began dn st sw se cy gs = true := by simp only [began, hz, h, beq_self_eq_true, Bool.true_and, Bool.and_true]; simp [hg]
        refine (observe_start b dn st sw se lw le x0 x1 x2 x3 cy gs nw ne w hC h hg hz).mono ?_
        rintro e w' ⟨rfl, h1, h2⟩
        refine ⟨lw, le, by rw [hb, hw], v1, ?_, h2⟩
        simp only [nst, nsv, hb, if_pos h]
        rw [h]; exact h1
      | false =>
        have hb : began dn st sw se cy gs = false := by simp only [began, hz, Bool.and_false]
        refine (observe_on b dn st sw se lw le x0 x1 x2 x3 cy gs nw ne w hC h hg hz).mono ?_
        rintro e w' ⟨rfl, h1, h2⟩
        refine ⟨0, 0, by rw [hb, hw], by omega, ?_, h2⟩
        simp only [nst, nsv, hb, if_pos h]
        rw [h]; exact h1
  · have hb : began dn st sw se cy gs = false := by simp [began, h]
    refine (observe_end b dn st sw se lw le x0 x1 x2 x3 cy gs nw ne w hC h v0 v1).mono ?_
    rintro e w' ⟨vw, ve, rfl, hv, h1, h2⟩
    refine ⟨vw, ve, by rw [hb], hv, ?_, h2⟩
    simp only [nst, nsv, if_neg h]
    exact h1

theorem Cyc.alloc {V : World} {b : Nat} {dn st sw se lw le : Int} (h : Cyc V b dn st sw se lw le) (o : Obj) : Cyc (V.alloc o) b dn st sw se lw le := by
  unfold Cyc; rw [Below.heap_alloc V o b h.lt]; exact h
theorem Tch.alloc {b : Nat} {w W : World} (h : Tch b w W) (lt : b < W.heap.size) (o : Obj) : Tch b w (W.alloc o) := h.below ((Below.refl _ _).alloc (Nat.le_refl _) _) lt
/-- The cells of a change's block. -/
abbrev Chg (w : World) (g : Nat) (q : Bool) (en vw ve : Int) : Prop :=
  (w.cell? ⟨g, 0, none⟩ = some (.bool q) ∧ w.cell? ⟨g, 1, none⟩ = some (.int .u64 en) ∧ w.cell? ⟨g, 2, none⟩ = some (.int .u64 vw) ∧ w.cell? ⟨g, 3, none⟩ = some (.int .i64 ve) ∧ w.cell? ⟨g, 4, none⟩ = some (.pointer none)) ∧
  (w.frozen? ⟨g, 0, none⟩ = false ∧ w.frozen? ⟨g, 1, none⟩ = false ∧ w.frozen? ⟨g, 2, none⟩ = false ∧ w.frozen? ⟨g, 3, none⟩ = false ∧ w.frozen? ⟨g, 4, none⟩ = false)
theorem chg_of {w : World} {g : Nat} {q : Bool} {en vw ve : Int} (h : w.heap[g]? = some (.cells #[.bool q, .int .u64 en, .int .u64 vw, .int .i64 ve, .pointer none] 49 (0, 0))) : Chg w g q en vw ve :=
  ⟨⟨blk_cell h 0, blk_cell h 1, blk_cell h 2, blk_cell h 3, blk_cell h 4⟩, blk_free h 0, blk_free h 1, blk_free h 2, blk_free h 3, blk_free h 4⟩

/-- What the first region needs of the memory at every step. -/
abbrev ZoS (w W : World) (b p0 : Nat) (x0 x1 x2 x3 cy gs : Int) : Prop :=
  (W.heap[p0]? = some (.cells #[.int .u64 x0, .int .u64 x1, .int .u64 x2, .int .u64 x3, .int .u64 cy, .int .u64 gs] 34 (0, 0)) ∧ Tch b w W ∧ b < W.heap.size) ∧
  (W.cell? ⟨p0, 0, none⟩ = some (.int .u64 x0) ∧ W.cell? ⟨p0, 1, none⟩ = some (.int .u64 x1) ∧ W.cell? ⟨p0, 2, none⟩ = some (.int .u64 x2) ∧ W.cell? ⟨p0, 3, none⟩ = some (.int .u64 x3) ∧ W.cell? ⟨p0, 4, none⟩ = some (.int .u64 cy) ∧ W.cell? ⟨p0, 5, none⟩ = some (.int .u64 gs))
theorem zoS_of {w W : World} {b p0 : Nat} {x0 x1 x2 x3 cy gs : Int} (h : W.heap[p0]? = some (.cells #[.int .u64 x0, .int .u64 x1, .int .u64 x2, .int .u64 x3, .int .u64 cy, .int .u64 gs] 34 (0, 0))) (ht : Tch b w W) (lt : b < W.heap.size) : ZoS w W b p0 x0 x1 x2 x3 cy gs :=
  ⟨⟨h, ht, lt⟩, blk_cell h 0, blk_cell h 1, blk_cell h 2, blk_cell h 3, blk_cell h 4, blk_cell h 5⟩
theorem zoS_start (w : World) (b : Nat) (x0 x1 x2 x3 cy gs : Int) (lt : b < w.heap.size) : ZoS w (w.alloc (.cells #[.int .u64 x0, .int .u64 x1, .int .u64 x2, .int .u64 x3, .int .u64 cy, .int .u64 gs] 34)) b w.heap.size x0 x1 x2 x3 cy gs :=
  zoS_of (heap_alloc_new _ _) (Tch.of ((Below.refl _ _).alloc (Nat.le_refl _) _) lt) (by simp; omega)
theorem ZoS.drew {w W : World} {b p0 : Nat} {x0 x1 x2 x3 cy gs : Int} (h : ZoS w W b p0 x0 x1 x2 x3 cy gs) : ZoS w W.drew b p0 x0 x1 x2 x3 cy gs := zoS_of h.1.1 h.1.2.1.drew h.1.2.2
theorem ZoS.below {w W w1 : World} {b p0 : Nat} {x0 x1 x2 x3 cy gs : Int} (h : ZoS w W b p0 x0 x1 x2 x3 cy gs) (k : Below W.heap.size W w1) : ZoS w w1 b p0 x0 x1 x2 x3 cy gs :=
  zoS_of (blk_below h.1.1 k (blk_lt h.1.1)) (h.1.2.1.below k h.1.2.2) (Nat.lt_of_lt_of_le h.1.2.2 k.size)
theorem ZoS.alloc {w W : World} {b p0 : Nat} {x0 x1 x2 x3 cy gs : Int} (h : ZoS w W b p0 x0 x1 x2 x3 cy gs) (o : Obj) : ZoS w (W.alloc o) b p0 x0 x1 x2 x3 cy gs := h.below ((Below.refl _ _).alloc (Nat.le_refl _) _)
theorem ZoS.tch {w W w1 : World} {b p0 : Nat} {x0 x1 x2 x3 cy gs : Int} (h : ZoS w W b p0 x0 x1 x2 x3 cy gs) (k : Tch b W w1) (ne : p0 ≠ b) : ZoS w w1 b p0 x0 x1 x2 x3 cy gs :=
  zoS_of ((k.oth p0 ne (blk_lt h.1.1)).trans h.1.1) (h.1.2.1.trans k) (Nat.lt_of_lt_of_le h.1.2.2 k.bel.size)

theorem ZoS.set {w W : World} {b p0 g : Nat} {x0 x1 x2 x3 cy gs : Int} (h : ZoS w W b p0 x0 x1 x2 x3 cy gs) (ne : p0 ≠ g) (hb : b ≤ g) (hp : w.heap.size ≤ g) (k : Nat) (v : Value) : ZoS w (W.setCell ⟨g, k, none⟩ v) b p0 x0 x1 x2 x3 cy gs :=
  zoS_of (blk_far h.1.1 ne _ _) (h.1.2.1.setN hb hp _ _) (by have := h.1.2.2; simpa [World.setCell] using this)
theorem ZoS.draws {w W : World} {b p0 : Nat} {x0 x1 x2 x3 cy gs : Int} (h : ZoS w W b p0 x0 x1 x2 x3 cy gs) (m : Nat) : ZoS w (W.drewN m) b p0 x0 x1 x2 x3 cy gs := zoS_of h.1.1 (h.1.2.1.draws m) h.1.2.2

/-- A change's block that was laid before the call is there behind it. -/
theorem chg_keep {b : Nat} {W w2 : World} {dn st sw se lw le : Int} (hC : Cyc W b dn st sw se lw le) (ht : Tch b W w2) : ∀ g : Nat, W.heap[g]? = some (.cells #[.bool false, .int .u64 0, .int .u64 0, .int .i64 0, .pointer none] 49 (0, 0)) → w2.heap[g]? = some (.cells #[.bool false, .int .u64 0, .int .u64 0, .int .i64 0, .pointer none] 49 (0, 0)) := by
  intro g hg
  refine (ht.oth g ?_ (blk_lt hg)).trans hg
  rintro rfl
  unfold Cyc at hC
  rw [hC] at hg
  simp at hg

theorem observe_at2 (b : Nat) (dn st sw se lw le x0 x1 x2 x3 cy gs nw ne : Int) (w : World) (hC : Cyc w b dn st sw se lw le) (v0 : 0 ≤ sw ∧ sw < 1000000000) (v1 : 0 ≤ lw ∧ lw < 1000000000) :
    Calls Try.prog 21 #[.pointer (some ⟨b, 0, none⟩), .agg #[.int .u64 x0, .int .u64 x1, .int .u64 x2, .int .u64 x3, .int .u64 cy, .int .u64 gs], .agg #[.int .u64 nw, .int .i64 ne, .pointer none]] w fun e w' =>
      ∃ vw ve, e = .returned (.agg #[.bool (began dn st sw se cy gs), .int .u64 (IntKind.u64.wrap (cy - dn)), .int .u64 vw, .int .i64 ve, .pointer none]) ∧ (0 ≤ vw ∧ vw < 1000000000) ∧ Cyc w' b cy (nst dn st cy gs) (nsv dn st sw se cy gs sw lw) (nsv dn st sw se cy gs se le) nw ne ∧ Tch b w w' ∧ ∀ g : Nat, w.heap[g]? = some (.cells #[.bool false, .int .u64 0, .int .u64 0, .int .i64 0, .pointer none] 49 (0, 0)) → w'.heap[g]? = some (.cells #[.bool false, .int .u64 0, .int .u64 0, .int .i64 0, .pointer none] 49 (0, 0)) :=
  (observe_at b dn st sw se lw le x0 x1 x2 x3 cy gs nw ne w hC v0 v1).mono fun _ _ ⟨vw, ve, h1, h2, h3, h4⟩ => ⟨vw, ve, h1, h2, h3, h4, chg_keep hC h4⟩

/-- What the second region needs of the memory at every step. -/
abbrev ZrS (w W : World) (b g : Nat) (dn st sw se lw le : Int) (q : Bool) (en vw ve : Int) : Prop :=
  (W.heap[g]? = some (.cells #[.bool q, .int .u64 en, .int .u64 vw, .int .i64 ve, .pointer none] 49 (0, 0)) ∧ Cyc W b dn st sw se lw le ∧ Tch b w W) ∧ Chg W g q en vw ve
theorem ZrS.below {w W w1 : World} {b g : Nat} {dn st sw se lw le : Int} {q : Bool} {en vw ve : Int} (h : ZrS w W b g dn st sw se lw le q en vw ve) (k : Below W.heap.size W w1) : ZrS w w1 b g dn st sw se lw le q en vw ve :=
  have hg := blk_below h.1.1 k (blk_lt h.1.1)
  ⟨⟨hg, h.1.2.1.below k, h.1.2.2.below k h.1.2.1.lt⟩, chg_of hg⟩
theorem ZrS.drew {w W : World} {b g : Nat} {dn st sw se lw le : Int} {q : Bool} {en vw ve : Int} (h : ZrS w W b g dn st sw se lw le q en vw ve) : ZrS w W.drew b g dn st sw se lw le q en vw ve := ⟨⟨h.1.1, h.1.2.1, h.1.2.2.drew⟩, chg_of (w := W.drew) h.1.1⟩

set_option maxRecDepth 100000 in
set_option maxHeartbeats 4000000 in
theorem zzObserve_at (b : Nat) (dn st sw se lw le x0 x1 x2 x3 cy gs ns : Int) (w : World) (hC : Cyc w b dn st sw se lw le) (v0 : 0 ≤ sw ∧ sw < 1000000000) (v1 : 0 ≤ lw ∧ lw < 1000000000) (h0 : -9223372036854775808 ≤ ns) (h1 : ns ≤ 9223372036854775807) :
    Calls Try.prog 13 #[.pointer (some ⟨b, 0, none⟩), .agg #[.int .u64 x0, .int .u64 x1, .int .u64 x2, .int .u64 x3, .int .u64 cy, .int .u64 gs], .int .i64 ns] w fun e w' =>
      ∃ i, e = .returned (.tuple #[.bool (began dn st sw se cy gs), .int .u64 (IntKind.u64.wrap (cy - dn)), .int .i64 i]) ∧ Cyc w' b cy (nst dn st cy gs) (nsv dn st sw se cy gs sw lw) (nsv dn st sw se cy gs se le) (ns % 1000000000) (ns / 1000000000) ∧ Tch b w w' := by
  have hlt := hC.lt
  have hne : w.heap.size ≠ b := by omega
  have hS := zoS_start w b x0 x1 x2 x3 cy gs hlt
  have hC0 := hC.alloc (.cells #[.int .u64 x0, .int .u64 x1, .int .u64 x2, .int .u64 x3, .int .u64 cy, .int .u64 gs] 34)
  go_enter Try.func13, Try.ntmps13
  go_upto_region 1 with fail
  generalize w.alloc (.cells #[.int .u64 x0, .int .u64 x1, .int .u64 x2, .int .u64 x3, .int .u64 cy, .int .u64 gs] 34) = W0 at hC0 hS ⊢
  have hW0 : w.heap.size < W0.heap.size := blk_lt hS.1.1
  go_cut [9, 10, 11, 12, 13, 14] (fun s9 _ _ _ _ _ wx => ∃ (g : Nat) (vw ve : Int), s9 = .pointer (some ⟨g, 0, none⟩) ∧ (0 ≤ vw ∧ vw < 1000000000) ∧ wx.heap[g]? = some (.cells #[.bool (began dn st sw se cy gs), .int .u64 (IntKind.u64.wrap (cy - dn)), .int .u64 vw, .int .i64 ve, .pointer none] 49 (0, 0)) ∧ Cyc wx b cy (nst dn st cy gs) (nsv dn st sw se cy gs sw lw) (nsv dn st sw se cy gs se le) (ns % 1000000000) (ns / 1000000000) ∧ Tch b w wx)
  case first =>
    go_region_held3 (fun w' => ZoS w w' b w.heap.size x0 x1 x2 x3 cy gs) (repeat (with_reducible first | assumption | refine ZoS.below ?_ (by assumption) | refine ZoS.tch ?_ (by assumption) hne | refine ZoS.alloc ?_ _ | refine ZoS.set ?_ (by omega) (by omega) (by omega) _ _ | refine ZoS.drew ?_ | refine ZoS.draws ?_ _)) (first | (go_at_call 20; refine (zzTime_at ns _ h0 h1).mono ?_; rintro e w1 ⟨rfl, hb1⟩; have hz1 : W0.heap.size ≤ w1.heap.size := by first | exact hb1.size | exact Nat.le_trans (by simp) hb1.size) | (go_at_call 21; refine (observe_at2 b dn st sw se lw le x0 x1 x2 x3 cy gs _ _ _ (by repeat (with_reducible first | assumption | refine Cyc.below ?_ (by assumption) | refine Cyc.alloc ?_ _ | refine Cyc.drew ?_ | refine Cyc.draws ?_ _)) v0 v1).mono ?_; rintro e w2 ⟨vw, ve, rfl, hv, hC2, ht, hk⟩; (try (have hk1 := hk W0.heap.size (by refine blk_below ?_ hb1 ?_; exact heap_alloc_new W0 _; exact Nat.lt_of_lt_of_le (Nat.lt_succ_self _) (Nat.le_of_eq (by simp))); obtain ⟨⟨k0, k1, k2, k3, k4⟩, j0, j1, j2, j3, j4⟩ := chg_of hk1)); try (have hk1 := hk w1.heap.size (heap_alloc_new _ _); obtain ⟨⟨k0, k1, k2, k3, k4⟩, j0, j1, j2, j3, j4⟩ := chg_of hk1)))
    all_goals (go_wp2_with fail; go_meet)
    case rel => exact ⟨_, vw, ve, rfl, hv, heap_alloc_new _ _, hC2.alloc _, (show ZoS w _ b w.heap.size x0 x1 x2 x3 cy gs by assumption).1.2.1⟩
    case rel => exact ⟨_, vw, ve, rfl, hv, ret_blk hk1 _ _ _ _ _, ret_cyc hC2 (by omega) _ _ _ _ _, (show ZoS w _ b w.heap.size x0 x1 x2 x3 cy gs by assumption).1.2.1⟩
    case rel => exact ⟨_, vw, ve, rfl, hv, ret_blk hk1 _ _ _ _ _, ret_cyc hC2 (by omega) _ _ _ _ _, (show ZoS w _ b w.heap.size x0 x1 x2 x3 cy gs by assumption).1.2.1⟩
  case rest =>
  obtain ⟨g, vw, ve, rfl, hv, hg, hC2, hT⟩ := hcut
  obtain ⟨n1, n2, n3, n4, n5, n6, n7, e1, e2, e3, e4, e5, e6, e7, hR⟩ : ∃ (n1 n2 n3 : Int) (n4 : Bool) (n5 n6 n7 : Int), n1 = nst dn st cy gs ∧ n2 = nsv dn st sw se cy gs sw lw ∧ n3 = nsv dn st sw se cy gs se le ∧ n4 = began dn st sw se cy gs ∧ n5 = IntKind.u64.wrap (cy - dn) ∧ n6 = ns % 1000000000 ∧ n7 = ns / 1000000000 ∧ ZrS w wc b g cy n1 n2 n3 n6 n7 n4 n5 vw ve :=
    ⟨_, _, _, _, _, _, _, rfl, rfl, rfl, rfl, rfl, rfl, rfl, ⟨hg, hC2, hT⟩, chg_of hg⟩
  clear hS hC0 hW0 hC hg hC2 hT
  go_upto_region 2 with fail
  go_region_held3 (fun w' => ZrS w w' b g cy n1 n2 n3 n6 n7 n4 n5 vw ve) (repeat (with_reducible first | assumption | refine ZrS.below ?_ (by assumption) | refine ZrS.drew ?_)) (first | (go_at_call 22; refine (zzNs_at vw ve _ hv.1 hv.2).mono ?_; rintro e w1 ⟨⟨i, rfl⟩, hb1⟩))
  have hR1 : ZrS w w1 b g cy n1 n2 n3 n6 n7 n4 n5 vw ve := by assumption
  go_wp2_with fail
  go_ret3
  subst e1 e2 e3 e4 e5 e6 e7
  exact ⟨i, rfl, hR1.1.2.1, hR1.1.2.2⟩

end Go.Proofs.Qxb6001754a
