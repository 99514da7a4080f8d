/-
  zzArray, the value's contract taken for granted at every place past its opening bracket.
-/
import Derived.Test.Qxb6602097aSpace
import Derived.Test.Qxb6602097aJsonEqs
import Derived.Deep.DeepCutAuto
namespace Go.Proofs.Qxb6602097a
open Go.RowKit

/-- The text lies in memory, in a block that is there. -/
def Live (w : World) (b off n : Nat) (d : Nat → Int) : Prop := Txt w b off n d ∧ b < w.heap.size
theorem Live.below {w w' : World} {b off n : Nat} {d : Nat → Int} (h : Live w b off n d) (hb : Below w.heap.size w w') : Live w' b off n d := ⟨h.1.below hb h.2, Nat.lt_of_lt_of_le h.2 hb.size⟩

/-- The contract of zzValue at p. -/
def ValAt (b off n cp : Nat) (d : Nat → Int) (p : Nat) : Prop := ∀ (dep : Nat) (w : World), dep ≤ 10000 → Live w b off n d →
  Calls Try.prog 28 #[.slice (some ⟨b, off, none⟩) n cp, .int .i64 p, .int .i64 dep] w fun e w' => e = .returned (.int .i64 (Pl.mdl d n 0 p dep)) ∧ Below w.heap.size w w'

theorem ret_b {k : IntKind} {a b : Int} {w w' : World} (h : a = b) (hb : Below w.heap.size w w') : Ending.returned (.int k a) = .returned (.int k b) ∧ Below w.heap.size w w' := by rw [h]; exact ⟨rfl, hb⟩

set_option maxRecDepth 100000 in
set_option maxHeartbeats 2000000 in
theorem zzArray_at (b off n cp : Nat) (d : Nat → Int) (p dep : Nat) (w : World) (hp : p < n) (hn : n ≤ 1048576) (hdep : dep ≤ 10001) (hL : Live w b off n d) (hV : ∀ q, p < q → q ≤ n → ValAt b off n cp d q) :
    Calls Try.prog 38 #[.slice (some ⟨b, off, none⟩) n cp, .int .i64 p, .int .i64 dep] w fun e w' => e = .returned (.int .i64 (Pl.arrAt d n p dep)) ∧ Below w.heap.size w w' := by
  by_cases hd : 10000 < dep
  · have HQ : Hid (Pl.arrAt d n p dep = -1) := by show _ = _; unfold Pl.arrAt; rw [if_pos hd]
    go_enter Try.func38, Try.ntmps38
    go_wp2_with fail
    go_ret
    exact ret_b HQ.out.symm (Below.refl _ _)
  have hw := Pl.ws_range (d := d) (show p + 1 ≤ n by omega)
  have HA : Hid (Pl.arrAt d n p dep = if Pl.ws d n (p + 1) < n ∧ d (Pl.ws d n (p + 1)) = 93 then ((Pl.ws d n (p + 1) + 1 : Nat) : Int) else Pl.mdl d n 1 (Pl.ws d n (p + 1)) dep) := by show _ = _; unfold Pl.arrAt; rw [if_neg hd]
  have hsk := fun (w : World) (hL : Live w b off n d) => zzSkip_at (cp := cp) (v := (p : Int) + 1) (p + 1) hL.1 (by omega) (by omega) hn
  generalize Pl.ws d n (p + 1) = q at *
  obtain ⟨R, hR⟩ : ∃ R, R = Pl.arrAt d n p dep := ⟨_, rfl⟩
  rw [← hR]
  have HA : Hid (R = if q < n ∧ d q = 93 then ((q + 1 : Nat) : Int) else Pl.mdl d n 1 q dep) := by show _ = _; rw [hR]; exact HA.out
  clear hR
  by_cases hcl : q < n ∧ d q = 93
  · have cq := hL.1 q hcl.1
    have g : (d q == 93) = true := by simp [hcl.2]
    have lq : q < n := hcl.1
    have HQ : Hid (R = ((q + 1 : Nat) : Int)) := by show _ = _; rw [HA.out, if_pos hcl]
    clear hcl HA
    go_enter Try.func38, Try.ntmps38
    go_wp2_with (go_at_call 27; refine (hsk _ hL).mono ?_; rintro e w' ⟨rfl, rfl⟩)
    go_ret
    exact ret_b (by rw [HQ.out]; omega) (Below.refl _ _)
  have HQ : Hid (R = Pl.mdl d n 1 q dep) := by show _ = _; rw [HA.out, if_neg hcl]
  clear HA
  go_enter Try.func38, Try.ntmps38
  go_upto_region 4 with (go_at_call 27; refine (hsk _ hL).mono ?_; rintro e w' ⟨rfl, rfl⟩)
  go_cut [23] (fun s wx => s = .bool false ∧ w = wx)
  case first =>
    by_cases lq : q < n
    · have cq := hL.1 q lq
      have g : (d q == 93) = false := by simp; exact fun h => hcl ⟨lq, h⟩
      clear hcl hsk
      go_wp2_with fail
      go_meet
      case rel => exact ⟨rfl, rfl⟩
    · clear hcl hsk
      go_wp2_with fail
      go_meet
      case rel => exact ⟨rfl, rfl⟩
  case rest =>
  obtain ⟨rfl, rfl⟩ := hcut
  clear hcl hsk
  go_wp2_with fail
  go_loopw [1] (fun t wr => ∃ q : Nat, p < q ∧ q ≤ n ∧ t = .int .i64 q ∧ Below w.heap.size w wr ∧ Hid (R = Pl.mdl d n 1 q dep)) (fun t _ => n - (intOf t).toNat)
  case atStart => exact ⟨q, by omega, by omega, rfl, Below.refl _ _, HQ⟩
  case round =>
    clear HQ hw
    obtain ⟨q, hpq, hqn, rfl, hbr, HR⟩ := hrel
    have hLr := hL.below hbr
    go_wp2_with fail
    refine (hV q hpq hqn dep _ (by omega) hLr).mono ?_
    rintro e w1 ⟨rfl, hb1⟩
    have hL1 := hLr.below hb1
    have hb : Below w.heap.size w w1 := hbr.trans (hb1.mono hbr.size)
    clear hb1 hLr hbr
    rcases Pl.mdl_range d n 0 q dep hqn with e0 | ⟨g, e0, g1, g2⟩
    · have HQ : Hid (R = -1) := HR.out.trans (Pl.mdl1_neg hqn e0)
      rw [e0]
      clear e0 HR
      go_wp2_with fail
      go_ret
      exact ret_b HQ.out.symm hb
    have hE := Pl.mdl1_pos hqn e0
    rw [e0]
    have hwg := Pl.ws_range (d := d) g2
    have hsk := zzSkip_at (cp := cp) (v := (g : Int)) g hL1.1 rfl g2 hn
    generalize Pl.ws d n g = r at *
    by_cases hr : n ≤ r
    · have HQ : Hid (R = -1) := by show _ = _; rw [HR.out, hE, if_pos hr]
      clear e0 HR hE
      go_wp2_with (go_at_call 27; refine hsk.mono ?_; rintro e w' ⟨rfl, rfl⟩)
      go_ret
      exact ret_b HQ.out.symm hb
    have lr : r < n := by omega
    have cr := hL1.1 r lr
    rw [if_neg hr] at hE
    by_cases h93 : d r = 93
    · have HQ : Hid (R = ((r + 1 : Nat) : Int)) := by show _ = _; rw [HR.out, hE, if_pos h93]
      have g93 : (d r == 93) = true := by simp [h93]
      clear e0 HR hE h93
      go_wp2_with (go_at_call 27; refine hsk.mono ?_; rintro e w' ⟨rfl, rfl⟩)
      go_ret
      exact ret_b (by rw [HQ.out]; omega) hb
    have g93 : (d r == 93) = false := by simp [h93]
    rw [if_neg h93] at hE
    by_cases h44 : d r = 44
    · have g44 : (d r != 44) = false := by simp [h44]
      have HQ : Hid (R = Pl.mdl d n 1 (Pl.ws d n (r + 1)) dep) := by show _ = _; rw [HR.out, hE, if_neg (by simp [h44])]
      have hw2 := Pl.ws_range (d := d) (show r + 1 ≤ n by omega)
      have hsk2 := zzSkip_at (cp := cp) (v := (r : Int) + 1) (r + 1) hL1.1 (by omega) (by omega) hn
      generalize Pl.ws d n (r + 1) = q2 at *
      clear e0 HR hE h93 h44
      go_wp2_with fail
      refine hsk.mono ?_
      rintro e w' ⟨rfl, rfl⟩
      go_wp2_with fail
      refine hsk2.mono ?_
      rintro e w' ⟨rfl, rfl⟩
      go_wp2_with fail
      go_roundw
      case rel => exact ⟨q2, by omega, by omega, rfl, hb, HQ⟩
      case measure => simp [intOf]; omega
    · have g44 : (d r != 44) = true := by simp [h44]
      have HQ : Hid (R = -1) := by show _ = _; rw [HR.out, hE, if_pos h44]
      clear e0 HR hE h93 h44
      go_wp2_with (go_at_call 27; refine hsk.mono ?_; rintro e w' ⟨rfl, rfl⟩)
      go_ret
      exact ret_b HQ.out.symm hb

end Go.Proofs.Qxb6602097a
