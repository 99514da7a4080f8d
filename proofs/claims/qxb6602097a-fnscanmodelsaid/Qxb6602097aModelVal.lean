/-
  zzValue (by induction on what is left of the text), zzScanModel.
-/
import Derived.Test.Qxb6602097aModelObj
import Derived.Test.Qxb6602097aNumModel
namespace Go.Proofs.Qxb6602097a
open Go.RowKit

theorem below_drewN {w : World} (nq : Nat) : Below w.heap.size w (w.drewN nq) := ⟨rfl, rfl, rfl, Nat.le_refl _, fun _ _ => rfl⟩

set_option maxRecDepth 100000 in
set_option maxHeartbeats 4000000 in
theorem zzValue_step (b off n cp : Nat) (d : Nat → Int) (p : Nat) (hp : p ≤ n) (hn : n ≤ 1048576) (hV : ∀ q, p < q → q ≤ n → ValAt b off n cp d q) : ValAt b off n cp d p := by
  intro dep w hdep hL
  by_cases hlt : p < n
  · have cp0 := hL.1 p hlt
    by_cases h91 : d p = 91
    · have g1 : (d p == 91) = true := by simp [h91]
      have hc := zzArray_at b off n cp d p (dep + 1) w hlt hn (by omega) hL hV
      rw [Pl.mdl0_arr hlt h91]
      clear h91 hV
      go_enter Try.func28, Try.ntmps28
      go_wp2_with fail
      refine hc.mono ?_
      rintro e w1 ⟨rfl, hb1⟩
      go_wp2_with fail
      go_ret
      exact ⟨rfl, hb1⟩
    have g1 : (d p == 91) = false := by simp [h91]
    by_cases h123 : d p = 123
    · have g2 : (d p == 123) = true := by simp [h123]
      have hc := zzObject_at b off n cp d p (dep + 1) w hlt hn (by omega) hL hV
      rw [Pl.mdl0_obj hlt h123]
      clear h91 h123 hV
      go_enter Try.func28, Try.ntmps28
      go_wp2_with fail
      refine hc.mono ?_
      rintro e w1 ⟨rfl, hb1⟩
      go_wp2_with fail
      go_ret
      exact ⟨rfl, hb1⟩
    have g2 : (d p == 123) = false := by simp [h123]
    rw [Pl.mdl0_scal hlt h91 h123]
    clear h91 h123 hV
    unfold Pl.scal
    by_cases h34 : d p = 34
    · have g3 : (d p == 34) = true := by simp [h34]
      have hc := zzStringModel_any b off n cp d p w hlt hn hL.1
      rw [if_pos h34]
      clear h34
      go_enter Try.func28, Try.ntmps28
      go_wp2_with (go_at_call 19; refine hc.mono ?_; rintro e w' ⟨rfl, rfl⟩)
      go_ret
      exact ⟨rfl, Below.refl _ _⟩
    have g3 : (d p == 34) = false := by simp [h34]
    rw [if_neg h34]
    clear h34
    by_cases h116 : d p = 116
    · have g4 : (d p == 116) = true := by simp [h116]
      have hc := zzLiteral_at (cp := cp) p (w := w) ⟨#[116, 114, 117, 101]⟩ hL.1 hp hn (by decide)
      rw [if_pos h116]
      clear h116
      go_enter Try.func28, Try.ntmps28
      go_wp2_with fail
      refine hc.mono ?_
      rintro e w1 ⟨rfl, nq, rfl⟩
      go_wp2_with fail
      go_ret
      exact ⟨rfl, below_drewN nq⟩
    have g4 : (d p == 116) = false := by simp [h116]
    rw [if_neg h116]
    clear h116
    by_cases h102 : d p = 102
    · have g5 : (d p == 102) = true := by simp [h102]
      have hc := zzLiteral_at (cp := cp) p (w := w) ⟨#[102, 97, 108, 115, 101]⟩ hL.1 hp hn (by decide)
      rw [if_pos h102]
      clear h102
      go_enter Try.func28, Try.ntmps28
      go_wp2_with fail
      refine hc.mono ?_
      rintro e w1 ⟨rfl, nq, rfl⟩
      go_wp2_with fail
      go_ret
      exact ⟨rfl, below_drewN nq⟩
    have g5 : (d p == 102) = false := by simp [h102]
    rw [if_neg h102]
    clear h102
    by_cases h110 : d p = 110
    · have g6 : (d p == 110) = true := by simp [h110]
      have hc := zzLiteral_at (cp := cp) p (w := w) ⟨#[110, 117, 108, 108]⟩ hL.1 hp hn (by decide)
      rw [if_pos h110]
      clear h110
      go_enter Try.func28, Try.ntmps28
      go_wp2_with fail
      refine hc.mono ?_
      rintro e w1 ⟨rfl, nq, rfl⟩
      go_wp2_with fail
      go_ret
      exact ⟨rfl, below_drewN nq⟩
    have g6 : (d p == 110) = false := by simp [h110]
    rw [if_neg h110]
    clear h110
    have hc := zzNumberModel_any b off n cp d p w hlt hn hL.1
    go_enter Try.func28, Try.ntmps28
    go_wp2_with (go_at_call 23; refine hc.mono ?_; rintro e w' ⟨rfl, rfl⟩)
    go_ret
    exact ⟨rfl, Below.refl _ _⟩
  · have hpn : p = n := by omega
    have HQ : Hid (Pl.mdl d n 0 p dep = -1) := by show _ = _; rw [hpn]; exact Pl.mdl_end0 d n dep
    clear hpn hV
    go_enter Try.func28, Try.ntmps28
    go_wp2_with fail
    go_ret
    exact ret_b HQ.out.symm (Below.refl _ _)

theorem zzValue_all (b off n cp : Nat) (d : Nat → Int) (hn : n ≤ 1048576) : ∀ m p, n - p ≤ m → p ≤ n → ValAt b off n cp d p := by
  intro m
  induction m with
  | zero => intro p h1 h2; exact zzValue_step b off n cp d p h2 hn fun q h3 h4 => by omega
  | succ m ih => intro p h1 h2; exact zzValue_step b off n cp d p h2 hn fun q h3 h4 => ih q (by omega) h4

theorem ret_bb {a b : Bool} {w w' : World} (h : a = b) (hb : Below w.heap.size w w') : Ending.returned (.bool a) = .returned (.bool b) ∧ Below w.heap.size w w' := by rw [h]; exact ⟨rfl, hb⟩

set_option maxHeartbeats 1000000 in
theorem zzScanModel_at (b off n cp : Nat) (d : Nat → Int) (i : Nat) (w : World) (hi : i ≤ n) (hn : n ≤ 1048576) (hL : Live w b off n d) :
    Calls Try.prog 13 #[.slice (some ⟨b, off, none⟩) n cp, .int .i64 i] w fun e w' => e = .returned (.bool (Pl.accB d n i)) ∧ Below w.heap.size w w' := by
  have hw := Pl.ws_range (d := d) hi
  have hsk := zzSkip_at (cp := cp) (v := (i : Int)) i hL.1 rfl hi hn
  obtain ⟨A, hA⟩ : ∃ A, A = Pl.accB d n i := ⟨_, rfl⟩
  rw [← hA]
  unfold Pl.accB at hA
  generalize Pl.ws d n i = p at *
  have hv := zzValue_all b off n cp d hn _ p (Nat.le_refl _) hw.2 0 w (by omega) hL
  rcases Pl.mdl_range d n 0 p 0 hw.2 with e0 | ⟨g, e0, g1, g2⟩
  · rw [e0] at hA hv
    have HQ : Hid (A = false) := by show _ = _; rw [hA]; rfl
    clear hA e0
    go_enter Try.func13, Try.ntmps13
    go_wp2_with fail
    refine hsk.mono ?_
    rintro e w' ⟨rfl, rfl⟩
    go_wp2_with fail
    refine hv.mono ?_
    rintro e w1 ⟨rfl, hb1⟩
    go_wp2_with fail
    go_ret
    exact ret_bb HQ.out.symm hb1
  · rw [e0] at hA hv
    have hwg := Pl.ws_range (d := d) g2
    have hsk2 := fun (w : World) (hL : Live w b off n d) => zzSkip_at (cp := cp) (v := (g : Int)) g hL.1 rfl g2 hn
    rw [Int.toNat_natCast] at hA
    generalize Pl.ws d n g = r at *
    have HQ : Hid (A = ((r : Int) == (n : Int))) := by
      show _ = _
      rw [hA, Bool.eq_iff_iff]
      simp
      omega
    clear hA e0
    go_enter Try.func13, Try.ntmps13
    go_wp2_with fail
    refine hsk.mono ?_
    rintro e w' ⟨rfl, rfl⟩
    go_wp2_with fail
    refine hv.mono ?_
    rintro e w1 ⟨rfl, hb1⟩
    have hL1 := hL.below hb1
    go_wp2_with (go_at_call 27; refine (hsk2 _ hL1).mono ?_; rintro e w' ⟨rfl, rfl⟩)
    go_ret
    exact ret_bb HQ.out.symm hb1

end Go.Proofs.Qxb6602097a
