/-
  zzObject, the value's contract taken for granted at every place past its opening brace.
-/
import Derived.Test.Qxb6602097aModelArr
import Derived.Test.Qxb6602097aStrModel
namespace Go.Proofs.Qxb6602097a
open Go.RowKit

set_option maxRecDepth 100000 in
set_option maxHeartbeats 4000000 in
theorem zzObject_at (b off n cp : Nat) (d : Nat → Int) (p dep : Nat) (w : World) (hp : p < n) (hn : n ≤ 1048576) (hdep : dep ≤ 10001) (hL : Live w b off n d) (hV : ∀ q, p < q → q ≤ n → ValAt b off n cp d q) :
    Calls Try.prog 39 #[.slice (some ⟨b, off, none⟩) n cp, .int .i64 p, .int .i64 dep] w fun e w' => e = .returned (.int .i64 (Pl.objAt d n p dep)) ∧ Below w.heap.size w w' := by
  by_cases hd : 10000 < dep
  · have HQ : Hid (Pl.objAt d n p dep = -1) := by show _ = _; unfold Pl.objAt; rw [if_pos hd]
    go_enter Try.func39, Try.ntmps39
    go_wp2_with fail
    go_ret
    exact ret_b HQ.out.symm (Below.refl _ _)
  have hw := Pl.ws_range (d := d) (show p + 1 ≤ n by omega)
  have HA : Hid (Pl.objAt d n p dep = if Pl.ws d n (p + 1) < n ∧ d (Pl.ws d n (p + 1)) = 125 then ((Pl.ws d n (p + 1) + 1 : Nat) : Int) else Pl.mdl d n 2 (Pl.ws d n (p + 1)) dep) := by show _ = _; unfold Pl.objAt; rw [if_neg hd]
  have hsk := fun (w : World) (hL : Live w b off n d) => zzSkip_at (cp := cp) (v := (p : Int) + 1) (p + 1) hL.1 (by omega) (by omega) hn
  generalize Pl.ws d n (p + 1) = q at *
  obtain ⟨R, hR⟩ : ∃ R, R = Pl.objAt d n p dep := ⟨_, rfl⟩
  rw [← hR]
  have HA : Hid (R = if q < n ∧ d q = 125 then ((q + 1 : Nat) : Int) else Pl.mdl d n 2 q dep) := by show _ = _; rw [hR]; exact HA.out
  clear hR
  by_cases hcl : q < n ∧ d q = 125
  · have cq := hL.1 q hcl.1
    have g : (d q == 125) = true := by simp [hcl.2]
    have lq : q < n := hcl.1
    have HQ : Hid (R = ((q + 1 : Nat) : Int)) := by show _ = _; rw [HA.out, if_pos hcl]
    clear hcl HA
    go_enter Try.func39, Try.ntmps39
    go_wp2_with (go_at_call 27; refine (hsk _ hL).mono ?_; rintro e w' ⟨rfl, rfl⟩)
    go_ret
    exact ret_b (by rw [HQ.out]; omega) (Below.refl _ _)
  have HQ : Hid (R = Pl.mdl d n 2 q dep) := by show _ = _; rw [HA.out, if_neg hcl]
  clear HA
  go_enter Try.func39, Try.ntmps39
  go_upto_region 4 with (go_at_call 27; refine (hsk _ hL).mono ?_; rintro e w' ⟨rfl, rfl⟩)
  go_cut [23] (fun s wx => s = .bool false ∧ w = wx)
  case first =>
    by_cases lq : q < n
    · have cq := hL.1 q lq
      have g : (d q == 125) = false := by simp; exact fun h => hcl ⟨lq, h⟩
      clear hcl hsk
      go_wp2_with fail
      go_meet
      case rel => exact ⟨rfl, rfl⟩
    · clear hcl hsk
      go_wp2_with fail
      go_meet
      case rel => exact ⟨rfl, rfl⟩
  case rest =>
  obtain ⟨rfl, rfl⟩ := hcut
  clear hcl hsk
  go_wp2_with fail
  go_loopw [1] (fun t wr => ∃ q : Nat, p < q ∧ q ≤ n ∧ t = .int .i64 q ∧ Below w.heap.size w wr ∧ Hid (R = Pl.mdl d n 2 q dep)) (fun t _ => n - (intOf t).toNat)
  case atStart => exact ⟨q, by omega, by omega, rfl, Below.refl _ _, HQ⟩
  case round =>
    clear HQ hw
    obtain ⟨q, hpq, hqn, rfl, hbr, HR⟩ := hrel
    have hLr := hL.below hbr
    by_cases lq : q < n
    · have cq := hLr.1 q lq
      by_cases h34 : d q = 34
      · have n34 : (d q != 34) = false := by simp [h34]
        have hstr := zzStringModel_any b off n cp d q wr lq hn hLr.1
        rcases Pl.str_range d n (q + 1) with es | ⟨s, es, s1, s2, _⟩
        · -- no key
          have HQ : Hid (R = -1) := HR.out.trans (Pl.mdl2_nostr lq h34 es)
          rw [es] at hstr
          clear HR h34
          go_wp2_with (go_at_call 19; refine hstr.mono ?_; rintro e w' ⟨rfl, rfl⟩)
          go_ret
          exact ret_b HQ.out.symm hbr
        rw [es] at hstr
        have hws := Pl.ws_range (d := d) s2
        have hsk := zzSkip_at (cp := cp) (v := (s : Int)) s hLr.1 rfl s2 hn
        have E1 : Hid ((n ≤ Pl.ws d n s ∨ d (Pl.ws d n s) ≠ 58) → R = -1) := fun h => HR.out.trans (Pl.mdl2_nocol lq h34 es h)
        have E2 : Hid (¬ (n ≤ Pl.ws d n s ∨ d (Pl.ws d n s) ≠ 58) → Pl.mdl d n 0 (Pl.ws d n (Pl.ws d n s + 1)) dep = -1 → R = -1) := fun h h2 => HR.out.trans (Pl.mdl2_noval lq h34 es h h2)
        have E3 : Hid (∀ g : Nat, ¬ (n ≤ Pl.ws d n s ∨ d (Pl.ws d n s) ≠ 58) → Pl.mdl d n 0 (Pl.ws d n (Pl.ws d n s + 1)) dep = (g : Int) → R = if n ≤ Pl.ws d n g then -1 else if d (Pl.ws d n g) = 125 then ((Pl.ws d n g + 1 : Nat) : Int) else if d (Pl.ws d n g) ≠ 44 then -1 else Pl.mdl d n 2 (Pl.ws d n (Pl.ws d n g + 1)) dep) := fun g h h2 => HR.out.trans (Pl.mdl2_pos lq h34 es h h2)
        clear es HR h34
        generalize Pl.ws d n s = r1 at *
        by_cases lr1 : n ≤ r1
        · have HQ : Hid (R = -1) := E1.out (.inl lr1)
          clear E1 E2 E3
          go_wp2_with (first | (go_at_call 19; refine hstr.mono ?_; rintro e w' ⟨rfl, rfl⟩) | (go_at_call 27; refine hsk.mono ?_; rintro e w' ⟨rfl, rfl⟩))
          go_ret
          exact ret_b HQ.out.symm hbr
        have lr1' : r1 < n := by omega
        have cr1 := hLr.1 r1 lr1'
        by_cases h58 : d r1 = 58
        · have n58 : (d r1 != 58) = false := by simp [h58]
          have hcol : ¬ (n ≤ r1 ∨ d r1 ≠ 58) := by omega
          have hw1 := Pl.ws_range (d := d) (show r1 + 1 ≤ n by omega)
          have hsk1 := zzSkip_at (cp := cp) (v := (r1 : Int) + 1) (r1 + 1) hLr.1 (by omega) (by omega) hn
          generalize Pl.ws d n (r1 + 1) = q1 at *
          have hval := hV q1 (by omega) hw1.2 dep wr (by omega) hLr
          have hrng := Pl.mdl_range d n 0 q1 dep hw1.2
          have E2 : Hid (Pl.mdl d n 0 q1 dep = -1 → R = -1) := E2.out hcol
          have E3 : Hid (∀ g : Nat, Pl.mdl d n 0 q1 dep = (g : Int) → R = if n ≤ Pl.ws d n g then -1 else if d (Pl.ws d n g) = 125 then ((Pl.ws d n g + 1 : Nat) : Int) else if d (Pl.ws d n g) ≠ 44 then -1 else Pl.mdl d n 2 (Pl.ws d n (Pl.ws d n g + 1)) dep) := fun g => E3.out g hcol
          clear E1 h58 hcol lr1
          go_wp2_with fail
          refine hstr.mono ?_
          rintro e w' ⟨rfl, rfl⟩
          go_wp2_with fail
          refine hsk.mono ?_
          rintro e w' ⟨rfl, rfl⟩
          go_wp2_with fail
          refine hsk1.mono ?_
          rintro e w' ⟨rfl, rfl⟩
          go_wp2_with fail
          refine hval.mono ?_
          rintro e w1 ⟨rfl, hb1⟩
          have hL1 := hLr.below hb1
          have hb : Below w.heap.size w w1 := hbr.trans (hb1.mono hbr.size)
          clear hstr hsk hsk1 hval hb1 hLr hbr cq cr1 n34 n58
          rcases hrng with e0 | ⟨g, e0, g1, g2⟩
          · have HQ : Hid (R = -1) := E2.out e0
            rw [e0]
            clear e0 E2 E3
            go_wp2_with fail
            go_ret
            exact ret_b HQ.out.symm hb
          have hE := E3.out g e0
          rw [e0]
          have hwg := Pl.ws_range (d := d) g2
          have hsk := zzSkip_at (cp := cp) (v := (g : Int)) g hL1.1 rfl g2 hn
          clear e0 E2 E3
          generalize Pl.ws d n g = r at *
          by_cases hr : n ≤ r
          · have HQ : Hid (R = -1) := by show _ = _; rw [hE, if_pos hr]
            clear hE
            go_wp2_with (go_at_call 27; refine hsk.mono ?_; rintro e w' ⟨rfl, rfl⟩)
            go_ret
            exact ret_b HQ.out.symm hb
          have lr : r < n := by omega
          have cr := hL1.1 r lr
          rw [if_neg hr] at hE
          by_cases h125 : d r = 125
          · have HQ : Hid (R = ((r + 1 : Nat) : Int)) := by show _ = _; rw [hE, if_pos h125]
            have g125 : (d r == 125) = true := by simp [h125]
            clear hE h125
            go_wp2_with (go_at_call 27; refine hsk.mono ?_; rintro e w' ⟨rfl, rfl⟩)
            go_ret
            exact ret_b (by rw [HQ.out]; omega) hb
          have g125 : (d r == 125) = false := by simp [h125]
          rw [if_neg h125] at hE
          by_cases h44 : d r = 44
          · have g44 : (d r != 44) = false := by simp [h44]
            have HQ : Hid (R = Pl.mdl d n 2 (Pl.ws d n (r + 1)) dep) := by show _ = _; rw [hE, if_neg (by simp [h44])]
            have hw2 := Pl.ws_range (d := d) (show r + 1 ≤ n by omega)
            have hsk2 := zzSkip_at (cp := cp) (v := (r : Int) + 1) (r + 1) hL1.1 (by omega) (by omega) hn
            generalize Pl.ws d n (r + 1) = q2 at *
            clear hE h125 h44
            go_wp2_with fail
            refine hsk.mono ?_
            rintro e w' ⟨rfl, rfl⟩
            go_wp2_with fail
            refine hsk2.mono ?_
            rintro e w' ⟨rfl, rfl⟩
            go_wp2_with fail
            go_roundw
            case rel => exact ⟨q2, by omega, by omega, rfl, hb, HQ⟩
            case measure => simp [intOf]; omega
          · have g44 : (d r != 44) = true := by simp [h44]
            have HQ : Hid (R = -1) := by show _ = _; rw [hE, if_pos h44]
            clear hE h125 h44
            go_wp2_with (go_at_call 27; refine hsk.mono ?_; rintro e w' ⟨rfl, rfl⟩)
            go_ret
            exact ret_b HQ.out.symm hb
        · -- no colon
          have n58 : (d r1 != 58) = true := by simp [h58]
          have HQ : Hid (R = -1) := E1.out (.inr h58)
          clear E1 E2 E3 h58
          go_wp2_with (first | (go_at_call 19; refine hstr.mono ?_; rintro e w' ⟨rfl, rfl⟩) | (go_at_call 27; refine hsk.mono ?_; rintro e w' ⟨rfl, rfl⟩))
          go_ret
          exact ret_b HQ.out.symm hbr
      · have n34 : (d q != 34) = true := by simp [h34]
        have HQ : Hid (R = -1) := HR.out.trans (Pl.mdl2_noq hqn (.inr h34))
        clear HR h34
        go_wp2_with fail
        go_ret
        exact ret_b HQ.out.symm hbr
    · have HQ : Hid (R = -1) := HR.out.trans (Pl.mdl2_noq hqn (.inl (by omega)))
      clear HR
      go_wp2_with fail
      go_ret
      exact ret_b HQ.out.symm hbr

end Go.Proofs.Qxb6602097a
