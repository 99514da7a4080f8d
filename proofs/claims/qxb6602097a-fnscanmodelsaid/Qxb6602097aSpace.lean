/-
  skipSpace, zzSkip, closer, zzLiteral.
-/
import Derived.Test.Qxb6602097aClone
import Derived.Test.Qxb6602097aJson
import Derived.Deep.QuietTactic
import Derived.BigQuiet
namespace Go.Proofs.Qxb6602097a
open Go.RowKit

theorem ret_js {k : IntKind} {a b : Int} {w : World} (h : a = b) : Ending.returned (.int k a) = .returned (.int k b) ∧ w = w := by rw [h]; exact ⟨rfl, rfl⟩

set_option maxHeartbeats 400000 in
theorem skipSpace_at {b off n cp : Nat} {d : Nat → Int} {v : Int} (i : Nat) {w : World} (ht : Txt w b off n d) (hv : v = (i : Int)) (hi : i ≤ n) (hn : n ≤ 1048576) :
    Calls Try.prog 34 #[.slice (some ⟨b, off, none⟩) n cp, .int .i64 v] w fun e w' => e = .returned (.int .i64 (Pl.ws d n i : Nat)) ∧ w = w' := by
  subst hv
  unfold Pl.ws
  go_enter Try.func34, Try.ntmps34
  go_wp2_with fail
  go_loop [1] (fun t => ∃ j : Nat, j ≤ n ∧ t = .int .i64 j ∧ Hid (Pl.skip Pl.spB d n i = Pl.skip Pl.spB d n j)) (fun t => n - (intOf t).toNat)
  case atStart => exact ⟨i, hi, rfl, rfl⟩
  case round =>
    obtain ⟨j, hj, rfl, hR⟩ := hrel
    by_cases hlt : j < n
    · have hcj := ht j hlt
      cases hp : Pl.spB (d j) with
      | true =>
        go_wp2_with (go_at_call 44; refine (isSpace_any _ _).mono ?_; rintro e w' ⟨rfl, hw⟩; obtain rfl := hw.symm)
        go_round
        case rel => exact ⟨j + 1, by omega, by go_num, hR.out.trans (Pl.skip_step _ _ _ _ hlt hp)⟩
        case measure => simp [intOf]; omega
      | false =>
        go_wp2_with (go_at_call 44; refine (isSpace_any _ _).mono ?_; rintro e w' ⟨rfl, hw⟩; obtain rfl := hw.symm)
        go_ret
        exact ret_js (by rw [hR.out, Pl.skip_no _ _ _ _ hp])
    · go_wp2_with fail
      go_ret
      exact ret_js (by rw [hR.out, Pl.skip_end _ _ _ _ (by omega)])

set_option maxHeartbeats 400000 in
theorem zzSkip_at {b off n cp : Nat} {d : Nat → Int} {v : Int} (i : Nat) {w : World} (ht : Txt w b off n d) (hv : v = (i : Int)) (hi : i ≤ n) (hn : n ≤ 1048576) :
    Calls Try.prog 27 #[.slice (some ⟨b, off, none⟩) n cp, .int .i64 v] w fun e w' => e = .returned (.int .i64 (Pl.ws d n i : Nat)) ∧ w = w' := by
  subst hv
  unfold Pl.ws
  go_enter Try.func27, Try.ntmps27
  go_wp2_with fail
  go_loop [1] (fun t => ∃ j : Nat, j ≤ n ∧ t = .int .i64 j ∧ Hid (Pl.skip Pl.spB d n i = Pl.skip Pl.spB d n j)) (fun t => n - (intOf t).toNat)
  case atStart => exact ⟨i, hi, rfl, rfl⟩
  case round =>
    obtain ⟨j, hj, rfl, hR⟩ := hrel
    by_cases hlt : j < n
    · have hcj := ht j hlt
      cases hp : Pl.spB (d j) with
      | true =>
        go_wp2_with (go_at_call 37; refine (zzSpace_any _ _).mono ?_; rintro e w' ⟨rfl, hw⟩; obtain rfl := hw.symm)
        go_round
        case rel => exact ⟨j + 1, by omega, by go_num, hR.out.trans (Pl.skip_step _ _ _ _ hlt hp)⟩
        case measure => simp [intOf]; omega
      | false =>
        go_wp2_with (go_at_call 37; refine (zzSpace_any _ _).mono ?_; rintro e w' ⟨rfl, hw⟩; obtain rfl := hw.symm)
        go_ret
        exact ret_js (by rw [hR.out, Pl.skip_no _ _ _ _ hp])
    · go_wp2_with fail
      go_ret
      exact ret_js (by rw [hR.out, Pl.skip_end _ _ _ _ (by omega)])

theorem closer_at (o : Bool) (w : World) : Calls Try.prog 35 #[.bool o] w fun e w' => e = .returned (.int .u8 (Pl.cls o)) ∧ w = w' := by
  cases o
  all_goals
    go_enter Try.func35, Try.ntmps35
    go_wp2
    go_ret
    exact ⟨rfl, rfl⟩

/-- A string's bytes as numbers. -/
def numsOf (s : ByteArray) : List Int := s.data.toList.map fun x => (x.toNat : Int)
theorem length_numsOf (s : ByteArray) : (numsOf s).length = s.size := by simp [numsOf]
theorem get_numsOf (s : ByteArray) (k : Nat) (h : k < s.size) : (numsOf s).getD k 0 = (s[k].toNat : Int) := by
  unfold numsOf
  rw [List.getD_eq_getElem?_getD, List.getElem?_map, List.getElem?_eq_getElem (by simpa using h)]
  rfl

theorem lit_yes {d : Nat → Int} {n p : Nat} {L : List Int} (h : p + L.length ≤ n) (h2 : ∀ k, k < L.length → d (p + k) = L.getD k 0) : Pl.lit d n p L = ((p + L.length : Nat) : Int) := by
  unfold Pl.lit
  rw [if_pos]
  unfold Pl.litB
  rw [Bool.and_eq_true, List.all_eq_true]
  exact ⟨decide_eq_true h, fun k hk => by simp at hk; simp [h2 k hk]⟩
theorem lit_short {d : Nat → Int} {n p : Nat} {L : List Int} (h : n < p + L.length) : Pl.lit d n p L = -1 := by
  unfold Pl.lit
  rw [if_neg]
  unfold Pl.litB
  simp; omega
theorem lit_no {d : Nat → Int} {n p : Nat} {L : List Int} (k : Nat) (hk : k < L.length) (h2 : d (p + k) ≠ L.getD k 0) : Pl.lit d n p L = -1 := by
  unfold Pl.lit
  rw [if_neg]
  unfold Pl.litB
  intro h
  rw [Bool.and_eq_true, List.all_eq_true] at h
  have := h.2 k (by simp [hk])
  exact h2 (by simpa using this)

set_option maxHeartbeats 1000000 in
theorem zzLiteral_at {b off n cp : Nat} {d : Nat → Int} (p : Nat) {w : World} (s : ByteArray) (ht : Txt w b off n d) (hp : p ≤ n) (hn : n ≤ 1048576) (hs : s.size ≤ 5) :
    Calls Try.prog 40 #[.slice (some ⟨b, off, none⟩) n cp, .int .i64 p, .string s] w fun e w' => e = .returned (.int .i64 (Pl.lit d n p (numsOf s))) ∧ ∃ nq, w' = w.drewN nq := by
  by_cases hl : n < p + s.size
  · have HQ : Hid (Pl.lit d n p (numsOf s) = -1) := lit_short (by rw [length_numsOf]; exact hl)
    go_enter Try.func40, Try.ntmps40
    go_wp2_with fail
    go_ret
    exact ⟨by rw [HQ.out]; rfl, 0, rfl⟩
  · go_enter Try.func40, Try.ntmps40
    go_wp2_with fail
    go_loopw [7] (fun t wr => ∃ k : Nat, k ≤ s.size ∧ t = .int .i64 k ∧ (∃ nq, wr = w.drewN nq) ∧ Hid (∀ r, r < k → d (p + r) = (numsOf s).getD r 0)) (fun t _ => s.size - (intOf t).toNat)
    case atStart => exact ⟨0, by omega, rfl, ⟨0, rfl⟩, fun r hr => by omega⟩
    case round =>
      obtain ⟨k, hk, rfl, ⟨nq, rfl⟩, hR⟩ := hrel
      by_cases hlt : k < s.size
      · have hck : w.cell? ⟨b, off + (p + k), none⟩ = some (.int .u8 (d (p + k))) := ht (p + k) (by omega)
        have b1 : (p : Int) + (k : Int) < (n : Int) := by omega
        have b2 : (k : Int) < (s.size : Int) := by omega
        have hwr : IntKind.i64.wrap ((p : Int) + (k : Int)) = (p : Int) + (k : Int) := IntWalk.i64_in _ (by omega)
        have b0 : (0 : Int) ≤ (p : Int) + (k : Int) := by omega
        have htn : ((p : Int) + (k : Int)).toNat = p + k := by omega
        have hg := get_numsOf s k hlt
        by_cases he : d (p + k) = (s[k].toNat : Int)
        · have ge : (d (p + k) != (s[k].toNat : Int)) = false := by simp [he]
          have HR : Hid (∀ r, r < k + 1 → d (p + r) = (numsOf s).getD r 0) := by
            intro r hr
            by_cases h : r < k
            · exact hR.out r h
            · rw [show r = k by omega, he, hg]
          clear he hg hR
          go_wp2_with fail
          go_quiet (fail)
          go_wp2_with fail
          go_roundw
          case rel => exact ⟨k + 1, by omega, by go_num, ⟨_, by first | rfl | rw [World.drewN_drewN]⟩, HR⟩
          case measure => simp [intOf]; omega
        · have ge : (d (p + k) != (s[k].toNat : Int)) = true := by simp [he]
          have HQ : Hid (Pl.lit d n p (numsOf s) = -1) := lit_no k (by rw [length_numsOf]; exact hlt) (by rw [hg]; exact he)
          clear he hg hR
          go_wp2_with fail
          go_quiet (fail)
          go_wp2_with fail
          go_ret
          exact ⟨by rw [HQ.out]; rfl, _, by first | rfl | rw [World.drewN_drewN]⟩
      · have hks : k = s.size := by omega
        have HQ : Hid (Pl.lit d n p (numsOf s) = ((p + s.size : Nat) : Int)) := by
          have := lit_yes (d := d) (n := n) (p := p) (L := numsOf s) (by rw [length_numsOf]; omega) (by rw [length_numsOf, ← hks]; exact hR.out)
          rw [length_numsOf] at this; exact this
        clear hks hR
        go_wp2_with fail
        go_ret
        exact ⟨by rw [HQ.out]; go_num, _, rfl⟩

end Go.Proofs.Qxb6602097a
