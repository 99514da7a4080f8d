/-
  bytes.Equal, bytes.HasPrefix (after the shelf's templates), scanLiteral.
-/
import Derived.Test.Qxb6602097aModelArr
import Derived.Lib.Strings
import Derived.Lib.Slices
import Derived.Lib.Walk
import Derived.Lib.Bytes
import Derived.Lib.ConvBytes
namespace Go.Proofs.Qxb6602097a
open Go.RowKit

set_option maxHeartbeats 1000000 in
theorem bytes_Equal (v1 v2 : Value) (xs ys : List Int) (w : World)
    (h1 : (convert 22 9 v1).run Try.prog w = .ok (.string (strOfNums xs)) w) (h2 : (convert 22 9 v2).run Try.prog w = .ok (.string (strOfNums ys)) w) :
    Calls Try.prog 46 #[v1, v2] w fun e w' => e = .returned (.bool (Lib.bytesOf xs == Lib.bytesOf ys)) ∧ w = w' := by
  rw [← Lib.strOfNums_toList, ← Lib.strOfNums_toList]
  go_enter Try.func46, Try.ntmps46
  go_wp2
  go_ret
  exact ⟨rfl, rfl⟩

set_option maxHeartbeats 1000000 in
theorem bytes_HasPrefix (b1 o1 n c b2 o2 m d : Nat) (xs ys : List Int) (w : World) (hx : xs.length = n) (hy : ys.length = m) (hnc : n ≤ c)
    (hc1 : ∀ i, i < n → w.cell? ⟨b1, o1 + i, none⟩ = some (.int .u8 (xs.getD i 0))) (hc2 : ∀ i, i < m → w.cell? ⟨b2, o2 + i, none⟩ = some (.int .u8 (ys.getD i 0))) :
    Calls Try.prog 45 #[.slice (some ⟨b1, o1, none⟩) n c, .slice (some ⟨b2, o2, none⟩) m d] w fun e w' => e = .returned (.bool (decide (m ≤ n) && (Lib.bytesOf (xs.take m) == Lib.bytesOf ys))) ∧ w = w' := by
  have g2 := run_convert_bytes_arg (P := Try.prog) w 22 5 Try.underlying22 Try.underlying5 b2 o2 m d ys hy hc2 9 Try.underlying9
  have g1 : m ≤ n → (convert 22 9 (.slice (some ⟨b1, o1, none⟩) m c)).run Try.prog w = .ok (.string (strOfNums (xs.take m))) w := fun h =>
    run_convert_bytes_arg (P := Try.prog) w 22 5 Try.underlying22 Try.underlying5 b1 o1 m c (xs.take m) (by simp; omega) (fun i hi => by rw [Lib.getD_take _ _ _ hi]; exact hc1 i (by omega)) 9 Try.underlying9
  go_enter Try.func45, Try.ntmps45
  go_wp2_with (go_at_call 46; refine (bytes_Equal _ _ (xs.take m) ys _ (g1 (by assumption)) g2).mono ?_; rintro e w' ⟨rfl, rfl⟩)
  · have h : m ≤ n := by assumption
    go_ret
    refine ⟨?_, rfl⟩
    rw [decide_eq_true h, Bool.true_and]
    rfl
  · have h : ¬ m ≤ n := by assumption
    go_ret
    refine ⟨?_, rfl⟩
    rw [decide_eq_false h, Bool.false_and]
    rfl

/-- The text from i on, as numbers. -/
def numsFrom (d : Nat → Int) (n i : Nat) : List Int := (List.range (n - i)).map fun k => d (i + k)
theorem length_numsFrom (d : Nat → Int) (n i : Nat) : (numsFrom d n i).length = n - i := by simp [numsFrom]
theorem get_numsFrom (d : Nat → Int) (n i k : Nat) (h : k < n - i) : (numsFrom d n i).getD k 0 = d (i + k) := by
  unfold numsFrom
  rw [List.getD_eq_getElem?_getD, List.getElem?_map, List.getElem?_range h]
  rfl

theorem byte_inj {a b : Int} (ha : 0 ≤ a ∧ a ≤ 255) (hb : 0 ≤ b ∧ b ≤ 255) (h : UInt8.ofNat a.toNat = UInt8.ofNat b.toNat) : a = b := by
  have h1 := congrArg UInt8.toNat h
  simp only [UInt8.toNat_ofNat'] at h1
  omega

theorem bytesOf_inj {xs ys : List Int} (hx : ∀ k, k < xs.length → 0 ≤ xs.getD k 0 ∧ xs.getD k 0 ≤ 255) (hy : ∀ k, k < ys.length → 0 ≤ ys.getD k 0 ∧ ys.getD k 0 ≤ 255) (h : Lib.bytesOf xs = Lib.bytesOf ys) : xs.length = ys.length ∧ ∀ k, k < xs.length → xs.getD k 0 = ys.getD k 0 := by
  have hl : xs.length = ys.length := by have := congrArg List.length h; rwa [Lib.bytesOf_length, Lib.bytesOf_length] at this
  refine ⟨hl, fun k hk => ?_⟩
  have hk2 : k < ys.length := by omega
  have e := congrArg (fun l => l[k]?) h
  simp only [Lib.bytesOf, List.getElem?_map, List.getElem?_eq_getElem hk, List.getElem?_eq_getElem hk2, Option.map_some, Option.some.injEq] at e
  have a := hx k hk
  have b := hy k hk2
  rw [List.getD_eq_getElem?_getD, List.getElem?_eq_getElem hk, Option.getD_some] at a ⊢
  rw [List.getD_eq_getElem?_getD, List.getElem?_eq_getElem hk2, Option.getD_some] at b ⊢
  exact byte_inj a b e

theorem prefix_lit (d : Nat → Int) (n i : Nat) (ys : List Int) (hi : i ≤ n) (hd : ∀ k, 0 ≤ d k ∧ d k ≤ 255) (hy : ∀ k, k < ys.length → 0 ≤ ys.getD k 0 ∧ ys.getD k 0 ≤ 255) :
    (decide (ys.length ≤ n - i) && (Lib.bytesOf ((numsFrom d n i).take ys.length) == Lib.bytesOf ys)) = Pl.litB d n i ys := by
  unfold Pl.litB
  by_cases h : ys.length ≤ n - i
  · have e1 : decide (ys.length ≤ n - i) = true := decide_eq_true h
    have e2 : decide (i + ys.length ≤ n) = true := decide_eq_true (by omega)
    rw [e1, e2, Bool.true_and, Bool.true_and, Bool.eq_iff_iff, beq_iff_eq, List.all_eq_true]
    have hget : ∀ k, k < ys.length → ((numsFrom d n i).take ys.length).getD k 0 = d (i + k) := fun k hk => by rw [Lib.getD_take _ _ _ hk]; exact get_numsFrom d n i k (by omega)
    have hlen : ((numsFrom d n i).take ys.length).length = ys.length := by rw [List.length_take, length_numsFrom]; omega
    constructor
    · intro hb k hk
      simp at hk
      have := (bytesOf_inj (fun k hk => by rw [hget k (by omega)]; exact hd _) hy hb).2 k (by omega)
      rw [hget k hk] at this
      simp [this]
    · intro ha
      congr 1
      apply List.ext_getElem? 
      intro k
      by_cases hk : k < ys.length
      · have h1 := hget k hk
        have h2 := ha k (by simp [hk])
        rw [beq_iff_eq] at h2
        rw [List.getD_eq_getElem?_getD, List.getElem?_eq_getElem (by omega), Option.getD_some] at h1
        rw [List.getD_eq_getElem?_getD, List.getElem?_eq_getElem hk, Option.getD_some] at h2
        rw [List.getElem?_eq_getElem (by omega), List.getElem?_eq_getElem hk, h1, h2]
      · rw [List.getElem?_eq_none (by omega), List.getElem?_eq_none (by omega)]
  · rw [decide_eq_false h, decide_eq_false (show ¬ i + ys.length ≤ n by omega), Bool.false_and, Bool.false_and]

theorem numsOf_range (s : ByteArray) : ∀ k, k < (numsOf s).length → 0 ≤ (numsOf s).getD k 0 ∧ (numsOf s).getD k 0 ≤ 255 := by
  intro k hk
  rw [length_numsOf] at hk
  rw [get_numsOf s k hk]
  have := s[k].toNat_lt
  omega

theorem below_bytesWorld (w : World) (e : TypeId) (s : ByteArray) : Below w.heap.size w (Lib.bytesWorld w e s) :=
  ⟨rfl, rfl, rfl, by rw [Lib.bytesWorld_size]; omega, fun k hk => Lib.bytesWorld_at_old w e s k hk⟩

theorem cell_bytesWorld (w : World) (e : TypeId) (s : ByteArray) (j : Nat) (hj : j < s.size) : (Lib.bytesWorld w e s).cell? ⟨w.heap.size, 0 + j, none⟩ = some (.int .u8 ((numsOf s).getD j 0)) := by
  rw [Nat.zero_add, Lib.bytesWorld_cell w e s j hj, get_numsOf s j hj]
  rw [List.getD_eq_getElem?_getD, List.getElem?_eq_getElem (by simpa using hj)]
  rfl

set_option maxHeartbeats 1000000 in
theorem scanLiteral_at (b off n : Nat) (d : Nat → Int) (i : Nat) (w : World) (s : ByteArray) (hi : i < n) (hn : n ≤ 1048576) (hs : s.size ≤ 5) (hL : Live w b off n d) (hd : ∀ k, 0 ≤ d k ∧ d k ≤ 255) :
    Calls Try.prog 36 #[.slice (some ⟨b, off, none⟩) n n, .int .i64 i, .string s] w fun e w' => e = .returned (.int .i64 (Pl.lit d n i (numsOf s))) ∧ Below w.heap.size w w' := by
  have hconv := Lib.run_convert_string_bytes (P := Try.prog) w 9 22 5 s Try.underlying9 Try.underlying22 Try.underlying5
  have hbw := below_bytesWorld w 5 s
  have hcell := fun j hj => cell_bytesWorld w 5 s j hj
  have hL1 := hL.below hbw
  generalize Lib.bytesWorld w 5 s = W at *
  generalize grownCap w s.size 0 5 = C at *
  have hpre := bytes_HasPrefix b (off + i) (n - i) (n - i) w.heap.size 0 s.size C (numsFrom d n i) (numsOf s) W (length_numsFrom d n i) (length_numsOf s) (Nat.le_refl _)
    (fun k hk => by
      have := hL1.1 (i + k) (by omega)
      rw [get_numsFrom d n i k hk, show off + i + k = off + (i + k) by omega]; exact this) hcell
  have hB := prefix_lit d n i (numsOf s) (by omega) hd (numsOf_range s)
  rw [length_numsOf] at hB
  rw [hB] at hpre
  have HQ : Hid (Pl.lit d n i (numsOf s) = if Pl.litB d n i (numsOf s) = true then ((i + s.size : Nat) : Int) else -1) := by show _ = _; unfold Pl.lit; rw [length_numsOf]
  obtain ⟨R, hR⟩ : ∃ R, R = Pl.lit d n i (numsOf s) := ⟨_, rfl⟩
  rw [← hR]
  have HQ : Hid (R = if Pl.litB d n i (numsOf s) = true then ((i + s.size : Nat) : Int) else -1) := by show _ = _; rw [hR]; exact HQ.out
  clear hR hB hcell
  generalize Pl.litB d n i (numsOf s) = B at *
  cases B with
  | true =>
    have HQ : Hid (R = ((i + s.size : Nat) : Int)) := HQ.out
    go_enter Try.func36, Try.ntmps36
    go_wp2_with (go_at_call 45; refine hpre.mono ?_; rintro e w' ⟨rfl, rfl⟩)
    go_ret
    exact ret_b (by rw [HQ.out]; simp) hbw
  | false =>
    have HQ : Hid (R = -1) := HQ.out
    go_enter Try.func36, Try.ntmps36
    go_wp2_with (go_at_call 45; refine hpre.mono ?_; rintro e w' ⟨rfl, rfl⟩)
    go_ret
    exact ret_b HQ.out.symm hbw

end Go.Proofs.Qxb6602097a
