import Derived.Test.YbulkecdwDoorHalf
namespace Go.Proofs.YbulkecdwDoor
open Ieee

def twoOk (d : Nat) : Bool := match double.read (floatOfInt .f64 ((2 ^ (d + 1) : Nat) : Int)) with
  | .number s m e => !s && decide (m = 2 ^ 52) && decide (e = (d : Int) - 51)
  | _ => false
theorem twoOk_all : ∀ d, d < 21 → twoOk d = true := by decide +kernel
theorem two_at (d : Nat) (hd : d < 21) : double.read (floatOfInt .f64 ((2 ^ (d + 1) : Nat) : Int)) = .number false (2 ^ 52) ((d : Int) - 51) := by
  have h := twoOk_all d hd
  unfold twoOk at h
  split at h
  · rename_i s m e he
    simp only [Bool.and_eq_true, Bool.not_eq_true', decide_eq_true_eq] at h
    obtain ⟨⟨rfl, rfl⟩, rfl⟩ := h
    exact he
  · cases h

/-- The word of an odd number over 2^(d+1). -/
theorem hit_word (s : Bool) (N d : Nat) (hN : 0 < N) (h53 : N < 2 ^ 53) (hd : d < 21) :
    ∃ (v M : Nat) (E : Int) (t : Nat), double.div (floatOfInt .f64 (sg s N)) (floatOfInt .f64 ((2 ^ (d + 1) : Nat) : Int)) = some v ∧ double.read v = .number s M E ∧ M = N * 2 ^ t ∧ E + t + 1 + d = 0 := by
  obtain ⟨L, hL⟩ : ∃ L : Int, L ≤ -1200 := ⟨-1200, by omega⟩
  obtain ⟨k, j, h1, h2, h3, h4⟩ := int_word hL s N hN h53
  obtain ⟨hk53, _, _⟩ := read_bounds h1
  have hlog : (2 ^ 52 : Nat).log2 = 52 := by decide +kernel
  have hdiv : double.div (floatOfInt .f64 (sg s N)) (floatOfInt .f64 ((2 ^ (d + 1) : Nat) : Int)) = some (double.nearest s (k * 2 ^ (54 + 52 - k.log2 - 51)) (j - ((d : Int) - 51) - ((54 + 52 - k.log2 : Nat) : Int) - 1)) := by
    unfold Format.div
    rw [h1, two_at d hd]
    have hk : k.log2 ≤ 52 := by
      have hk0 : k ≠ 0 := by
        rintro rfl
        have := Nat.mul_pos hN (pow_pos2 (-L).toNat)
        omega
      have := (Nat.log2_lt hk0).2 hk53
      omega
    simp only [Datum.quotient]
    rw [if_neg (by decide)]
    simp only [hlog, double_frac, Nat.shiftLeft_eq]
    have e1 : k * 2 ^ (52 + 2 + 52 - k.log2) = k * 2 ^ (52 + 2 + 52 - k.log2 - 52) * 2 ^ 52 := by
      rw [Nat.mul_assoc, ← Nat.pow_add]
      congr 2
      omega
    have e2 : k * 2 ^ (52 + 2 + 52 - k.log2) / 2 ^ 52 = k * 2 ^ (52 + 2 + 52 - k.log2 - 52) := by
      rw [e1]; exact Nat.mul_div_cancel _ (pow_pos2 52)
    have e3 : k * 2 ^ (52 + 2 + 52 - k.log2) % 2 ^ 52 = 0 := by
      rw [e1]; exact Nat.mul_mod_left _ _
    rw [e2, e3]
    have e4 : 2 * (k * 2 ^ (52 + 2 + 52 - k.log2 - 52)) = k * 2 ^ (54 + 52 - k.log2 - 51) := by
      rw [show 54 + 52 - k.log2 - 51 = (52 + 2 + 52 - k.log2 - 52) + 1 by omega, Nat.pow_succ]
      simp only [Nat.mul_comm, Nat.mul_left_comm]
    show some (double.nearest _ _ _) = _
    simp only [Bool.xor_false, bne_self_eq_false, Bool.toNat_false, Nat.add_zero]
    rw [e4]
  have hk : k.log2 ≤ 52 := by
    have hk0 : k ≠ 0 := by
      rintro rfl
      have := Nat.mul_pos hN (pow_pos2 (-L).toNat)
      omega
    have := (Nat.log2_lt hk0).2 hk53
    omega
  obtain ⟨M, E, g1, g2, g3, g4, g5, g6⟩ := near_rep s (k * 2 ^ (54 + 52 - k.log2 - 51)) (j - ((d : Int) - 51) - ((54 + 52 - k.log2 : Nat) : Int) - 1) (L - 200) N (-(d : Int) - 1) hN h53 (by omega) (by omega) (by omega) (by omega) (by
    rw [Nat.mul_assoc, ← Nat.pow_add]
    have e1 : 54 + 52 - k.log2 - 51 + (j - ((d : Int) - 51) - ((54 + 52 - k.log2 : Nat) : Int) - 1 - (L - 200)).toNat = (j - L).toNat + (199 - d) := by omega
    have e2 : (-(d : Int) - 1 - (L - 200)).toNat = (-L).toNat + (199 - d) := by omega
    rw [e1, e2, Nat.pow_add, Nat.pow_add, ← Nat.mul_assoc, ← Nat.mul_assoc, h4])
  have g6 := g6 (by omega)
  refine ⟨_, M, E, (-(d : Int) - 1 - E).toNat, hdiv, g1, ?_, by omega⟩
  have e2 : (-(d : Int) - 1 - (L - 200)).toNat = (-(d : Int) - 1 - E).toNat + (E - (L - 200)).toNat := by omega
  rw [e2, Nat.pow_add, ← Nat.mul_assoc] at g6
  exact Nat.eq_of_mul_eq_mul_right (pow_pos2 _) g6

theorem pow5_mono (N : Nat) {i d : Nat} (h : i ≤ d) : N * 5 ^ i ≤ N * 5 ^ d := Nat.mul_le_mul_left _ (Nat.pow_le_pow_right (by omega) h)
end Go.Proofs.YbulkecdwDoor
