import Derived.Test.YbulkechqRep
namespace Go.Proofs.Ybulkechq
open Ieee
set_option linter.unusedVariables false

/-- q is n over G, to the nearest, ties to even. -/
def RNE (n G q : Nat) : Prop := 2 * n ≤ 2 * (q * G) + G ∧ 2 * (q * G) ≤ 2 * n + G ∧ (2 * n = 2 * (q * G) + G → q % 2 = 0) ∧ (2 * (q * G) = 2 * n + G → q % 2 = 0)

theorem RNE.lt_false {n G q q' : Nat} (hG : 0 < G) (h : RNE n G q) (h' : RNE n G q') (hlt : q < q') : False := by
  obtain ⟨a1, a2, a3, a4⟩ := h
  obtain ⟨b1, b2, b3, b4⟩ := h'
  have hle : (q + 1) * G ≤ q' * G := Nat.mul_le_mul_right _ hlt
  rw [Nat.add_mul, Nat.one_mul] at hle
  have e1 : 2 * n = 2 * (q * G) + G := by omega
  have e2 : 2 * (q' * G) = 2 * n + G := by omega
  have e3 : q' * G = (q + 1) * G := by rw [Nat.add_mul, Nat.one_mul]; omega
  have e4 := Nat.eq_of_mul_eq_mul_right hG e3
  have := a3 e1
  have := b4 e2
  omega
theorem RNE.unique {n G q q' : Nat} (hG : 0 < G) (h : RNE n G q) (h' : RNE n G q') : q = q' := by
  rcases Nat.lt_trichotomy q q' with hlt | h0 | hlt
  · exact (RNE.lt_false hG h h' hlt).elim
  · exact h0
  · exact (RNE.lt_false hG h' h hlt).elim

theorem cut_neg (s t : Bool) (n d : Nat) : Toward.even.cut s n d = Toward.even.cut t n d := rfl

theorem cut_rne (s : Bool) (n d : Nat) (hd : 0 < d) : RNE n (2 ^ d) (Toward.even.cut s n d) := by
  have hp := pow_pos2 d
  by_cases hle : d ≤ n.log2 + 2
  · unfold Toward.cut
    simp only [Nat.min_eq_left hle, Nat.shiftLeft_eq, Nat.one_mul]
    have hdm := Nat.div_add_mod n (2 ^ d)
    have hm := Nat.mod_lt n hp
    rw [Nat.mul_comm] at hdm
    generalize n / 2 ^ d = low at *
    generalize n % 2 ^ d = rest at *
    generalize 2 ^ d = G at *
    unfold RNE
    by_cases h1 : G < 2 * rest
    · have e : (decide (G < 2 * rest) || (G == 2 * rest && low % 2 == 1)) = true := by simp [h1]
      rw [e]
      simp only [Bool.toNat_true, Nat.add_mul, Nat.one_mul]
      refine ⟨by omega, by omega, fun h => by omega, fun h => by omega⟩
    · by_cases h2 : G = 2 * rest
      · by_cases h3 : low % 2 = 1
        · have e : (decide (G < 2 * rest) || (G == 2 * rest && low % 2 == 1)) = true := by simp [h2, h3]
          rw [e]
          simp only [Bool.toNat_true, Nat.add_mul, Nat.one_mul]
          refine ⟨by omega, by omega, fun h => by omega, fun h => by omega⟩
        · have e : (decide (G < 2 * rest) || (G == 2 * rest && low % 2 == 1)) = false := by simp [h2]; omega
          rw [e]
          simp only [Bool.toNat_false, Nat.add_zero]
          refine ⟨by omega, by omega, fun h => by omega, fun h => by omega⟩
      · have e : (decide (G < 2 * rest) || (G == 2 * rest && low % 2 == 1)) = false := by simp [h1, h2]
        rw [e]
        simp only [Bool.toNat_false, Nat.add_zero]
        refine ⟨by omega, by omega, fun h => by omega, fun h => by omega⟩
  · have hhi := Nat.lt_log2_self (n := n)
    have hG : 2 ^ (n.log2 + 2) ≤ 2 ^ d := Nat.pow_le_pow_right (by omega) (by omega)
    rw [show n.log2 + 2 = n.log2 + 1 + 1 by omega, Nat.pow_succ] at hG
    have e : Toward.even.cut s n d = 0 := by
      unfold Toward.cut
      simp only [Nat.min_eq_right (show n.log2 + 2 ≤ d by omega), Nat.shiftLeft_eq, Nat.one_mul]
      have hg : n < 2 ^ (n.log2 + 2) := by rw [show n.log2 + 2 = n.log2 + 1 + 1 by omega, Nat.pow_succ]; omega
      rw [Nat.div_eq_of_lt hg, Nat.mod_eq_of_lt hg]
      have e1 : ¬ 2 ^ (n.log2 + 2) < 2 * n := by rw [show n.log2 + 2 = n.log2 + 1 + 1 by omega, Nat.pow_succ]; omega
      simp [e1]
    rw [e]
    unfold RNE
    simp only [Nat.zero_mul, Nat.mul_zero, Nat.zero_add]
    refine ⟨by omega, by omega, fun h => by omega, fun h => by omega⟩

theorem mult_gap {U a b : Nat} (h : U * a < U * b) : U * a + U ≤ U * b := by
  have h1 : a < b := Nat.lt_of_mul_lt_mul_left h
  have := Nat.mul_le_mul_left U (show a + 1 ≤ b from h1)
  rw [Nat.mul_add, Nat.mul_one] at this
  exact this

/-- The second rounding, mended by the sign of what the first one left. -/
theorem fix_up {n H U K h c A : Nat} (hU : 0 < U) (hH : H = U * K) (hh : h = U * c) (hc : 0 < c) (e1 : 2 * n ≤ 2 * H + U) (e2 : 2 * H ≤ 2 * n + U) (hA : RNE H (2 * h) A) (ht : H = 2 * (A * h) + h) (hn : H < n) : RNE n (2 * h) (A + 1) := by
  have hUh : U ≤ h := by rw [hh]; exact Nat.le_mul_of_pos_right _ hc
  have eX : (A + 1) * (2 * h) = 2 * (A * h) + 2 * h := by rw [Nat.add_mul, Nat.one_mul, Nat.mul_left_comm]
  unfold RNE
  rw [eX]
  refine ⟨by omega, by omega, fun h => by omega, fun h => by omega⟩
theorem fix_down {n H U K h c A : Nat} (hU : 0 < U) (hH : H = U * K) (hh : h = U * c) (hc : 0 < c) (e1 : 2 * n ≤ 2 * H + U) (e2 : 2 * H ≤ 2 * n + U) (hA : RNE H (2 * h) A) (ht : H + h = 2 * (A * h)) (hn : n < H) : 0 < A ∧ RNE n (2 * h) (A - 1) := by
  have hUh : U ≤ h := by rw [hh]; exact Nat.le_mul_of_pos_right _ hc
  have hA0 : 0 < A := by
    rcases Nat.eq_zero_or_pos A with h0 | h0
    · subst h0; rw [Nat.zero_mul] at ht; omega
    · exact h0
  refine ⟨hA0, ?_⟩
  obtain ⟨B, rfl⟩ : ∃ B, A = B + 1 := ⟨A - 1, by omega⟩
  rw [Nat.add_sub_cancel]
  rw [Nat.add_mul, Nat.one_mul] at ht
  have eX : B * (2 * h) = 2 * (B * h) := by rw [Nat.mul_left_comm]
  unfold RNE
  rw [eX]
  refine ⟨by omega, by omega, fun h => by omega, fun h => by omega⟩
theorem fix_same {n H U K h c A : Nat} (hU : 0 < U) (hH : H = U * K) (hh : h = U * c) (hc : 0 < c) (e1 : 2 * n ≤ 2 * H + U) (e2 : 2 * H ≤ 2 * n + U) (hA : RNE H (2 * h) A)
    (h1 : H = 2 * (A * h) + h → n ≤ H) (h2 : H + h = 2 * (A * h) → H ≤ n) : RNE n (2 * h) A := by
  have hUh : U ≤ h := by rw [hh]; exact Nat.le_mul_of_pos_right _ hc
  have eX : A * (2 * h) = 2 * (A * h) := by rw [Nat.mul_left_comm]
  obtain ⟨a1, a2, a3, a4⟩ := hA
  rw [eX] at a1 a2 a3 a4
  have eM : 2 * (A * h) + h = U * (2 * (A * c) + c) := by
    rw [hh, Nat.mul_add]; congr 1; rw [Nat.mul_left_comm A U c, Nat.mul_left_comm 2 U]
  have eN : 2 * (A * h) = U * (2 * (A * c)) := by
    rw [hh, Nat.mul_left_comm A U c, Nat.mul_left_comm 2 U]
  have eP : H + h = U * (K + c) := by rw [hH, hh, Nat.mul_add]
  have up : H = 2 * (A * h) + h ∨ H + U ≤ 2 * (A * h) + h := by
    rcases Nat.lt_or_ge H (2 * (A * h) + h) with hl | hl
    · right; rw [eM, hH]; apply mult_gap; rw [← eM, ← hH]; exact hl
    · left; omega
  have dn : H + h = 2 * (A * h) ∨ 2 * (A * h) + U ≤ H + h := by
    rcases Nat.lt_or_ge (2 * (A * h)) (H + h) with hl | hl
    · right; rw [eN, eP]; apply mult_gap; rw [← eN, ← eP]; exact hl
    · left; omega
  unfold RNE
  rw [eX]
  rcases up with u1 | u1
  · have := h1 u1
    rcases dn with d1 | d1
    · have := h2 d1
      refine ⟨by omega, by omega, fun h => a3 (by omega), fun h => a4 (by omega)⟩
    · refine ⟨by omega, by omega, fun h => a3 (by omega), fun h => by omega⟩
  · rcases dn with d1 | d1
    · have := h2 d1
      refine ⟨by omega, by omega, fun h => by omega, fun h => a4 (by omega)⟩
    · refine ⟨by omega, by omega, fun h => by omega, fun h => by omega⟩
end Go.Proofs.Ybulkechq
