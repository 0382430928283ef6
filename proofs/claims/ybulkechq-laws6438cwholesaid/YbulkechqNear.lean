import Derived.Test.YbulkechqCut
namespace Go.Proofs.Ybulkechq
open Ieee
set_option linter.unusedVariables false

/-- In the normal range: the word by its significand. -/
theorem near_norm (s : Bool) (n : Nat) (p : Int) (hn : 2 ^ 52 ≤ n) (h : -1074 ≤ p + n.log2 - 52) :
    double.nearest s n p = double.word s (min ((p + n.log2 - 52 + 1074).toNat * 2 ^ 52 + Toward.even.cut false n (n.log2 - 52)) (2047 * 2 ^ 52)) := by
  have hl : 52 ≤ n.log2 := (Nat.le_log2 (by omega)).2 hn
  unfold Format.nearest
  rw [if_neg (by omega)]
  simp only [double_frac, double_least, double_binade, double_inf]
  rw [show max (p + (n.log2 : Int) - ((52 : Nat) : Int)) (-1074) = p + (n.log2 : Int) - 52 by omega]
  rw [show (p - (p + (n.log2 : Int) - 52)).toNat = 0 by omega, show (p + (n.log2 : Int) - 52 - p).toNat = n.log2 - 52 by omega, show (p + (n.log2 : Int) - 52 - -1074).toNat = (p + n.log2 - 52 + 1074).toNat by omega]
  rfl

theorem near_can0 (s : Bool) (K : Nat) (j : Int) (h1 : 2 ^ 52 ≤ K) (h2 : K < 2 ^ 53) (hj : -1074 ≤ j) :
    double.nearest s K j = double.word s (min ((j + 1074).toNat * 2 ^ 52 + K) (2047 * 2 ^ 52)) := by
  have hl : K.log2 = 52 := by
    rw [Nat.log2_eq_iff (by omega)]
    omega
  rw [near_norm s _ j h1 (by rw [hl]; omega), hl, Nat.sub_self, cut_zero]
  congr 4
  omega
theorem near_can (s : Bool) (K : Nat) (j : Int) (h1 : 2 ^ 52 ≤ K) (h2 : K ≤ 2 ^ 53) (hj : -1074 ≤ j) :
    double.nearest s K j = double.word s (min ((j + 1074).toNat * 2 ^ 52 + K) (2047 * 2 ^ 52)) := by
  by_cases h53 : K = 2 ^ 53
  · have e0 : K = 2 ^ 52 * 2 ^ 1 := by omega
    have e1 : double.nearest s K j = double.nearest s (2 ^ 52) (j + ((1 : Nat) : Int)) := by rw [e0]; exact near_val_le s (2 ^ 52) j 1
    rw [e1, near_can0 s (2 ^ 52) _ (Nat.le_refl _) (by omega) (by omega)]
    have e2 : (j + ((1 : Nat) : Int) + 1074).toNat * 2 ^ 52 + 2 ^ 52 = (j + 1074).toNat * 2 ^ 52 + K := by omega
    rw [e2]
  · exact near_can0 s K j h1 (by omega) hj

/-- Below the normal range. -/
theorem near_sub (s : Bool) (n : Nat) (p : Int) (hn : 0 < n) (h : p + n.log2 - 52 ≤ -1074) (hp : p ≤ -1074) :
    double.nearest s n p = double.word s (min (Toward.even.cut false n (-1074 - p).toNat) (2047 * 2 ^ 52)) := by
  unfold Format.nearest
  rw [if_neg (by omega)]
  simp only [double_frac, double_least, double_binade, double_inf]
  rw [show max (p + (n.log2 : Int) - ((52 : Nat) : Int)) (-1074) = -1074 by omega]
  rw [show (p - -1074).toNat = 0 by omega, show ((-1074 : Int) - -1074).toNat = 0 by omega, Nat.zero_mul, Nat.zero_add]
  rfl
theorem near_least (A : Nat) (h : A ≤ 2 ^ 52) : double.nearest false A (-1074) = double.word false (min A (2047 * 2 ^ 52)) := by
  by_cases h0 : A = 0
  · subst h0; rfl
  · have hl : A.log2 ≤ 52 := by
      have := (Nat.log2_lt (k := 53) h0).2 (by omega)
      omega
    rw [near_sub false A (-1074) (by omega) (by omega) (by omega)]
    rw [show ((-1074 : Int) - -1074).toNat = 0 by omega, cut_zero]

/-- The first rounding: facts. -/
theorem first {n : Nat} (h1 : 2 ^ 60 ≤ n) (h2 : n < 2 ^ 62) : ∃ u K, (u = 8 ∨ u = 9) ∧ n.log2 = u + 52 ∧ Toward.even.cut false n u = K ∧ RNE n (2 ^ u) K ∧ 2 ^ 52 ≤ K ∧ K ≤ 2 ^ 53 ∧ (u = 8 ↔ n < 2 ^ 61) := by
  by_cases h : n < 2 ^ 61
  · have hl : n.log2 = 60 := by rw [Nat.log2_eq_iff (by omega)]; omega
    have hr := cut_rne false n 8 (by omega)
    refine ⟨8, _, .inl rfl, hl, rfl, hr, ?_, ?_, by simp [h]⟩
    · obtain ⟨a1, a2, _, _⟩ := hr
      omega
    · obtain ⟨a1, a2, _, _⟩ := hr
      omega
  · have hl : n.log2 = 61 := by rw [Nat.log2_eq_iff (by omega)]; omega
    have hr := cut_rne false n 9 (by omega)
    refine ⟨9, _, .inr rfl, hl, rfl, hr, ?_, ?_, by simp [h]⟩
    · obtain ⟨a1, a2, _, _⟩ := hr
      omega
    · obtain ⟨a1, a2, _, _⟩ := hr
      omega

/-- The sum, rounded: its word stands for H. -/
theorem first_rep {n u K : Nat} (s : Bool) (hu : u = 8 ∨ u = 9) (hl : n.log2 = u + 52) (h1 : 2 ^ 60 ≤ n) (hK : Toward.even.cut false n u = K) (hK1 : 2 ^ 52 ≤ K) (hK2 : K ≤ 2 ^ 53) :
    double.nearest s n (-61) = double.nearest s K ((u : Int) - 61) ∧ Rep (double.nearest s n (-61)) s (K * 2 ^ u) (-61) := by
  have e : double.nearest s n (-61) = double.nearest s K ((u : Int) - 61) := by
    rw [near_norm s n (-61) (by omega) (by omega), near_can s K _ hK1 hK2 (by omega), hl, show u + 52 - 52 = u by omega, hK]
    congr 4
    omega
  refine ⟨e, ?_⟩
  rw [e]
  have := (rep_near s (N := K) (g := (u : Int) - 61) hK2 (by omega) (by omega)).same (same_shift K u _)
  rw [show (u : Int) - 61 - u = -61 by omega] at this
  exact this

/-- Scaling in the normal range. -/
theorem scale_case {n : Nat} {k : Int} {y : Nat} (s : Bool) (h1 : 2 ^ 60 ≤ n) (h2 : n < 2 ^ 62) (hk1 : -1021 ≤ k) (hk2 : k ≤ 1024) (hy : y = double.nearest s n (-61)) :
    ∃ y2, double.mul y 4611686018427387904 = some y2 ∧ double.mul y2 ((k - 1 + 1023).toNat * 2 ^ 52) = some (double.nearest s n (k - 61)) := by
  obtain ⟨u, K, hu, hl, hK, hr, hK1, hK2, _⟩ := first h1 h2
  obtain ⟨e, hR⟩ := first_rep s hu hl h1 hK hK1 hK2
  have hR' : Rep y s K ((u : Int) - 61) := by
    rw [hy, e]
    exact rep_near s hK2 (by omega) (by omega)
  have two : Rep 4611686018427387904 false 1 1 := rep_pow2 1 (by omega) (by omega)
  refine ⟨_, hR'.mul two, ?_⟩
  have hR2 : Rep (double.nearest (s ^^ false) (K * 1) ((u : Int) - 61 + 1)) s K ((u : Int) - 61 + 1) := by
    rw [Bool.xor_false, Nat.mul_one]
    exact rep_near s hK2 (by omega) (by omega)
  rw [hR2.mul (rep_pow2 (k - 1) (by omega) (by omega)), Bool.xor_false, Nat.mul_one]
  congr 1
  rw [near_norm s n (k - 61) (by omega) (by omega), near_can s K _ hK1 hK2 (by omega), hl, show u + 52 - 52 = u by omega, hK]
  congr 4
  omega
end Go.Proofs.Ybulkechq
