import Derived.Test.YbulkechqSub
namespace Go.Proofs.Ybulkechq
open Ieee
set_option linter.unusedVariables false

theorem pow_cast (a : Nat) : ((2 ^ a : Nat) : Int) = (2 : Int) ^ a := by simp

/-- The first FastTwoSum, and m. -/
theorem sub_first {hi lo n hm la : Nat} {sl : Bool} {k : Int} (hhi : Rep hi false hm (-61)) (hlo : Rep lo sl la (-61)) (hn : (hm : Int) + sg sl la = (n : Int)) (h1 : 2 ^ 60 ≤ n) (h2 : n + 512 ≤ 2 ^ 62) (hla : la < 2 ^ 43) (hk1 : -1077 ≤ k) (hk2 : k ≤ -1022)
    {u K : Nat} (hu : u = 8 ∨ u = 9) (hl : n.log2 = u + 52) (hK : Toward.even.cut false n u = K) (hr : RNE n (2 ^ u) K) (hK1 : 2 ^ 52 ≤ K) (hK2 : K ≤ 2 ^ 53) :
    ∃ hi2 t lo2 m σ, double.add hi lo = some hi2 ∧ double.sub hi2 hi = some t ∧ double.sub lo t = some lo2 ∧ double.mul hi2 ((k + 1022 + 1023).toNat * 2 ^ 52) = some m
      ∧ hi2 = double.nearest false n (-61) ∧ Rep hi2 false (K * 2 ^ u) (-61) ∧ Rep lo2 σ ((n : Int) - (K * 2 ^ u : Nat)).natAbs (-61) ∧ sg σ ((n : Int) - (K * 2 ^ u : Nat)).natAbs = (n : Int) - (K * 2 ^ u : Nat) ∧ Rep m false (K * 2 ^ u) (k + 961) := by
  obtain ⟨a1, a2, a3, a4⟩ := hr
  have hU : 2 ^ u = 256 ∨ 2 ^ u = 512 := by rcases hu with rfl | rfl <;> simp
  have hHn1 : K * 2 ^ u ≤ n + 256 := by omega
  have hHn2 : n ≤ K * 2 ^ u + 256 := by omega
  have hadd := add_pos hhi hlo n (by unfold sg at hn ⊢; simpa using hn) rfl
  obtain ⟨_, hR⟩ := first_rep false hu hl h1 hK hK1 hK2
  have hsl : -(la : Int) ≤ sg sl la ∧ sg sl la ≤ la := by unfold sg; cases sl <;> simp <;> omega
  obtain ⟨t, σ, ht1, ht2, ht3⟩ := sub_exact hR hhi (((K * 2 ^ u : Nat) : Int) - hm) (by unfold sg; simp) (Same.refl _ _) (by omega) (by omega) (by omega)
  obtain ⟨lo2, σ2, hl1, hl2, hl3⟩ := sub_exact hlo ht2 ((n : Int) - (K * 2 ^ u : Nat)) (by rw [ht3]; omega) (Same.refl _ _) (by omega) (by omega) (by omega)
  have hm := mul_pow hR (rep_pow2 (k + 1022) (by omega) (by omega))
  refine ⟨_, t, lo2, _, σ2, hadd, ht1, hl1, hm, rfl, hR, hl2, hl3, ?_⟩
  rw [show -61 + (k + 1022) = k + 961 by omega]
  refine rep_near_same false (M := K) (i := (u : Int) + (k + 961)) ?_ hK2 (by omega) (by omega)
  have := (same_shift K u ((u : Int) + (k + 961))).symm
  rw [show (u : Int) + (k + 961) - u = k + 961 by omega] at this
  exact this

theorem cmp_nat (a b : Nat) : compare (sg false a) (sg false b) = compare a b := by
  unfold sg
  simp only [Bool.false_eq_true, if_false]
  rw [Int.compare_eq_ite_lt, Nat.compare_eq_ite_lt]
  simp only [Int.ofNat_lt]

theorem order_one {m H : Nat} {k : Int} (hm : Rep m false H (k + 961)) (hk2 : k ≤ -1022) : double.order m 4607182418800017408 = some (compare H (2 ^ (-961 - k).toNat)) := by
  rw [hm.order (one_at (-961 - k).toNat (k + 961) 0 (by omega) rep_one), cmp_nat]

/-- The road with m at least 1. -/
theorem sub_top {n u K hi2 lo2 m : Nat} {σ : Bool} {k : Int} (h1 : 2 ^ 60 ≤ n) (h2 : n + 512 ≤ 2 ^ 62) (hk1 : -1077 ≤ k) (hk2 : k ≤ -1022) (hu : u = 8 ∨ u = 9) (hl : n.log2 = u + 52) (hK : Toward.even.cut false n u = K) (hr : RNE n (2 ^ u) K) (hK1 : 2 ^ 52 ≤ K) (hK2 : K ≤ 2 ^ 53) (hu8 : u = 8 ↔ n < 2 ^ 61)
    (hlo2 : Rep lo2 σ ((n : Int) - (K * 2 ^ u : Nat)).natAbs (-61)) (hσ : sg σ ((n : Int) - (K * 2 ^ u : Nat)).natAbs = (n : Int) - (K * 2 ^ u : Nat)) (hm : Rep m false (K * 2 ^ u) (k + 961)) (hge : 2 ^ (-961 - k).toNat ≤ K * 2 ^ u) :
    ∃ x y, double.mul lo2 ((k + 1022 + 1023).toNat * 2 ^ 52) = some x ∧ double.add m x = some y ∧ double.mul y 4503599627370496 = some (double.nearest false n (k - 61)) := by
  have hHlt : K * 2 ^ u < 2 ^ 62 := by
    obtain ⟨a1, a2, _, _⟩ := hr
    rcases hu with rfl | rfl <;> omega
  have hHn1 : K * 2 ^ u ≤ n + 256 ∧ n ≤ K * 2 ^ u + 256 := by
    obtain ⟨a1, a2, _, _⟩ := hr
    rcases hu with rfl | rfl <;> omega
  have hD : (-961 - k).toNat < 62 := pow_lt_inv (Nat.lt_of_le_of_lt hge hHlt)
  obtain rfl : k = -1022 := by omega
  have e61 : (-961 - (-1022 : Int)).toNat = 61 := by decide
  rw [e61] at hge
  rw [show (-1022 : Int) + 961 = -61 by decide] at hm
  have hx := mul_pow hlo2 (rep_pow2 0 (by omega) (by omega))
  rw [show (-1022 + 1022 + 1023 : Int) = (0 : Int) + 1023 by omega]
  have hxr : Rep (double.nearest σ ((n : Int) - (K * 2 ^ u : Nat)).natAbs (-61 + 0)) σ ((n : Int) - (K * 2 ^ u : Nat)).natAbs (-61) := by
    rw [show (-61 : Int) + 0 = -61 by decide]
    exact rep_near σ (by omega) (by omega) (by omega)
  have hy := add_pos hm hxr n (by rw [hσ]; unfold sg; simp; omega) rfl
  obtain ⟨_, hR⟩ := first_rep false hu hl h1 hK hK1 hK2
  refine ⟨_, _, hx, hy, ?_⟩
  rw [mul_pow hR rep_tiny]
  congr 1
  exact top_word h1 h2 hu hl hr hK1 hK2 hu8 hge

theorem rne_add {H G A : Nat} (hr : RNE H G A) : RNE (2 ^ 52 * G + H) G (2 ^ 52 + A) := by
  obtain ⟨a1, a2, a3, a4⟩ := hr
  unfold RNE
  rw [Nat.add_mul]
  generalize hX : A * G = X at *
  generalize hY : 2 ^ 52 * G = Y at *
  refine ⟨by omega, by omega, fun h => ?_, fun h => ?_⟩
  · have := a3 (by omega); omega
  · have := a4 (by omega); omega

/-- The second FastTwoSum: a = 1 + m, rounded. -/
theorem sub_second {n u K m : Nat} {k : Int} (hk1 : -1077 ≤ k) (hk2 : k ≤ -1022) (hu : u = 8 ∨ u = 9) (hud : u + 1 ≤ (-1013 - k).toNat) (hK2 : K ≤ 2 ^ 53)
    (hm : Rep m false (K * 2 ^ u) (k + 961)) (hlt : K * 2 ^ u < 2 ^ (-961 - k).toNat) :
    ∃ A a t e σ, RNE (K * 2 ^ u) (2 ^ (-1013 - k).toNat) A ∧ A ≤ 2 ^ 52 ∧ double.add 4607182418800017408 m = some a ∧ double.sub a 4607182418800017408 = some t ∧ double.sub m t = some e
      ∧ Rep a false (2 ^ 52 + A) (-52) ∧ t = double.nearest false A (-52) ∧ Rep t false A (-52) ∧ Rep e σ (((K * 2 ^ u : Nat) : Int) - (A * 2 ^ (-1013 - k).toNat : Nat)).natAbs (k + 961)
      ∧ sg σ (((K * 2 ^ u : Nat) : Int) - (A * 2 ^ (-1013 - k).toNat : Nat)).natAbs = ((K * 2 ^ u : Nat) : Int) - (A * 2 ^ (-1013 - k).toNat : Nat) := by
  have hr := cut_rne false (K * 2 ^ u) (-1013 - k).toNat (by omega)
  generalize Toward.even.cut false (K * 2 ^ u) (-1013 - k).toNat = A at hr
  have eD : 2 ^ (-961 - k).toNat = 2 ^ 52 * 2 ^ (-1013 - k).toNat := by
    rw [← Nat.pow_add]; congr 1; omega
  generalize hd : (-1013 - k).toNat = d at *
  generalize hH : K * 2 ^ u = H at *
  have hG := pow_pos2 d
  have hA : A ≤ 2 ^ 52 := by
    obtain ⟨a1, a2, _, _⟩ := hr
    have : A * 2 ^ d < (2 ^ 52 + 1) * 2 ^ d := by rw [Nat.add_mul, Nat.one_mul]; omega
    have := Nat.lt_of_mul_lt_mul_right this
    omega
  -- a
  have h1g := one_at (-961 - k).toNat (k + 961) 0 (by omega) rep_one
  have hadd := add_pos h1g hm (2 ^ (-961 - k).toNat + H) (by unfold sg; simp) rfl
  have hlog : (2 ^ (-961 - k).toNat + H).log2 = d + 52 := by
    rw [Nat.log2_eq_iff (by omega)]
    rw [show d + 52 = (-961 - k).toNat by omega, Nat.pow_succ]
    omega
  have hcut : Toward.even.cut false (2 ^ (-961 - k).toNat + H) d = 2 ^ 52 + A := by
    have hq := cut_rne false (2 ^ (-961 - k).toNat + H) d (by omega)
    have hq' : RNE (2 ^ (-961 - k).toNat + H) (2 ^ d) (2 ^ 52 + A) := by
      rw [eD]
      exact rne_add hr
    exact RNE.unique hG hq hq'
  have hge : 2 ^ 52 ≤ 2 ^ (-961 - k).toNat + H := by
    have : 2 ^ 52 * 1 ≤ 2 ^ 52 * 2 ^ d := Nat.mul_le_mul_left _ hG
    omega
  have ha : double.nearest false (2 ^ (-961 - k).toNat + H) (k + 961) = double.nearest false (2 ^ 52 + A) (-52) := by
    rw [near_norm false _ (k + 961) hge (by rw [hlog]; omega), hlog, show d + 52 - 52 = d by omega, hcut, near_can false (2 ^ 52 + A) (-52) (by omega) (by omega) (by omega)]
    rw [show (k + 961 + ((d + 52 : Nat) : Int) - 52 + 1074).toNat = (-52 + 1074 : Int).toNat by omega]
  rw [ha] at hadd
  have hra : Rep (double.nearest false (2 ^ 52 + A) (-52)) false (2 ^ 52 + A) (-52) := rep_near false (by omega) (by omega) (by omega)
  have ht := sub_pos hra (one_at 52 (-52) 0 (by omega) rep_one) A (by unfold sg; simp; omega) rfl
  have hrt : Rep (double.nearest false A (-52)) false A (-52) := rep_near false (by omega) (by omega) (by omega)
  have hrt2 := grid d (k + 961) (by omega) hrt
  -- e
  have hsp : A * 2 ^ d = (A * 2 ^ (d - u)) * 2 ^ u := by rw [Nat.mul_assoc, ← Nat.pow_add, show d - u + u = d by omega]
  have hle : (((H : Nat) : Int) - (A * 2 ^ d : Nat)).natAbs ≤ H := by
    obtain ⟨a1, a2, _, _⟩ := hr
    rcases Nat.eq_zero_or_pos A with h0 | h0
    · subst h0; simp
    · have : 1 * 2 ^ d ≤ A * 2 ^ d := Nat.mul_le_mul_right _ h0
      omega
  have hS : ((H : Int) - (A * 2 ^ d : Nat)).natAbs = ((K : Int) - (A * 2 ^ (d - u) : Nat)).natAbs * 2 ^ u := by
    rw [← hH, hsp]
    have : (((K * 2 ^ u : Nat) : Int) - ((A * 2 ^ (d - u) * 2 ^ u : Nat) : Int)) = ((K : Int) - (A * 2 ^ (d - u) : Nat)) * ((2 ^ u : Nat) : Int) := by
      rw [Int.sub_mul, Int.natCast_mul, Int.natCast_mul]
    rw [this, Int.natAbs_mul, Int.natAbs_natCast]
  have hM : ((K : Int) - (A * 2 ^ (d - u) : Nat)).natAbs ≤ 2 ^ 53 := by
    rw [hS, ← hH] at hle
    have := Nat.le_of_mul_le_mul_right hle (pow_pos2 u)
    omega
  obtain ⟨e, σ, he1, he2, he3⟩ := sub_exact hm hrt2 ((H : Int) - (A * 2 ^ d : Nat)) (by unfold sg; simp) (M' := ((K : Int) - (A * 2 ^ (d - u) : Nat)).natAbs) (i := (u : Int) + (k + 961)) (by
    rw [hS]
    have := (same_shift ((K : Int) - (A * 2 ^ (d - u) : Nat)).natAbs u ((u : Int) + (k + 961))).symm
    rw [show (u : Int) + (k + 961) - u = k + 961 by omega] at this
    exact this) hM (by omega) (by omega)
  exact ⟨A, _, _, e, σ, hr, hA, hadd, ht, he1, hra, rfl, hrt, he2, he3⟩
end Go.Proofs.Ybulkechq
