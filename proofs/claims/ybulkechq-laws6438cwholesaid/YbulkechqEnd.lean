import Derived.Test.YbulkechqLow
namespace Go.Proofs.Ybulkechq
open Ieee
set_option linter.unusedVariables false

theorem ord_eq (a b : Int) : (some (compare a b) == some Ordering.eq) = decide (a = b) := by
  rw [Int.compare_eq_ite_lt]
  by_cases h1 : a < b
  · rw [if_pos h1, decide_eq_false (by omega)]; rfl
  · by_cases h2 : b < a
    · rw [if_neg h1, if_pos h2, decide_eq_false (by omega)]; rfl
    · rw [if_neg h1, if_neg h2, decide_eq_true (by omega)]; rfl
theorem ord_lt (a b : Int) : (some (compare a b) == some Ordering.lt) = decide (a < b) := by
  rw [Int.compare_eq_ite_lt]
  by_cases h1 : a < b
  · rw [if_pos h1, decide_eq_true h1]; rfl
  · rw [if_neg h1, decide_eq_false h1]; split <;> rfl
theorem ord_gt (a b : Int) : (some (compare a b) == some Ordering.gt) = decide (b < a) := by
  rw [Int.compare_eq_ite_lt]
  by_cases h1 : a < b
  · rw [if_pos h1, decide_eq_false (by omega)]; rfl
  · by_cases h2 : b < a
    · rw [if_neg h1, if_pos h2, decide_eq_true h2]; rfl
    · rw [if_neg h1, if_neg h2, decide_eq_false h2]; rfl

/-- What the walk below 1 needs: the three ways. -/
theorem sub_low {n u K A a t e lo2 : Nat} {σ σe : Bool} {k : Int} (h1 : 2 ^ 60 ≤ n) (hk1 : -1077 ≤ k) (hk2 : k ≤ -1022) (hu : u = 8 ∨ u = 9) (hl : n.log2 = u + 52) (hud : u + 1 ≤ (-1013 - k).toNat) (hr : RNE n (2 ^ u) K)
    (hlo2 : Rep lo2 σ ((n : Int) - (K * 2 ^ u : Nat)).natAbs (-61)) (hσ : sg σ ((n : Int) - (K * 2 ^ u : Nat)).natAbs = (n : Int) - (K * 2 ^ u : Nat))
    (hlt : K * 2 ^ u < 2 ^ (-961 - k).toNat)
    (hA : RNE (K * 2 ^ u) (2 ^ (-1013 - k).toNat) A) (hA2 : A ≤ 2 ^ 52) (hra : Rep a false (2 ^ 52 + A) (-52)) (ht : t = double.nearest false A (-52)) (hrt : Rep t false A (-52)) (hts : double.sub a 4607182418800017408 = some t)
    (hre : Rep e σe (((K * 2 ^ u : Nat) : Int) - (A * 2 ^ (-1013 - k).toNat : Nat)).natAbs (k + 961))
    (hse : sg σe (((K * 2 ^ u : Nat) : Int) - (A * 2 ^ (-1013 - k).toNat : Nat)).natAbs = ((K * 2 ^ u : Nat) : Int) - (A * 2 ^ (-1013 - k).toNat : Nat)) :
    ∃ b1 b2 b3 b4 : Bool, (double.order e 4368491638549381120 == some .eq) = b1 ∧ (double.order lo2 0 == some .gt) = b2 ∧ (double.order e 13591863675404156928 == some .eq) = b3 ∧ (double.order lo2 0 == some .lt) = b4 ∧
      ((((b1 && b2) || (b3 && b4)) = true ∧ ∃ e2 a2 a3, double.mul 4611686018427387904 e = some e2 ∧ double.add a e2 = some a2 ∧ double.sub a2 4607182418800017408 = some a3 ∧ double.mul a3 4503599627370496 = some (double.nearest false n (k - 61)))
      ∨ (((b1 && b2) || (b3 && b4)) = false ∧ double.mul t 4503599627370496 = some (double.nearest false n (k - 61)))) := by
  generalize hd : (-1013 - k).toNat = d at *
  obtain ⟨c, hc, hcd⟩ : ∃ c, 0 < c ∧ 2 ^ (d - 1) = 2 ^ u * c := ⟨2 ^ (d - 1 - u), pow_pos2 _, by rw [← Nat.pow_add]; congr 1; omega⟩
  have hG : 2 ^ d = 2 * 2 ^ (d - 1) := by rw [Nat.mul_comm, ← Nat.pow_succ]; congr 1; omega
  have hUpos := pow_pos2 u
  have o1 := hre.order (one_at (d - 1) (k + 961) (-53) (by omega) rep_half)
  have o3 := hre.order (one_at (d - 1) (k + 961) (-53) (by omega) rep_mhalf)
  have o2 := hlo2.order (rep_zero (-61))
  rw [hse] at o1 o3
  rw [hσ] at o2
  have eD : 2 ^ (-961 - k).toNat = 2 ^ 52 * 2 ^ d := by rw [← Nat.pow_add]; congr 1; omega
  rw [eD] at hlt
  have s1 : sg false (2 ^ (d - 1)) = ((2 ^ (d - 1) : Nat) : Int) := by simp [sg]
  have s3 : sg true (2 ^ (d - 1)) = -((2 ^ (d - 1) : Nat) : Int) := by simp [sg]
  have s2 : sg false 0 = 0 := by simp [sg]
  rw [s1] at o1; rw [s3] at o3; rw [s2] at o2
  obtain ⟨r1, r2, _, _⟩ := hr
  have hHU : K * 2 ^ u = 2 ^ u * K := Nat.mul_comm _ _
  have eAG : A * 2 ^ d = 2 * (A * 2 ^ (d - 1)) := by rw [hG, Nat.mul_left_comm]
  rw [hG] at hA
  have hA' := hA
  have hend : ∀ A', A' ≤ 2 ^ 52 → RNE n (2 * 2 ^ (d - 1)) A' → double.nearest false A' (-1074) = double.nearest false n (k - 61) := by
    intro A' g1 g2
    refine last_word h1 hu hl hk2 g1 ?_
    rw [hd, hG]; exact g2
  rw [eAG] at hre hse o1 o3
  generalize hH : K * 2 ^ u = H at *
  generalize hh : 2 ^ (d - 1) = h at *
  refine ⟨_, _, _, _, by rw [o1, ord_eq], by rw [o2, ord_gt], by rw [o3, ord_eq], by rw [o2, ord_lt], ?_⟩
  by_cases hup : (H : Int) - (2 * (A * h) : Nat) = (h : Int) ∧ 0 < (n : Int) - (H : Nat)
  · left
    refine ⟨by rw [decide_eq_true hup.1, decide_eq_true hup.2]; simp, ?_⟩
    obtain ⟨u1, u2⟩ := hup
    have habs : ((H : Int) - (2 * (A * h) : Nat)).natAbs = h := by rw [u1]; simp
    have hσe : σe = false := by
      rw [u1] at hse
      cases σe
      · rfl
      · exfalso; unfold sg at hse; simp at hse; omega
    subst hσe
    rw [habs] at hre
    have hpos : 0 < h := by rw [← hh]; exact pow_pos2 _
    have he2 := pow_mul hre rep_two
    have hre2 : Rep (double.nearest false h (1 + (k + 961))) false 1 (-52) := by
      have hs : Same h (1 + (k + 961)) 1 (-52) := by
        have := (same_shift 1 (d - 1) (-52)).symm
        rw [Nat.one_mul, hh, show (-52 : Int) - ((d - 1 : Nat) : Int) = 1 + (k + 961) by omega] at this
        exact this
      exact (rep_near_same false hs (by omega) (by omega) (by omega)).same hs
    have hA1 : A + 1 ≤ 2 ^ 52 := by
      have : A * (2 * h) < 2 ^ 52 * (2 * h) := by rw [← hG]; rw [← hG, eAG] at *; omega
      exact Nat.lt_of_mul_lt_mul_right this
    have ha2 := add_pos hra hre2 (2 ^ 52 + (A + 1)) (by unfold sg; simp; omega) rfl
    have hra2 : Rep (double.nearest false (2 ^ 52 + (A + 1)) (-52)) false (2 ^ 52 + (A + 1)) (-52) := rep_near false (by omega) (by omega) (by omega)
    have ha3 := sub_pos hra2 (one_at 52 (-52) 0 (by omega) rep_one) (A + 1) (by unfold sg; simp; omega) rfl
    have hra3 : Rep (double.nearest false (A + 1) (-52)) false (A + 1) (-52) := rep_near false (by omega) (by omega) (by omega)
    refine ⟨_, _, _, he2, ha2, ha3, ?_⟩
    rw [mul_pow hra3 rep_tiny]
    congr 1
    refine hend (A + 1) hA1 (fix_up hUpos hHU hcd hc (by omega) (by omega) hA (by omega) (by omega))
  · by_cases hdn : (H : Int) - (2 * (A * h) : Nat) = -(h : Int) ∧ (n : Int) - (H : Nat) < 0
    · left
      refine ⟨by rw [decide_eq_true hdn.1, decide_eq_true hdn.2]; simp, ?_⟩
      obtain ⟨u1, u2⟩ := hdn
      have hpos : 0 < h := by rw [← hh]; exact pow_pos2 _
      have habs : ((H : Int) - (2 * (A * h) : Nat)).natAbs = h := by rw [u1]; simp
      have hσe : σe = true := by
        rw [u1] at hse
        cases σe
        · exfalso; unfold sg at hse; simp at hse; omega
        · rfl
      subst hσe
      rw [habs] at hre
      have he2 := pow_mul hre rep_two
      have hre2 : Rep (double.nearest true h (1 + (k + 961))) true 1 (-52) := by
        have hs : Same h (1 + (k + 961)) 1 (-52) := by
          have := (same_shift 1 (d - 1) (-52)).symm
          rw [Nat.one_mul, hh, show (-52 : Int) - ((d - 1 : Nat) : Int) = 1 + (k + 961) by omega] at this
          exact this
        exact (rep_near_same true hs (by omega) (by omega) (by omega)).same hs
      obtain ⟨hA0, hfix⟩ := fix_down hUpos hHU hcd hc (by omega) (by omega) hA (by omega) (by omega)
      have ha2 := add_pos hra hre2 (2 ^ 52 + (A - 1)) (by unfold sg; simp; omega) rfl
      have hra2 : Rep (double.nearest false (2 ^ 52 + (A - 1)) (-52)) false (2 ^ 52 + (A - 1)) (-52) := rep_near false (by omega) (by omega) (by omega)
      have ha3 := sub_pos hra2 (one_at 52 (-52) 0 (by omega) rep_one) (A - 1) (by unfold sg; simp; omega) rfl
      have hra3 : Rep (double.nearest false (A - 1) (-52)) false (A - 1) (-52) := rep_near false (by omega) (by omega) (by omega)
      refine ⟨_, _, _, he2, ha2, ha3, ?_⟩
      rw [mul_pow hra3 rep_tiny]
      congr 1
      exact hend (A - 1) (by omega) hfix
    · right
      refine ⟨?_, ?_⟩
      · rw [Bool.or_eq_false_iff, Bool.and_eq_false_iff, Bool.and_eq_false_iff]
        simp only [decide_eq_false_iff_not]
        constructor
        · by_cases g : (H : Int) - (2 * (A * h) : Nat) = (h : Int)
          · right; exact fun g2 => hup ⟨g, g2⟩
          · left; exact g
        · by_cases g : (H : Int) - (2 * (A * h) : Nat) = -(h : Int)
          · right; exact fun g2 => hdn ⟨g, g2⟩
          · left; exact g
      · rw [mul_pow hrt rep_tiny]
        congr 1
        refine hend A hA2 (fix_same hUpos hHU hcd hc (by omega) (by omega) hA ?_ ?_)
        · intro g
          have : ¬ (0 < (n : Int) - (H : Nat)) := fun g2 => hup ⟨by omega, g2⟩
          omega
        · intro g
          have : ¬ ((n : Int) - (H : Nat) < 0) := fun g2 => hdn ⟨by omega, g2⟩
          omega
end Go.Proofs.Ybulkechq
