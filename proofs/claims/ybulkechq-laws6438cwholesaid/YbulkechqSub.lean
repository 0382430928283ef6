import Derived.Test.YbulkechqNear
namespace Go.Proofs.Ybulkechq
open Ieee
set_option linter.unusedVariables false

theorem sg_abs (T : Int) (b : Bool) : sg (if T = 0 then b else decide (T < 0)) T.natAbs = T := by
  unfold sg
  by_cases h : T = 0
  · subst h; cases b <;> simp
  · rw [if_neg h]
    by_cases h2 : T < 0
    · simp [h2]; omega
    · simp [h2]; omega

theorem add_exact {p q : Nat} {s t : Bool} {N M : Nat} {g : Int} {M' : Nat} {i : Int} (hp : Rep p s N g) (hq : Rep q t M g) (T : Int) (hT : sg s N + sg t M = T) (h : Same T.natAbs g M' i) (hM : M' ≤ 2 ^ 53) (h1 : -1074 ≤ i) (h2 : i ≤ 800) :
    ∃ r σ, double.add p q = some r ∧ Rep r σ T.natAbs g ∧ sg σ T.natAbs = T := by
  have e := hp.add hq
  rw [hT] at e
  exact ⟨_, _, e, rep_near_same _ h hM h1 h2, sg_abs T _⟩
theorem sub_exact {p q : Nat} {s t : Bool} {N M : Nat} {g : Int} {M' : Nat} {i : Int} (hp : Rep p s N g) (hq : Rep q t M g) (T : Int) (hT : sg s N - sg t M = T) (h : Same T.natAbs g M' i) (hM : M' ≤ 2 ^ 53) (h1 : -1074 ≤ i) (h2 : i ≤ 800) :
    ∃ r σ, double.sub p q = some r ∧ Rep r σ T.natAbs g ∧ sg σ T.natAbs = T := by
  have e := hp.sub hq
  rw [sg_neg, ← Int.sub_eq_add_neg, hT] at e
  exact ⟨_, _, e, rep_near_same _ h hM h1 h2, sg_abs T _⟩
/-- A sum that is not negative, and whose zero (if it is one) is the positive one. -/
theorem add_pos {p q : Nat} {s t : Bool} {N M : Nat} {g : Int} (hp : Rep p s N g) (hq : Rep q t M g) (T : Nat) (hT : sg s N + sg t M = (T : Int)) (hs : s = false) :
    double.add p q = some (double.nearest false T g) := by
  have e := hp.add hq
  rw [hT] at e
  rw [e]
  subst hs
  by_cases h : T = 0
  · subst h; simp
  · rw [if_neg (by omega), Int.natAbs_natCast, decide_eq_false (by omega)]
theorem sub_pos {p q : Nat} {s t : Bool} {N M : Nat} {g : Int} (hp : Rep p s N g) (hq : Rep q t M g) (T : Nat) (hT : sg s N - sg t M = (T : Int)) (hs : s = false) :
    double.sub p q = some (double.nearest false T g) := by
  have e := hp.sub hq
  rw [sg_neg, ← Int.sub_eq_add_neg, hT] at e
  rw [e]
  subst hs
  by_cases h : T = 0
  · subst h; simp
  · rw [if_neg (by omega), Int.natAbs_natCast, decide_eq_false (by omega)]
theorem mul_pow {p q : Nat} {s : Bool} {N : Nat} {g c : Int} (hp : Rep p s N g) (hq : Rep q false 1 c) : double.mul p q = some (double.nearest s N (g + c)) := by
  rw [hp.mul hq, Bool.xor_false, Nat.mul_one]
theorem pow_mul {p q : Nat} {s : Bool} {N : Nat} {g c : Int} (hp : Rep p s N g) (hq : Rep q false 1 c) : double.mul q p = some (double.nearest s N (c + g)) := by
  rw [hq.mul hp, Bool.false_xor, Nat.one_mul]

theorem one_at (D : Nat) (g : Int) (c : Int) (h : c = g + D) {p : Nat} {s : Bool} (hp : Rep p s 1 c) : Rep p s (2 ^ D) g := by
  have := hp.same (same_shift 1 D c)
  rw [Nat.one_mul, show c - (D : Int) = g by omega] at this
  exact this
theorem grid {p : Nat} {s : Bool} {N : Nat} {c : Int} (D : Nat) (g : Int) (h : c = g + D) (hp : Rep p s N c) : Rep p s (N * 2 ^ D) g := by
  have := hp.same (same_shift N D c)
  rw [show c - (D : Int) = g by omega] at this
  exact this

theorem rep_zero (g : Int) : Rep 0 false 0 g := by
  refine ⟨by decide, 0, -1074, by decide +kernel, ?_⟩
  intro L _ _; simp
theorem rep_one : Rep 4607182418800017408 false 1 0 := rep_pow2 0 (by omega) (by omega)
theorem rep_two : Rep 4611686018427387904 false 1 1 := rep_pow2 1 (by omega) (by omega)
theorem rep_tiny : Rep 4503599627370496 false 1 (-1022) := by
  have := rep_pow2 (-1022) (by omega) (by omega)
  rw [show ((-1022 : Int) + 1023).toNat * 2 ^ 52 = 4503599627370496 by decide +kernel] at this
  exact this
theorem rep_half : Rep 4368491638549381120 false 1 (-53) := by
  have := rep_pow2 (-53) (by omega) (by omega)
  rw [show ((-53 : Int) + 1023).toNat * 2 ^ 52 = 4368491638549381120 by decide +kernel] at this
  exact this
theorem rep_mhalf : Rep 13591863675404156928 true 1 (-53) := by
  have := rep_half.flip
  rw [show (4368491638549381120 : Nat) ^^^ 2 ^ 63 = 13591863675404156928 by decide +kernel] at this
  exact this

/-- The end of both roads below the normal range. -/
theorem last_word {n : Nat} {k : Int} {A u : Nat} (h1 : 2 ^ 60 ≤ n) (hu : u = 8 ∨ u = 9) (hl : n.log2 = u + 52) (hk : k ≤ -1022) (hA : A ≤ 2 ^ 52) (hr : RNE n (2 ^ (-1013 - k).toNat) A) :
    double.nearest false A (-1074) = double.nearest false n (k - 61) := by
  have hc := RNE.unique (pow_pos2 _) hr (cut_rne false n (-1013 - k).toNat (by omega))
  rw [near_least A hA, near_sub false n (k - 61) (by omega) (by omega) (by omega), show (-1074 - (k - 61)).toNat = (-1013 - k).toNat by omega, ← hc]

/-- The road by which the result is normal: k = -1022 and the sum at least 1. -/
theorem top_word {n u K : Nat} (h1 : 2 ^ 60 ≤ n) (h2 : n + 512 ≤ 2 ^ 62) (hu : u = 8 ∨ u = 9) (hl : n.log2 = u + 52) (hr : RNE n (2 ^ u) K) (hK1 : 2 ^ 52 ≤ K) (hK2 : K ≤ 2 ^ 53) (hu8 : u = 8 ↔ n < 2 ^ 61) (hH : 2 ^ 61 ≤ K * 2 ^ u) :
    double.nearest false (K * 2 ^ u) (-1083) = double.nearest false n (-1083) := by
  have hHlt : K * 2 ^ u < 2 ^ 62 := by
    obtain ⟨a1, a2, _, _⟩ := hr
    rcases hu with rfl | rfl <;> omega
  have hlH : (K * 2 ^ u).log2 = 61 := by
    rw [Nat.log2_eq_iff (by omega)]
    exact ⟨hH, hHlt⟩
  rw [near_sub false (K * 2 ^ u) (-1083) (by omega) (by omega) (by omega), near_sub false n (-1083) (by omega) (by omega) (by omega)]
  have e : (-1074 - (-1083 : Int)).toNat = 9 := by decide
  rw [e]
  have hc : RNE n (2 ^ 9) (Toward.even.cut false (K * 2 ^ u) 9) := by
    rcases hu with rfl | rfl
    · have hn := hu8.1 rfl
      have hK : K = 2 ^ 53 := by omega
      subst hK
      have : Toward.even.cut false (2 ^ 53 * 2 ^ 8) 9 = 2 ^ 52 := cut_exact .even false _ (2 ^ 52) 9 (by decide) (by decide)
      rw [this]
      obtain ⟨a1, a2, _, _⟩ := hr
      unfold RNE
      refine ⟨by omega, by omega, fun h => by omega, fun h => by omega⟩
    · have : Toward.even.cut false (K * 2 ^ 9) 9 = K := cut_exact .even false _ K 9 rfl (by omega)
      rw [this]
      exact hr
  rw [RNE.unique (pow_pos2 9) hc (cut_rne false n 9 (by omega))]
end Go.Proofs.Ybulkechq
