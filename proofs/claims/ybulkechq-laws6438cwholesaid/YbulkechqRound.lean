import Derived.Test.YbulkechqWalk
namespace Go.Proofs.Ybulkechq
open Ieee
set_option linter.unusedVariables false

theorem add_sg {hi lo hm la n : Nat} {ng sl : Bool} {g : Int} (hhi : Rep hi ng hm g) (hlo : Rep lo sl la g) (hn : sg ng hm + sg sl la = sg ng n) (h0 : 0 < n) : double.add hi lo = some (double.nearest ng n g) := by
  have e := hhi.add hlo
  rw [hn] at e
  rw [e]
  have h1 : ¬ sg ng n = 0 := by unfold sg; cases ng <;> simp <;> omega
  have h2 : decide (sg ng n < 0) = ng := by unfold sg; cases ng <;> simp <;> omega
  have h3 : (sg ng n).natAbs = n := by unfold sg; cases ng <;> simp
  rw [if_neg h1, h2, h3]

theorem round_calls {hi lo hm la n : Nat} {ng sl : Bool} {k : Int} (w : World) (hhi : Rep hi ng hm (-61)) (hlo : Rep lo sl la (-61)) (hn : sg ng hm + sg sl la = sg ng n) (h1 : 2 ^ 60 ≤ n) (h2 : n + 512 ≤ 2 ^ 62) (hla : la < 2 ^ 43)
    (hk1 : -1077 ≤ k) (hk2 : k ≤ 1024) (hng : k < -1021 → ng = false) :
    Calls Yba.prog 4 #[.float .f64 hi, .float .f64 lo, .int .i64 k] w fun x w' => x = .returned (.float .f64 (double.nearest ng n (k - 61))) ∧ w' = w := by
  by_cases hk : -1021 ≤ k
  · obtain ⟨y2, g1, g2⟩ := scale_case ng h1 (by omega) hk hk2 rfl
    exact round_norm hi lo _ _ k hk hk2 w (add_sg hhi hlo hn (by omega)) (scale_calls _ y2 _ k hk hk2 w g1 g2)
  · obtain rfl := hng (by omega)
    refine round_sub hi lo _ k hk1 (by omega) w ?_
    obtain ⟨u, K, hu, hl, hK, hr, hK1, hK2, hu8⟩ := first h1 (by omega)
    have hn' : (hm : Int) + sg sl la = (n : Int) := by
      have e1 : sg false hm = (hm : Int) := by simp [sg]
      have e2 : sg false n = (n : Int) := by simp [sg]
      rw [e1, e2] at hn; exact hn
    obtain ⟨hi2, t, lo2, m, σ, a1, a2, a3, a4, a5, a6, a7, a8, a9⟩ := sub_first hhi hlo hn' h1 h2 hla hk1 (by omega) hu hl hK hr hK1 hK2
    have ho := order_one a9 (by omega)
    by_cases hge : 2 ^ (-961 - k).toNat ≤ K * 2 ^ u
    · obtain ⟨x, y, b1, b2, b3⟩ := sub_top (hi2 := hi2) h1 h2 hk1 (by omega) hu hl hK hr hK1 hK2 hu8 a7 a8 a9 hge
      refine subn_top hi lo hi2 t lo2 m x y _ k hk1 (by omega) w a1 a2 a3 a4 ?_ b1 b2 b3
      rw [ho]
      rcases Nat.lt_or_eq_of_le hge with h | h
      · rw [Nat.compare_eq_gt.2 h]; rfl
      · rw [Nat.compare_eq_eq.2 h.symm]; rfl
    · have hlt : K * 2 ^ u < 2 ^ (-961 - k).toNat := by omega
      have hud : u + 1 ≤ (-1013 - k).toNat := by
        rcases hu with rfl | rfl
        · omega
        · have : 2 ^ 52 * 2 ^ 9 ≤ K * 2 ^ 9 := Nat.mul_le_mul_right _ hK1
          have h61 : 2 ^ 61 < 2 ^ (-961 - k).toNat := by
            refine Nat.lt_of_le_of_lt ?_ hlt
            omega
          have := pow_lt_inv h61
          omega
      obtain ⟨A, a, t2, e, σe, c1, c2, c3, c4, c5, c6, c7, c8, c9, c10⟩ := sub_second (n := n) hk1 (by omega) hu hud hK2 a9 hlt
      have hgef : (double.order m 4607182418800017408 == some .gt || double.order m 4607182418800017408 == some .eq) = false := by
        rw [ho, Nat.compare_eq_lt.2 hlt]; rfl
      obtain ⟨b1, b2, b3, b4, o1, o2, o3, o4, hres⟩ := sub_low h1 hk1 (by omega) hu hl hud hr a7 a8 hlt c1 c2 c6 c7 c8 c4 c9 c10
      rcases hres with ⟨hb, e2, a2', a3', d1, d2, d3, d4⟩ | ⟨hb, d4⟩
      · exact subn_move hi lo hi2 t lo2 m a t2 e _ e2 a2' a3' b1 b2 b3 b4 k hk1 (by omega) w a1 a2 a3 a4 hgef c3 c4 c5 o1 o2 o3 o4 hb d1 d2 d3 d4
      · exact subn_stay hi lo hi2 t lo2 m a t2 e _ b1 b2 b3 b4 k hk1 (by omega) w a1 a2 a3 a4 hgef c3 c4 c5 o1 o2 o3 o4 hb d4
end Go.Proofs.Ybulkechq
