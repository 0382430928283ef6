import Derived.Test.YbulkecdwDoorWalk
import Derived.Test.YbulkecdwDoorHitWord
import Derived.Deep.Cut
import Derived.RowKit
namespace Go.Proofs.YbulkecdwDoor
open Go.ChangeShapes Go.WideShapes Go.RowKit
def Hid (p : Prop) : Prop := p
theorem hide {p : Prop} (h : p) : Hid p := h
theorem unhide {p : Prop} (h : Hid p) : p := h

/-- The decimals, mapped. -/
theorem dec_at (dec : Int) : ∃ D : Nat, D < 21 ∧ (IntKind.u64.wrap dec).tmod 21 = (D : Int) := by
  have h0 : 0 ≤ IntKind.u64.wrap dec := by rw [IntKind.wrap_u64]; omega
  refine ⟨((IntKind.u64.wrap dec).tmod 21).toNat, ?_, ?_⟩
  · rw [Int.tmod_eq_emod_of_nonneg h0]; omega
  · rw [Int.tmod_eq_emod_of_nonneg h0]; omega

theorem odd_at (k : Int) (hk1 : -2147483648 ≤ k) (hk2 : k ≤ 2147483647) : ∃ s N, 2 * k + 1 = sg s N ∧ N % 2 = 1 ∧ N < 2 ^ 33 ∧ (s = true ↔ 2 * k + 1 < 0) := by
  by_cases h : 2 * k + 1 < 0
  · exact ⟨true, (-(2 * k + 1)).toNat, by unfold sg; simp; omega, by omega, by omega, by simp [h]⟩
  · exact ⟨false, (2 * k + 1).toNat, by unfold sg; simp; omega, by omega, by omega, by simp [h]⟩

/-- What 'halfway' says at the law's own v. -/
theorem hit_half {v D N M : Nat} {s : Bool} {E : Int} {t : Nat} (hD : D < 21) (w : World) (hg : Tab w) (hodd : N % 2 = 1) (hrv : Ieee.double.read v = .number s M E) (hM : M = N * 2 ^ t) (hE : E + t + 1 + D = 0) :
    ∃ c ok, (Calls Ybad.prog 5 #[.float .f64 v, .int .i64 D] w fun e w' => e = .returned (.tuple #[.int .i64 c, .bool ok]) ∧ w' = w) ∧ ((N * 5 ^ D < 2 ^ 53 ∧ c = sg s ((N * 5 ^ D + 1) / 2) ∧ ok = true) ∨ (¬ N * 5 ^ D < 2 ^ 53 ∧ c = 0 ∧ ok = false)) := by
  by_cases h : N * 5 ^ D < 2 ^ 53
  · obtain ⟨mw, p, h1, h2, h3, h4, h5, h6, h7, h8⟩ := half_yes hD hrv hM hodd hE h
    exact ⟨_, _, half_calls_yes hD w hg h1 h2 h3 h (odd_mul hodd (five_odd D)) h4 h5 h6 h7 (by decide +kernel) h8, .inl ⟨h, rfl, rfl⟩⟩
  · obtain ⟨hb1, hb2, hb3⟩ := read_bounds hrv
    obtain ⟨mw, p, h1, h2, h3, h4⟩ := half_no (L := -1200) (by omega) hD hrv (val_no (by omega) hb2 hM hodd (by omega))
    exact ⟨_, _, half_calls_no hD w hg h1 h2 h3 h4, .inr ⟨h, rfl, rfl⟩⟩

set_option maxRecDepth 100000 in
set_option maxHeartbeats 4000000 in
theorem hit_walk (k dec n c T : Int) (ok s : Bool) (D N v : Nat) (w : World) (hk1 : -2147483648 ≤ k) (hk2 : k ≤ 2147483647) (hD1 : D < 21) (hD : (IntKind.u64.wrap dec).tmod 21 = (D : Int)) (hN33 : N < 2 ^ 33) (hn : 2 * k + 1 = n)
    (hs : (s = true ∧ n < 0 ∧ -n = N) ∨ (s = false ∧ ¬ n < 0 ∧ n = N))
    (hsh : IntKind.u64.wrap (2 ^ (D + 1)) = T)
    (hq : (binOp .quo 22 (.float .f64 (floatOfInt .f64 n)) (.float .f64 (floatOfInt .f64 T))).run Ybad.prog w = .ok (.float .f64 v) w)
    (hh : Calls Ybad.prog 5 #[.float .f64 v, .int .i64 D] w fun e w' => e = .returned (.tuple #[.int .i64 c, .bool ok]) ∧ w' = w)
    (hc : (N * 5 ^ D < 2 ^ 53 ∧ c = sg s ((N * 5 ^ D + 1) / 2) ∧ ok = true) ∨ (¬ N * 5 ^ D < 2 ^ 53 ∧ c = 0 ∧ ok = false)) :
    Calls Ybad.prog 4 #[.int .i32 k, .int .i64 dec] w fun e w' => e = .returned (.bool true) ∧ w' = w := by
  have hDi : (D : Int) < 21 := by omega
  have hNi : (N : Int) < 8589934592 := by omega
  have HH := hide hh
  have HC := hide hc
  clear hh hc
  rcases hs with ⟨rfl, hneg, hnn⟩ | ⟨rfl, hneg, hnn⟩
  · go_enter Ybad.func4, Ybad.ntmps4
    go_wp2_with fail
    refine (unhide HH).mono ?_
    rintro _ w1 ⟨rfl, rfl⟩
    go_wp2_with fail
    go_loop [10, 11] (fun m i => ∃ j : Nat, j ≤ D ∧ i = .int .i64 j ∧ ∃ X : Nat, Hid (X = N * 5 ^ j) ∧ (X : Int) < 45035996273704960 ∧ m = .int .u64 X) (fun _ i => D - (intOf i).toNat)
    case atStart => exact ⟨0, Nat.zero_le _, rfl, N, hide (by simp), by omega, rfl⟩
    case round =>
      obtain ⟨j, hj, rfl, X, hX, hX1, rfl⟩ := hrel
      by_cases h2 : (X : Int) < 9007199254740992
      · have h2n : X < 9007199254740992 := by omega
        have h2g : ¬ (9007199254740992 ≤ (X : Int)) := by omega
        have h2h : ¬ 9007199254740992 ≤ X := by omega
        by_cases h1 : (j : Int) < (D : Int)
        · have h1n : j < D := by omega
          go_wp2_with fail
          exact ⟨⟨j + 1, by omega, by simp, X * 5, hide (by rw [unhide hX, Nat.pow_succ, Nat.mul_assoc]), by omega, by simp⟩, by simp [intOf]; omega⟩
        · obtain rfl : j = D := by omega
          rcases unhide HC with ⟨g1, g2, g3⟩ | ⟨g1, _, _⟩
          · have hq1 : Int.tdiv ((X : Int) + 1) 2 = (((X + 1) / 2 : Nat) : Int) := by
              rw [Int.tdiv_eq_ediv_of_nonneg (by omega)]; omega
            rw [← unhide hX] at g1 g2
            generalize hQ : (X + 1) / 2 = Q at *
            have hQ1 : (Q : Int) < 9007199254740992 := by omega
            subst g3
            have g2' : c = -(Q : Int) := by rw [g2]; simp [sg]
            clear g2 g1 HC hQ hX
            subst g2'
            go_wp2_with fail
            go_ret
            exact ⟨by simp, rfl⟩
          · rw [← unhide hX] at g1; omega
      · have h2n : ¬ X < 9007199254740992 := by omega
        have h2g : 9007199254740992 ≤ (X : Int) := by omega
        have h2h : 9007199254740992 ≤ X := by omega
        rcases unhide HC with ⟨g1, _, _⟩ | ⟨_, g2, g3⟩
        · have := pow5_mono N hj
          rw [← unhide hX] at this
          omega
        · subst g2 g3
          clear HC hX
          by_cases h1 : (j : Int) < (D : Int)
          · have h1n : j < D := by omega
            go_wp2_with fail
            go_ret
            exact ⟨by simp, rfl⟩
          · have h1n : ¬ j < D := by omega
            go_wp2_with fail
            go_ret
            exact ⟨by simp, rfl⟩
  · have hn1 : n < 8589934592 := by omega
    have hn2 : 0 ≤ n := by omega
    have hdec : decide (n < 0) = false := decide_eq_false hneg
    have HNN := hide hnn
    clear hnn
    go_enter Ybad.func4, Ybad.ntmps4
    go_wp2_with fail
    refine (unhide HH).mono ?_
    rintro _ w1 ⟨rfl, rfl⟩
    go_wp2_with fail
    go_loop [10, 11] (fun m i => ∃ j : Nat, j ≤ D ∧ i = .int .i64 j ∧ ∃ X : Nat, Hid (X = N * 5 ^ j) ∧ (X : Int) < 45035996273704960 ∧ m = .int .u64 X) (fun _ i => D - (intOf i).toNat)
    case atStart => exact ⟨0, Nat.zero_le _, rfl, N, hide (by simp), by omega, by rw [unhide HNN]⟩
    case round =>
      obtain ⟨j, hj, rfl, X, hX, hX1, rfl⟩ := hrel
      by_cases h2 : (X : Int) < 9007199254740992
      · have h2n : X < 9007199254740992 := by omega
        have h2g : ¬ (9007199254740992 ≤ (X : Int)) := by omega
        have h2h : ¬ 9007199254740992 ≤ X := by omega
        by_cases h1 : (j : Int) < (D : Int)
        · have h1n : j < D := by omega
          go_wp2_with fail
          exact ⟨⟨j + 1, by omega, by simp, X * 5, hide (by rw [unhide hX, Nat.pow_succ, Nat.mul_assoc]), by omega, by simp⟩, by simp [intOf]; omega⟩
        · obtain rfl : j = D := by omega
          rcases unhide HC with ⟨g1, g2, g3⟩ | ⟨g1, _, _⟩
          · have hq1 : Int.tdiv ((X : Int) + 1) 2 = (((X + 1) / 2 : Nat) : Int) := by
              rw [Int.tdiv_eq_ediv_of_nonneg (by omega)]; omega
            rw [← unhide hX] at g1 g2
            generalize hQ : (X + 1) / 2 = Q at *
            have hQ1 : (Q : Int) < 9007199254740992 := by omega
            subst g3
            have g2' : c = (Q : Int) := by rw [g2]; simp [sg]
            clear g2 g1 HC hQ hX
            subst g2'
            go_wp2_with fail
            go_ret
            exact ⟨by simp, rfl⟩
          · rw [← unhide hX] at g1; omega
      · have h2n : ¬ X < 9007199254740992 := by omega
        have h2g : 9007199254740992 ≤ (X : Int) := by omega
        have h2h : 9007199254740992 ≤ X := by omega
        rcases unhide HC with ⟨g1, _, _⟩ | ⟨_, g2, g3⟩
        · have := pow5_mono N hj
          rw [← unhide hX] at this
          omega
        · subst g2 g3
          clear HC hX
          by_cases h1 : (j : Int) < (D : Int)
          · have h1n : j < D := by omega
            go_wp2_with fail
            go_ret
            exact ⟨by simp, rfl⟩
          · have h1n : ¬ j < D := by omega
            go_wp2_with fail
            go_ret
            exact ⟨by simp, rfl⟩

theorem hit_law (k dec : Int) (hk1 : -2147483648 ≤ k) (hk2 : k ≤ 2147483647) (w : World) (hg : Tab w) :
    Calls Ybad.prog 4 #[.int .i32 k, .int .i64 dec] w fun e w' => e = .returned (.bool true) ∧ w' = w := by
  obtain ⟨D, hD1, hD⟩ := dec_at dec
  obtain ⟨s, N, hN, hodd, hN33, hs⟩ := odd_at k hk1 hk2
  obtain ⟨v, M, E, t, hdv, hrv, hM, hE⟩ := hit_word s N D (by omega) (by omega) hD1
  obtain ⟨c, ok, hh, hc⟩ := hit_half hD1 w hg hodd hrv hM hE
  have hsh : IntKind.u64.wrap (2 ^ (D + 1)) = ((2 ^ (D + 1) : Nat) : Int) := by
    have h2 : 2 ^ (D + 1) ≤ 2 ^ 21 := Nat.pow_le_pow_right (by omega) (by omega)
    have := wrap_u64_nat (2 ^ (D + 1)) (by omega)
    rw [← this]
    simp
  refine hit_walk k dec (sg s N) c _ ok s D N v w hk1 hk2 hD1 hD hN33 hN ?_ hsh (run_float_arith w .quo 22 .f64 _ _ v hdv) hh hc
  cases s
  · right
    refine ⟨rfl, ?_, by simp [sg]⟩
    rw [← hN, ← hs]; simp
  · left
    refine ⟨rfl, ?_, by simp [sg]⟩
    rw [← hN, ← hs]
end Go.Proofs.YbulkecdwDoor
