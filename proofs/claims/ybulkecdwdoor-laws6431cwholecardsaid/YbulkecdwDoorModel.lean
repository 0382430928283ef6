import Derived.Test.YbulkecdwDoorWalk
import Derived.Deep.Cut
import Derived.RowKit
namespace Go.Proofs.YbulkecdwDoor
open Go.ChangeShapes Go.WideShapes Go.RowKit
set_option linter.unusedVariables false
namespace Model
def Hid (p : Prop) : Prop := p
theorem hide {p : Prop} (h : p) : Hid p := h
theorem unhide {p : Prop} (h : Hid p) : p := h
theorem pow5_mono' (N : Nat) {i d : Nat} (h : i ≤ d) : N * 5 ^ i ≤ N * 5 ^ d := Nat.mul_le_mul_left _ (Nat.pow_le_pow_right (by omega) h)

set_option maxRecDepth 100000 in
set_option maxHeartbeats 4000000 in
theorem model_nan (v d e f : Nat) (w : World) (hv : v < 2 ^ 64)
    (he : bits .and .u64 ((v : Int) / 4503599627370496) 2047 = (e : Int)) (hf : bits .and .u64 (v : Int) 4503599627370495 = (f : Int)) (he2 : e = 2047) :
    Calls Ybad.prog 6 #[.float .f64 v, .int .i64 d] w fun e w' => e = .returned (.tuple #[.int .i64 0, .bool false]) ∧ w' = w := by
  have hb := call_bits
  subst he2
  have hv1 : (v : Int) < 18446744073709551616 := by omega
  go_enter Ybad.func6, Ybad.ntmps6
  go_wp2_with fail
  go_ret2
  exact ⟨rfl, rfl⟩

set_option maxRecDepth 100000 in
set_option maxHeartbeats 4000000 in
theorem model_zero (v d e f : Nat) (w : World) (hv : v < 2 ^ 64)
    (he : bits .and .u64 ((v : Int) / 4503599627370496) 2047 = (e : Int)) (hf : bits .and .u64 (v : Int) 4503599627370495 = (f : Int)) (he2 : e = 0) (hf2 : f = 0) :
    Calls Ybad.prog 6 #[.float .f64 v, .int .i64 d] w fun e w' => e = .returned (.tuple #[.int .i64 0, .bool false]) ∧ w' = w := by
  have hb := call_bits
  subst he2 hf2
  have hv1 : (v : Int) < 18446744073709551616 := by omega
  go_enter Ybad.func6, Ybad.ntmps6
  go_wp2_with fail
  go_ret2
  exact ⟨rfl, rfl⟩

set_option maxRecDepth 100000 in
set_option maxHeartbeats 8000000 in
theorem model_sub (v d e f M o t : Nat) (E : Int) (s ok : Bool) (c : Int) (w : World) (hv : v < 2 ^ 64) (hd : d < 21)
    (he : bits .and .u64 ((v : Int) / 4503599627370496) 2047 = (e : Int)) (hf : bits .and .u64 (v : Int) 4503599627370495 = (f : Int)) (hf2 : (f : Int) < 4503599627370496)
    (he2 : e = 0) (hM2 : M = f) (hE : E = -1074) (hM53 : M < 2 ^ 53) (hM : M = o * 2 ^ t) (ho : o % 2 = 1) (ht : t < 64)
    (hs : (s = true ∧ (v : Int) / 9223372036854775808 = 1) ∨ (s = false ∧ (v : Int) / 9223372036854775808 = 0))
    (hr : (E + t + 1 + d = 0 ∧ o * 5 ^ d < 2 ^ 53 → c = sg s ((o * 5 ^ d + 1) / 2) ∧ ok = true) ∧ (¬ (E + t + 1 + d = 0 ∧ o * 5 ^ d < 2 ^ 53) → c = 0 ∧ ok = false)) :
    Calls Ybad.prog 6 #[.float .f64 v, .int .i64 d] w fun e w' => e = .returned (.tuple #[.int .i64 c, .bool ok]) ∧ w' = w := by
  have hb := call_bits
  have hv1 : (v : Int) < 18446744073709551616 := by omega
  have hd1 : (d : Int) < 21 := by omega
  have HS := hide hs
  have HR := hide hr
  have HM := hide hM
  have hMpos : 0 < M := by rw [hM]; exact Nat.mul_pos (by omega) (pow_pos2 t)
  have hE1 : -1074 ≤ E := by omega
  have hE2 : E ≤ 1000 := by omega
  subst he2
  have hM0 : ((f : Int) == 0) = false := by rw [beq_eq_false_iff_ne]; omega
  have hMi : (M : Int) < 9007199254740992 := by omega
  have HE := hide hE
  have HM2 := hide hM2
  clear hM2
  clear hs hr hM hE
  go_enter Ybad.func6, Ybad.ntmps6
  go_wp2_with fail
  go_loop [9, 10, 11] (fun m x k => ∃ j : Nat, j ≤ t ∧ k = .int .i64 j ∧ x = .int .i64 (E + j) ∧ ∃ X : Nat, Hid (X = o * 2 ^ (t - j)) ∧ (X : Int) < 9007199254740992 ∧ m = .int .u64 X) (fun _ _ k => t - (intOf k).toNat)
  case atStart => exact ⟨0, Nat.zero_le _, rfl, by rw [unhide HE]; simp, M, hide (by rw [unhide HM]; simp), by omega, by rw [unhide HM2]⟩
  case round =>
    obtain ⟨j, hj, rfl, rfl, X, hX, hX1, rfl⟩ := hrel
    have hj64 : (j : Int) < 64 := by omega
    have hj64n : j < 64 := by omega
    have hXX := unhide hX
    by_cases h1 : j < t
    · have hev : X % 2 = 0 := by
        rw [hXX, show t - j = (t - j - 1) + 1 by omega, Nat.pow_succ, ← Nat.mul_assoc]; omega
      have hx2 : X / 2 = o * 2 ^ (t - (j + 1)) := by
        rw [hXX, show t - j = (t - (j + 1)) + 1 by omega, Nat.pow_succ, ← Nat.mul_assoc]; omega
      have hm2 : (Int.tmod (X : Int) 2 == 0) = true := by
        rw [Int.tmod_eq_emod_of_nonneg (by omega), beq_iff_eq]; omega
      have hd2 : Int.tdiv (X : Int) 2 = ((X / 2 : Nat) : Int) := by
        rw [Int.tdiv_eq_ediv_of_nonneg (by omega)]; omega
      have hm3 : ((X : Int) % 2 == 0) = true := by rw [beq_iff_eq]; omega
      have hd3 : (X : Int) / 2 = ((X / 2 : Nat) : Int) := by omega
      have HX2 := hide hx2
      have hY1 : ((X / 2 : Nat) : Int) < 9007199254740992 := by omega
      clear hXX hx2 hev hX
      generalize X / 2 = Y at hd2 hd3 HX2 hY1
      go_wp2_with fail
      exact ⟨⟨j + 1, by omega, by simp, by simp; omega, Y, HX2, hY1, by simp⟩, by simp [intOf]; omega⟩
    · obtain rfl : j = t := by omega
      have hXo : X = o := by rw [hXX]; simp
      subst hXo
      have hm2 : (Int.tmod (X : Int) 2 == 0) = false := by
        rw [Int.tmod_eq_emod_of_nonneg (by omega), beq_eq_false_iff_ne]; omega
      have hm3 : ((X : Int) % 2 == 0) = false := by rw [beq_eq_false_iff_ne]; omega
      clear hXX hX
      by_cases hz : E + j + 1 + d = 0
      · have hz1 : (E + (j : Int) + 1 + (d : Int) != 0) = false := by rw [bne_eq_false_iff_eq]; exact hz
        have hXg : ¬ (9007199254740992 ≤ (X : Int)) := by omega
        have hXg2 : ¬ 9007199254740992 ≤ X := by omega
        have hXg3 : decide (9007199254740992 ≤ (X : Int)) = false := decide_eq_false hXg
        have HZ := hide hz
        clear hz
        go_wp2_with fail
        go_loop [12, 13] (fun n i => ∃ q : Nat, q ≤ d ∧ i = .int .i64 q ∧ ∃ Y : Nat, Hid (Y = X * 5 ^ q) ∧ (Y : Int) < 9007199254740992 ∧ n = .int .u64 Y) (fun _ i => d - (intOf i).toNat)
        case atStart => exact ⟨0, Nat.zero_le _, rfl, X, hide (by simp), by omega, rfl⟩
        case round =>
          obtain ⟨q, hq, rfl, Y, hY, hY1, rfl⟩ := hrel
          by_cases h2 : (q : Int) < (d : Int)
          · have h2n : q < d := by omega
            have h2d : decide ((q : Int) < (d : Int)) = true := decide_eq_true h2
            by_cases h3 : (Y : Int) * 5 < 9007199254740992
            · have h3g : ¬ (9007199254740992 ≤ (Y : Int) * 5) := by omega
              have h3d : decide (9007199254740992 ≤ (Y : Int) * 5) = false := decide_eq_false h3g
              go_wp2_with fail
              exact ⟨⟨q + 1, by omega, by simp, Y * 5, hide (by rw [unhide hY, Nat.pow_succ, Nat.mul_assoc]), by omega, by simp⟩, by simp [intOf]; omega⟩
            · have h3g : 9007199254740992 ≤ (Y : Int) * 5 := by omega
              have h3d : decide (9007199254740992 ≤ (Y : Int) * 5) = true := decide_eq_true h3g
              have hbig : ¬ X * 5 ^ d < 2 ^ 53 := by
                have := pow5_mono' X (show q + 1 ≤ d by omega)
                rw [Nat.pow_succ, ← Nat.mul_assoc, ← unhide hY] at this
                omega
              obtain ⟨rfl, rfl⟩ := (unhide HR).2 (fun h => hbig h.2)
              clear hbig hY
              go_wp2_with fail
              go_ret2
              exact ⟨rfl, rfl⟩
          · obtain rfl : q = d := by omega
            have hyes := (unhide HR).1 ⟨unhide HZ, by rw [← unhide hY]; omega⟩
            rw [← unhide hY] at hyes
            obtain ⟨rfl, rfl⟩ := hyes
            have hq1 : Int.tdiv ((Y : Int) + 1) 2 = (((Y + 1) / 2 : Nat) : Int) := by
              rw [Int.tdiv_eq_ediv_of_nonneg (by omega)]; omega
            have hq2 : ((Y : Int) + 1) / 2 = (((Y + 1) / 2 : Nat) : Int) := by omega
            have hQ1 : (((Y + 1) / 2 : Nat) : Int) < 9007199254740992 := by omega
            generalize (Y + 1) / 2 = Q at hq1 hq2 hQ1
            clear hY
            rcases unhide HS with ⟨rfl, hs1⟩ | ⟨rfl, hs1⟩
            · have hs2 : ((v : Int) / 9223372036854775808 == 1) = true := by rw [beq_iff_eq]; exact hs1
              clear hs1 HS
              go_wp2_with fail
              go_ret2
              exact ⟨by simp [sg, hq2], rfl⟩
            · have hs2 : ((v : Int) / 9223372036854775808 == 1) = false := by rw [beq_eq_false_iff_ne]; omega
              clear hs1 HS
              go_wp2_with fail
              go_ret2
              exact ⟨by simp [sg, hq2], rfl⟩
      · have hz1 : (E + (j : Int) + 1 + (d : Int) != 0) = true := by rw [bne_iff_ne]; exact hz
        obtain ⟨rfl, rfl⟩ := (unhide HR).2 (fun h => hz h.1)
        clear hz
        go_wp2_with fail
        go_ret2
        exact ⟨rfl, rfl⟩

set_option maxRecDepth 100000 in
set_option maxHeartbeats 8000000 in
theorem model_norm (v d e f M o t : Nat) (E : Int) (s ok : Bool) (c : Int) (w : World) (hv : v < 2 ^ 64) (hd : d < 21)
    (he : bits .and .u64 ((v : Int) / 4503599627370496) 2047 = (e : Int)) (hf : bits .and .u64 (v : Int) 4503599627370495 = (f : Int)) (hf2 : (f : Int) < 4503599627370496)
    (he2 : ¬ e = 0) (he3 : e < 2047) (hM2 : bits .or .u64 (f : Int) 4503599627370496 = (M : Int)) (hE : E = (e : Int) - 1075) (hM53 : M < 2 ^ 53) (hM : M = o * 2 ^ t) (ho : o % 2 = 1) (ht : t < 64)
    (hs : (s = true ∧ (v : Int) / 9223372036854775808 = 1) ∨ (s = false ∧ (v : Int) / 9223372036854775808 = 0))
    (hr : (E + t + 1 + d = 0 ∧ o * 5 ^ d < 2 ^ 53 → c = sg s ((o * 5 ^ d + 1) / 2) ∧ ok = true) ∧ (¬ (E + t + 1 + d = 0 ∧ o * 5 ^ d < 2 ^ 53) → c = 0 ∧ ok = false)) :
    Calls Ybad.prog 6 #[.float .f64 v, .int .i64 d] w fun e w' => e = .returned (.tuple #[.int .i64 c, .bool ok]) ∧ w' = w := by
  have hb := call_bits
  have hv1 : (v : Int) < 18446744073709551616 := by omega
  have hd1 : (d : Int) < 21 := by omega
  have HS := hide hs
  have HR := hide hr
  have HM := hide hM
  have hMpos : 0 < M := by rw [hM]; exact Nat.mul_pos (by omega) (pow_pos2 t)
  have hE1 : -1074 ≤ E := by omega
  have hE2 : E ≤ 1000 := by omega
  have he4 : (e : Int) < 2047 := by omega
  have he5 : ((e : Int) == 0) = false := by rw [beq_eq_false_iff_ne]; omega
  have he6 : ((e : Int) == 2047) = false := by rw [beq_eq_false_iff_ne]; omega
  have hM0 : ((M : Int) == 0) = false := by rw [beq_eq_false_iff_ne]; omega
  have hMi : (M : Int) < 9007199254740992 := by omega
  have HE := hide hE
  clear hs hr hM hE
  go_enter Ybad.func6, Ybad.ntmps6
  go_wp2_with fail
  go_loop [9, 10, 11] (fun m x k => ∃ j : Nat, j ≤ t ∧ k = .int .i64 j ∧ x = .int .i64 (E + j) ∧ ∃ X : Nat, Hid (X = o * 2 ^ (t - j)) ∧ (X : Int) < 9007199254740992 ∧ m = .int .u64 X) (fun _ _ k => t - (intOf k).toNat)
  case atStart => exact ⟨0, Nat.zero_le _, rfl, by rw [unhide HE]; simp, M, hide (by rw [unhide HM]; simp), by omega, rfl⟩
  case round =>
    obtain ⟨j, hj, rfl, rfl, X, hX, hX1, rfl⟩ := hrel
    have hj64 : (j : Int) < 64 := by omega
    have hj64n : j < 64 := by omega
    have hXX := unhide hX
    by_cases h1 : j < t
    · have hev : X % 2 = 0 := by
        rw [hXX, show t - j = (t - j - 1) + 1 by omega, Nat.pow_succ, ← Nat.mul_assoc]; omega
      have hx2 : X / 2 = o * 2 ^ (t - (j + 1)) := by
        rw [hXX, show t - j = (t - (j + 1)) + 1 by omega, Nat.pow_succ, ← Nat.mul_assoc]; omega
      have hm2 : (Int.tmod (X : Int) 2 == 0) = true := by
        rw [Int.tmod_eq_emod_of_nonneg (by omega), beq_iff_eq]; omega
      have hd2 : Int.tdiv (X : Int) 2 = ((X / 2 : Nat) : Int) := by
        rw [Int.tdiv_eq_ediv_of_nonneg (by omega)]; omega
      have hm3 : ((X : Int) % 2 == 0) = true := by rw [beq_iff_eq]; omega
      have hd3 : (X : Int) / 2 = ((X / 2 : Nat) : Int) := by omega
      have HX2 := hide hx2
      have hY1 : ((X / 2 : Nat) : Int) < 9007199254740992 := by omega
      clear hXX hx2 hev hX
      generalize X / 2 = Y at hd2 hd3 HX2 hY1
      go_wp2_with fail
      exact ⟨⟨j + 1, by omega, by simp, by simp; omega, Y, HX2, hY1, by simp⟩, by simp [intOf]; omega⟩
    · obtain rfl : j = t := by omega
      have hXo : X = o := by rw [hXX]; simp
      subst hXo
      have hm2 : (Int.tmod (X : Int) 2 == 0) = false := by
        rw [Int.tmod_eq_emod_of_nonneg (by omega), beq_eq_false_iff_ne]; omega
      have hm3 : ((X : Int) % 2 == 0) = false := by rw [beq_eq_false_iff_ne]; omega
      clear hXX hX
      by_cases hz : E + j + 1 + d = 0
      · have hz1 : (E + (j : Int) + 1 + (d : Int) != 0) = false := by rw [bne_eq_false_iff_eq]; exact hz
        have hXg : ¬ (9007199254740992 ≤ (X : Int)) := by omega
        have hXg2 : ¬ 9007199254740992 ≤ X := by omega
        have hXg3 : decide (9007199254740992 ≤ (X : Int)) = false := decide_eq_false hXg
        have HZ := hide hz
        clear hz
        go_wp2_with fail
        go_loop [12, 13] (fun n i => ∃ q : Nat, q ≤ d ∧ i = .int .i64 q ∧ ∃ Y : Nat, Hid (Y = X * 5 ^ q) ∧ (Y : Int) < 9007199254740992 ∧ n = .int .u64 Y) (fun _ i => d - (intOf i).toNat)
        case atStart => exact ⟨0, Nat.zero_le _, rfl, X, hide (by simp), by omega, rfl⟩
        case round =>
          obtain ⟨q, hq, rfl, Y, hY, hY1, rfl⟩ := hrel
          by_cases h2 : (q : Int) < (d : Int)
          · have h2n : q < d := by omega
            have h2d : decide ((q : Int) < (d : Int)) = true := decide_eq_true h2
            by_cases h3 : (Y : Int) * 5 < 9007199254740992
            · have h3g : ¬ (9007199254740992 ≤ (Y : Int) * 5) := by omega
              have h3d : decide (9007199254740992 ≤ (Y : Int) * 5) = false := decide_eq_false h3g
              go_wp2_with fail
              exact ⟨⟨q + 1, by omega, by simp, Y * 5, hide (by rw [unhide hY, Nat.pow_succ, Nat.mul_assoc]), by omega, by simp⟩, by simp [intOf]; omega⟩
            · have h3g : 9007199254740992 ≤ (Y : Int) * 5 := by omega
              have h3d : decide (9007199254740992 ≤ (Y : Int) * 5) = true := decide_eq_true h3g
              have hbig : ¬ X * 5 ^ d < 2 ^ 53 := by
                have := pow5_mono' X (show q + 1 ≤ d by omega)
                rw [Nat.pow_succ, ← Nat.mul_assoc, ← unhide hY] at this
                omega
              obtain ⟨rfl, rfl⟩ := (unhide HR).2 (fun h => hbig h.2)
              clear hbig hY
              go_wp2_with fail
              go_ret2
              exact ⟨rfl, rfl⟩
          · obtain rfl : q = d := by omega
            have hyes := (unhide HR).1 ⟨unhide HZ, by rw [← unhide hY]; omega⟩
            rw [← unhide hY] at hyes
            obtain ⟨rfl, rfl⟩ := hyes
            have hq1 : Int.tdiv ((Y : Int) + 1) 2 = (((Y + 1) / 2 : Nat) : Int) := by
              rw [Int.tdiv_eq_ediv_of_nonneg (by omega)]; omega
            have hq2 : ((Y : Int) + 1) / 2 = (((Y + 1) / 2 : Nat) : Int) := by omega
            have hQ1 : (((Y + 1) / 2 : Nat) : Int) < 9007199254740992 := by omega
            generalize (Y + 1) / 2 = Q at hq1 hq2 hQ1
            clear hY
            rcases unhide HS with ⟨rfl, hs1⟩ | ⟨rfl, hs1⟩
            · have hs2 : ((v : Int) / 9223372036854775808 == 1) = true := by rw [beq_iff_eq]; exact hs1
              clear hs1 HS
              go_wp2_with fail
              go_ret2
              exact ⟨by simp [sg, hq2], rfl⟩
            · have hs2 : ((v : Int) / 9223372036854775808 == 1) = false := by rw [beq_eq_false_iff_ne]; omega
              clear hs1 HS
              go_wp2_with fail
              go_ret2
              exact ⟨by simp [sg, hq2], rfl⟩
      · have hz1 : (E + (j : Int) + 1 + (d : Int) != 0) = true := by rw [bne_iff_ne]; exact hz
        obtain ⟨rfl, rfl⟩ := (unhide HR).2 (fun h => hz h.1)
        clear hz
        go_wp2_with fail
        go_ret2
        exact ⟨rfl, rfl⟩
end Model
end Go.Proofs.YbulkecdwDoor
