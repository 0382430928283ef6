import Derived.Test.YbulkecdwDoorModel
import Derived.Test.YbulkecdwDoorNan
import Derived.Deep.Cut
import Derived.RowKit
namespace Go.Proofs.YbulkecdwDoor
open Go.ChangeShapes Go.WideShapes Go.RowKit

theorem odd_part : ∀ (n M : Nat), 0 < M → M < 2 ^ n → ∃ o t, M = o * 2 ^ t ∧ o % 2 = 1 ∧ t < n
  | 0, M, h0, h1 => by omega
  | n + 1, M, h0, h1 => by
    by_cases h : M % 2 = 1
    · exact ⟨M, 0, by simp, h, by omega⟩
    · obtain ⟨o, t, h2, h3, h4⟩ := odd_part n (M / 2) (by omega) (by rw [Nat.pow_succ] at h1; omega)
      refine ⟨o, t + 1, ?_, h3, by omega⟩
      rw [Nat.pow_succ, ← Nat.mul_assoc, ← h2]
      omega

/-- The fields of a word. -/
theorem fields (v : Nat) (hv : v < 2 ^ 64) : ∃ (s : Bool) (e f : Nat), e < 2048 ∧ f < 2 ^ 52 ∧ v / 2 ^ 52 % 2048 = e ∧ v % 2 ^ 52 = f ∧ ((s = true ∧ (v : Int) / 9223372036854775808 = 1) ∨ (s = false ∧ (v : Int) / 9223372036854775808 = 0)) ∧
    Ieee.double.read v = if e = 2047 then (if f = 0 then .infinity s else .nan s f) else if e = 0 then .number s f (-1074) else .number s (2 ^ 52 + f) ((e : Int) - 1075) := by
  obtain ⟨s, r, hr, hw⟩ := is_word v hv
  have hd : r / 2 ^ 52 < 2048 := Nat.div_lt_of_lt_mul (by omega)
  have hm := Nat.mod_lt r (pow_pos2 52)
  have hdm := Nat.div_add_mod r (2 ^ 52)
  have hv1 : v = (if s then 2 ^ 63 + r else r) := by
    rw [hw]; unfold Ieee.Format.word; rw [double_sign]
  refine ⟨s, r / 2 ^ 52, r % 2 ^ 52, hd, hm, ?_, ?_, ?_, ?_⟩
  · rw [hv1]; cases s <;> simp <;> omega
  · rw [hv1]; cases s <;> simp; omega
  · rw [hv1]; cases s
    · right; exact ⟨rfl, by simp; omega⟩
    · left; exact ⟨rfl, by simp; omega⟩
  · rw [hw, read_word s r hr]
    by_cases h1 : r < 2 ^ 52
    · rw [if_pos h1, if_neg (by omega), if_pos (by omega), Nat.mod_eq_of_lt h1]
    · rw [if_neg h1]
      by_cases h2 : r < 2047 * 2 ^ 52
      · rw [if_pos h2, if_neg (by omega), if_neg (by omega), show (-1074 + ((r / 2 ^ 52 - 1 : Nat) : Int)) = ((r / 2 ^ 52 : Nat) : Int) - 1075 by omega]
      · have hq : r / 2 ^ 52 = 2047 := by omega
        rw [if_neg h2, if_pos hq]
        by_cases h3 : r = 2047 * 2 ^ 52
        · rw [if_pos h3, if_pos (show r % 2 ^ 52 = 0 by omega)]
        · rw [if_neg h3, if_neg (show ¬ r % 2 ^ 52 = 0 by omega), show r - 2047 * 2 ^ 52 = r % 2 ^ 52 by omega]

theorem both_at (v d : Nat) (hv : v < 2 ^ 64) (hd : d < 21) (w : World) (hg : Tab w) : ∃ (c : Int) (ok : Bool) (w1 : World), (w1 = w ∨ w1 = w.drew)
    ∧ (Calls Ybad.prog 5 #[.float .f64 v, .int .i64 d] w fun e w' => e = .returned (.tuple #[.int .i64 c, .bool ok]) ∧ w' = w1)
    ∧ (Calls Ybad.prog 6 #[.float .f64 v, .int .i64 d] w1 fun e w' => e = .returned (.tuple #[.int .i64 c, .bool ok]) ∧ w' = w1) := by
  obtain ⟨s, e, f, he, hf, hve, hvf, hs, hread⟩ := fields v hv
  have hbe : bits .and .u64 ((v : Int) / 4503599627370496) 2047 = (e : Int) := by
    have := bits_and_2047 (v / 2 ^ 52) (by omega)
    rw [hve] at this
    rw [← this]
    congr 1
  have hbf : bits .and .u64 (v : Int) 4503599627370495 = (f : Int) := by
    rw [bits_and_52 v hv, hvf]
  have hfi : (f : Int) < 4503599627370496 := by omega
  by_cases h1 : e = 2047
  · rw [if_pos h1] at hread
    by_cases h2 : f = 0
    · rw [if_pos h2] at hread
      obtain ⟨mw, p, g1, g2, g3, g4⟩ := half_inf hd hread
      exact ⟨0, false, w, .inl rfl, half_calls_far hd w hg g1 g2 g3 g4, Model.model_nan v d e f w hv hbe hbf h1⟩
    · rw [if_neg h2] at hread
      obtain ⟨mw, g1, g2⟩ := half_nan hd hread
      exact ⟨0, false, w.drew, .inr rfl, half_calls_nan hd w hg g1 g2, Model.model_nan v d e f _ hv hbe hbf h1⟩
  · rw [if_neg h1] at hread
    -- the two kinds of numbers
    have key : ∀ (M : Nat) (E : Int), Ieee.double.read v = .number s M E → 0 < M →
        (∀ (o t : Nat) (c : Int) (ok : Bool), M = o * 2 ^ t → o % 2 = 1 → t < 64 → ((E + t + 1 + d = 0 ∧ o * 5 ^ d < 2 ^ 53 → c = sg s ((o * 5 ^ d + 1) / 2) ∧ ok = true) ∧ (¬ (E + t + 1 + d = 0 ∧ o * 5 ^ d < 2 ^ 53) → c = 0 ∧ ok = false)) →
          (Calls Ybad.prog 6 #[.float .f64 v, .int .i64 d] w fun e w' => e = .returned (.tuple #[.int .i64 c, .bool ok]) ∧ w' = w)) →
        ∃ (c : Int) (ok : Bool) (w1 : World), (w1 = w ∨ w1 = w.drew)
          ∧ (Calls Ybad.prog 5 #[.float .f64 v, .int .i64 d] w fun e w' => e = .returned (.tuple #[.int .i64 c, .bool ok]) ∧ w' = w1)
          ∧ (Calls Ybad.prog 6 #[.float .f64 v, .int .i64 d] w1 fun e w' => e = .returned (.tuple #[.int .i64 c, .bool ok]) ∧ w' = w1) := by
      intro M E hr hM hmod
      obtain ⟨hb1, hb2, hb3⟩ := read_bounds hr
      obtain ⟨o, t, hot, ho, ht⟩ := odd_part 53 M hM hb1
      by_cases hy : E + t + 1 + d = 0 ∧ o * 5 ^ d < 2 ^ 53
      · obtain ⟨mw, p, g1, g2, g3, g4, g5, g6, g7, g8⟩ := half_yes hd hr hot ho hy.1 hy.2
        exact ⟨_, true, w, .inl rfl, half_calls_yes hd w hg g1 g2 g3 hy.2 (odd_mul ho (five_odd d)) g4 g5 g6 g7 (by decide +kernel) g8,
          hmod o t _ _ hot ho (by omega) ⟨fun _ => ⟨rfl, rfl⟩, fun h => absurd hy h⟩⟩
      · obtain ⟨mw, p, g1, g2, g3, g4⟩ := half_no (L := -1200) (by omega) hd hr (val_no (by omega) hb2 hot ho hy)
        exact ⟨0, false, w, .inl rfl, half_calls_no hd w hg g1 g2 g3 g4, hmod o t _ _ hot ho (by omega) ⟨fun h => absurd h hy, fun _ => ⟨rfl, rfl⟩⟩⟩
    by_cases h2 : e = 0
    · rw [if_pos h2] at hread
      by_cases h3 : f = 0
      · subst h3
        obtain ⟨mw, p, g1, g2, g3, g4⟩ := half_no (L := -1200) (by omega) hd hread val_no_zero
        exact ⟨0, false, w, .inl rfl, half_calls_no hd w hg g1 g2 g3 g4, Model.model_zero v d e 0 w hv hbe hbf h2 rfl⟩
      · exact key f (-1074) hread (by omega) (fun o t c ok a1 a2 a3 a4 => Model.model_sub v d e f f o t (-1074) s ok c w hv hd hbe hbf hfi h2 rfl rfl (by omega) a1 a2 a3 hs a4)
    · rw [if_neg h2] at hread
      exact key (2 ^ 52 + f) ((e : Int) - 1075) hread (by omega) (fun o t c ok a1 a2 a3 a4 => Model.model_norm v d e f (2 ^ 52 + f) o t ((e : Int) - 1075) s ok c w hv hd hbe hbf hfi h2 (by omega) (bits_or_52 f hf) rfl (by omega) a1 a2 a3 hs a4)

theorem dec_at' (dec : Int) : ∃ D : Nat, D < 21 ∧ (IntKind.u64.wrap dec).tmod 21 = (D : Int) := by
  have h0 : 0 ≤ IntKind.u64.wrap dec := by rw [IntKind.wrap_u64]; omega
  refine ⟨((IntKind.u64.wrap dec).tmod 21).toNat, ?_, ?_⟩
  · rw [Int.tmod_eq_emod_of_nonneg h0]; omega
  · rw [Int.tmod_eq_emod_of_nonneg h0]; omega

set_option maxRecDepth 100000 in
set_option maxHeartbeats 4000000 in
theorem whole_law (v : Nat) (dec : Int) (hv : v < 2 ^ 64) (w : World) (hg : Tab w) :
    Calls Ybad.prog 3 #[.float .f64 v, .int .i64 dec] w fun e w' => e = .returned (.bool true) ∧ (w' = w ∨ w' = w.drew) := by
  obtain ⟨D, hD1, hD⟩ := dec_at' dec
  obtain ⟨c, ok, w1, hw1, hh, hm⟩ := both_at v D hv hD1 w hg
  have hDi : (D : Int) < 21 := by omega
  have HH := Model.hide hh
  have HM := Model.hide hm
  have HW := Model.hide hw1
  clear hh hm hw1 hg
  cases ok
  · go_enter Ybad.func3, Ybad.ntmps3
    go_wp2_with fail
    refine (Model.unhide HH).mono ?_
    rintro _ _ ⟨rfl, rfl⟩
    go_wp2_with fail
    refine (Model.unhide HM).mono ?_
    rintro _ _ ⟨rfl, rfl⟩
    go_wp2_with fail
    go_ret
    exact ⟨by simp, Model.unhide HW⟩
  · go_enter Ybad.func3, Ybad.ntmps3
    go_wp2_with fail
    refine (Model.unhide HH).mono ?_
    rintro _ _ ⟨rfl, rfl⟩
    go_wp2_with fail
    refine (Model.unhide HM).mono ?_
    rintro _ _ ⟨rfl, rfl⟩
    go_wp2_with fail
    go_ret
    exact ⟨by simp, Model.unhide HW⟩
end Go.Proofs.YbulkecdwDoor
