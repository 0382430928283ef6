import Derived.Test.YbulkechqModel
namespace Go.Proofs.Ybulkechq
open Go.ChangeShapes Go.WideShapes Go.RowKit
set_option linter.unusedVariables false

theorem bv_nat (n : Nat) (h : n < 2 ^ 64) : (BitVec.ofInt 64 (n : Int)).toNat = n := by
  rw [BitVec.toNat_ofInt]; omega
theorem bits_and_pow (x n : Nat) (hx : x < 2 ^ 64) (hn : n ≤ 63) : bits .and .u64 (x : Int) ((2 ^ n - 1 : Nat) : Int) = ((x % 2 ^ n : Nat) : Int) := by
  have hp : 2 ^ n ≤ 2 ^ 63 := Nat.pow_le_pow_right (by omega) hn
  have e : (BitVec.ofInt 64 (x : Int) &&& BitVec.ofInt 64 ((2 ^ n - 1 : Nat) : Int)).toNat = x % 2 ^ n := by
    rw [BitVec.toNat_and, bv_nat x hx, bv_nat _ (by omega), Nat.and_two_pow_sub_one_eq_mod]
  show IntKind.u64.wrap ((BitVec.ofInt 64 (x : Int) &&& BitVec.ofInt 64 ((2 ^ n - 1 : Nat) : Int)).toNat : Int) = _
  rw [e, wrap_u64_nat _ (Nat.lt_of_le_of_lt (Nat.mod_le _ _) hx)]
theorem bits_or_pow (a b n : Nat) (hb : b < 2 ^ n) (h : 2 ^ n * a + b < 2 ^ 64) : bits .or .u64 ((2 ^ n * a : Nat) : Int) (b : Int) = ((2 ^ n * a + b : Nat) : Int) := by
  have e : (BitVec.ofInt 64 ((2 ^ n * a : Nat) : Int) ||| BitVec.ofInt 64 (b : Int)).toNat = 2 ^ n * a + b := by
    rw [BitVec.toNat_or, bv_nat _ (by omega), bv_nat _ (by omega)]
    exact (Nat.two_pow_add_eq_or_of_lt hb a).symm
  show IntKind.u64.wrap ((BitVec.ofInt 64 ((2 ^ n * a : Nat) : Int) ||| BitVec.ofInt 64 (b : Int)).toNat : Int) = _
  rw [e, wrap_u64_nat _ h]
theorem bits_or_top (R : Nat) (h : R < 2 ^ 63) : bits .or .u64 (R : Int) 9223372036854775808 = ((9223372036854775808 + R : Nat) : Int) := by
  have e : (BitVec.ofInt 64 (R : Int) ||| BitVec.ofInt 64 ((2 ^ 63 : Nat) : Int)).toNat = 2 ^ 63 + R := by
    rw [BitVec.toNat_or, bv_nat R (by omega), bv_nat _ (by omega)]
    have := Nat.two_pow_add_eq_or_of_lt h 1
    rw [Nat.or_comm, Nat.mul_one] at this
    omega
  show IntKind.u64.wrap ((BitVec.ofInt 64 (R : Int) ||| BitVec.ofInt 64 ((2 ^ 63 : Nat) : Int)).toNat : Int) = _
  rw [e, wrap_u64_nat _ (by omega)]
theorem or52 (a : Int) (b : Nat) (ha : 0 ≤ a) (ha2 : a < 2048) (hb : b < 4503599627370496) (R : Nat) (hR : R = a.toNat * 2 ^ 52 + b) : bits .or .u64 (a * 4503599627370496) (b : Int) = (R : Int) := by
  have := bits_or_pow a.toNat b 52 hb (by omega)
  have e : ((2 ^ 52 * a.toNat : Nat) : Int) = a * 4503599627370496 := by omega
  rw [e] at this
  rw [this, hR]
  omega

theorem word_of (neg : Bool) (R : Nat) : wordOf neg R = Ieee.double.word neg R := by
  unfold wordOf Ieee.Format.word
  rw [double_sign]

/-- The tail's facts, in the normal range. -/
theorem tail_norm {q : Nat} {ex : Int} (h1 : 2 ^ 52 ≤ q) (h2 : q ≤ 2 ^ 53) (hx : -1074 ≤ ex) (hx2 : ex < 2000) : Tail q (min ((ex + 1074).toNat * 2 ^ 52 + q) (2047 * 2 ^ 52)) ex := by
  unfold Tail
  by_cases h53 : q = 9007199254740992
  · left
    refine ⟨h53, hx, ?_⟩
    by_cases hc : 2046 < ex + 1 + 52 + 1023
    · left; exact ⟨hc, by omega⟩
    · right
      refine ⟨by omega, ?_⟩
      exact or52 (ex + 1 + 52 + 1023) 0 (by omega) (by omega) (by omega) _ (by omega)
  · right; left
    refine ⟨h1, by omega, hx, ?_⟩
    by_cases hc : 2046 < ex + 52 + 1023
    · left; exact ⟨hc, by omega⟩
    · right
      refine ⟨by omega, ?_⟩
      have := or52 (ex + 52 + 1023) (q - 4503599627370496) (by omega) (by omega) (by omega) (min ((ex + 1074).toNat * 2 ^ 52 + q) (2047 * 2 ^ 52)) (by omega)
      rw [← this]
      congr 1
      omega
theorem tail_sub {q : Nat} (h2 : q ≤ 2 ^ 52) : Tail q (min q (2047 * 2 ^ 52)) (-1074) := by
  unfold Tail
  have e : min q (2047 * 2 ^ 52) = q := by omega
  rw [e]
  by_cases h : q < 4503599627370496
  · right; right; exact ⟨h, rfl⟩
  · right; left
    have hq : q = 4503599627370496 := by omega
    subst hq
    refine ⟨by omega, by omega, by omega, ?_⟩
    right
    refine ⟨by omega, ?_⟩
    exact or52 1 0 (by omega) (by omega) (by omega) _ (by decide)

theorem step_facts (n sh : Nat) (hn : n < 2 ^ 62) (h1 : 1 ≤ sh) (h2 : sh < 64) :
    (n : Int) / 2 ^ sh = ((n / 2 ^ sh : Nat) : Int) ∧ bits .and .u64 (n : Int) (IntKind.u64.wrap (IntKind.u64.wrap (2 ^ sh) - 1)) = ((n % 2 ^ sh : Nat) : Int) ∧ IntKind.u64.wrap (2 ^ (sh - 1)) = ((2 ^ (sh - 1) : Nat) : Int) := by
  have hp := pow_pos2 sh
  have hp63 : 2 ^ sh ≤ 2 ^ 63 := Nat.pow_le_pow_right (by omega) (by omega)
  have hq63 : 2 ^ (sh - 1) ≤ 2 ^ 63 := Nat.pow_le_pow_right (by omega) (by omega)
  have c1 : (2 : Int) ^ sh = ((2 ^ sh : Nat) : Int) := by simp
  have c2 : (2 : Int) ^ (sh - 1) = ((2 ^ (sh - 1) : Nat) : Int) := by simp
  refine ⟨?_, ?_, ?_⟩
  · rw [c1]; exact (Int.natCast_ediv _ _).symm
  · rw [c1, wrap_u64_nat _ (by omega), show ((2 ^ sh : Nat) : Int) - 1 = ((2 ^ sh - 1 : Nat) : Int) by omega, wrap_u64_nat _ (by omega)]
    exact bits_and_pow n sh (by omega) (by omega)
  · rw [c2, wrap_u64_nat _ (by omega)]

theorem and_one (q : Nat) (hq : q < 2 ^ 64) : bits .and .u64 (q : Int) 1 = ((q % 2 : Nat) : Int) := by
  have := bits_and_pow q 1 hq (by omega)
  simpa using this

/-- n over 2^sh, as the model rounds it. -/
theorem rne_parts {n G h q0 rem : Nat} (hG : G = 2 * h) (hn : n = q0 * G + rem) (hr : rem < G) :
    (h < rem → RNE n G (q0 + 1)) ∧ (rem = h → q0 % 2 = 1 → RNE n G (q0 + 1)) ∧ (rem = h → ¬ q0 % 2 = 1 → RNE n G q0) ∧ (rem < h → RNE n G q0) := by
  have e : (q0 + 1) * G = q0 * G + G := by rw [Nat.add_mul, Nat.one_mul]
  refine ⟨fun a => ?_, fun a b => ?_, fun a b => ?_, fun a => ?_⟩
  · unfold RNE; rw [e]; refine ⟨by omega, by omega, fun x => by omega, fun x => by omega⟩
  · unfold RNE; rw [e]; refine ⟨by omega, by omega, fun x => by omega, fun x => by omega⟩
  · unfold RNE; refine ⟨by omega, by omega, fun x => by omega, fun x => by omega⟩
  · unfold RNE; refine ⟨by omega, by omega, fun x => by omega, fun x => by omega⟩

theorem model_N (neg : Bool) (n sh R : Nat) (e b ex : Int) (h1 : 2 ^ 60 ≤ n) (h2 : n < 2 ^ 62) (he1 : -1138 ≤ e) (he2 : e ≤ 963) (hb : (n < 2 ^ 61 ∧ b = 61) ∨ (¬ n < 2 ^ 61 ∧ b = 62))
    (hbs : b - 53 = (sh : Int)) (hsd : ¬ (sh : Int) < -1074 - e) (hs4 : 8 ≤ sh) (hs3 : sh < 64) (hex : (sh : Int) + e = ex) (ht : ∀ q, RNE n (2 ^ sh) q → Tail q R ex ∧ q ≤ 9007199254740992) (hR : R < 2 ^ 63) (w : World) :
    Calls Yba.prog 5 #[.bool neg, .int .u64 n, .int .i64 e] w fun x w' => x = .returned (.float .f64 (wordOf neg R)) ∧ w' = w := by
  obtain ⟨f1, f2, f3⟩ := step_facts n sh h2 (by omega) hs3
  have hp := pow_pos2 sh
  have hG : 2 ^ sh = 2 * 2 ^ (sh - 1) := by rw [Nat.mul_comm, ← Nat.pow_succ]; congr 1; omega
  have hdm : n = n / 2 ^ sh * 2 ^ sh + n % 2 ^ sh := by have := Nat.div_add_mod n (2 ^ sh); rw [Nat.mul_comm] at this; exact this.symm
  have hml := Nat.mod_lt n hp
  obtain ⟨r1, r2, r3, r4⟩ := rne_parts hG hdm hml
  have hqle : n / 2 ^ sh ≤ n := Nat.div_le_self _ _
  have ho := bits_or_top R hR
  have ha := and_one (n / 2 ^ sh) (by omega)
  generalize n / 2 ^ sh = q0 at *
  generalize n % 2 ^ sh = rem at *
  generalize 2 ^ (sh - 1) = half at *
  by_cases c1 : half < rem
  · obtain ⟨t, tb⟩ := ht _ (r1 c1)
    exact model_N_gt neg n sh q0 rem half (q0 + 1) R e b ex _ h1 h2 he1 he2 hb rfl hbs (decide_eq_false hsd) hsd hs4 hs3 f1 f2 f3 (decide_eq_true (by omega)) c1 (by omega) hex t tb ho w
  · have hd : decide ((half : Int) < (rem : Int)) = false := decide_eq_false (by omega)
    by_cases c2 : rem = half
    · have hb2 : ((rem : Int) == (half : Int)) = true := by rw [beq_iff_eq]; omega
      by_cases c3 : q0 % 2 = 1
      · obtain ⟨t, tb⟩ := ht _ (r2 c2 c3)
        exact model_N_odd neg n sh q0 rem half (q0 + 1) R e b ex _ h1 h2 he1 he2 hb rfl hbs (decide_eq_false hsd) hsd hs4 hs3 f1 f2 f3 hd c1 hb2 (by rw [ha, beq_iff_eq]; omega) (by omega) hex t tb ho w
      · obtain ⟨t, tb⟩ := ht _ (r3 c2 c3)
        exact model_N_even neg n sh rem half q0 R e b ex _ h1 h2 he1 he2 hb rfl hbs (decide_eq_false hsd) hsd hs4 hs3 f1 f2 f3 hd c1 hb2 (by rw [ha, beq_eq_false_iff_ne]; omega) hex t tb ho w
    · obtain ⟨t, tb⟩ := ht _ (r4 (by omega))
      exact model_N_lt neg n sh rem half q0 R e b ex _ h1 h2 he1 he2 hb rfl hbs (decide_eq_false hsd) hsd hs4 hs3 f1 f2 f3 hd c1 (by rw [beq_eq_false_iff_ne]; omega) c2 hex t tb ho w
theorem model_S (neg : Bool) (n sh R : Nat) (e b ex : Int) (h1 : 2 ^ 60 ≤ n) (h2 : n < 2 ^ 62) (he1 : -1138 ≤ e) (he2 : e ≤ 963) (hb : (n < 2 ^ 61 ∧ b = 61) ∨ (¬ n < 2 ^ 61 ∧ b = 62))
    (hs1 : -1074 - e = (sh : Int)) (hsd : b - 53 < (sh : Int)) (hs4 : 8 ≤ sh) (hs3 : sh < 64) (hex : (sh : Int) + e = ex) (ht : ∀ q, RNE n (2 ^ sh) q → Tail q R ex ∧ q ≤ 9007199254740992) (hR : R < 2 ^ 63) (w : World) :
    Calls Yba.prog 5 #[.bool neg, .int .u64 n, .int .i64 e] w fun x w' => x = .returned (.float .f64 (wordOf neg R)) ∧ w' = w := by
  obtain ⟨f1, f2, f3⟩ := step_facts n sh h2 (by omega) hs3
  have hp := pow_pos2 sh
  have hG : 2 ^ sh = 2 * 2 ^ (sh - 1) := by rw [Nat.mul_comm, ← Nat.pow_succ]; congr 1; omega
  have hdm : n = n / 2 ^ sh * 2 ^ sh + n % 2 ^ sh := by have := Nat.div_add_mod n (2 ^ sh); rw [Nat.mul_comm] at this; exact this.symm
  have hml := Nat.mod_lt n hp
  obtain ⟨r1, r2, r3, r4⟩ := rne_parts hG hdm hml
  have hqle : n / 2 ^ sh ≤ n := Nat.div_le_self _ _
  have ho := bits_or_top R hR
  have ha := and_one (n / 2 ^ sh) (by omega)
  generalize n / 2 ^ sh = q0 at *
  generalize n % 2 ^ sh = rem at *
  generalize 2 ^ (sh - 1) = half at *
  by_cases c1 : half < rem
  · obtain ⟨t, tb⟩ := ht _ (r1 c1)
    exact model_S_gt neg n sh q0 rem half (q0 + 1) R e b ex h1 h2 he1 he2 hb hs1 (decide_eq_true hsd) hsd hs4 hs3 f1 f2 f3 (decide_eq_true (by omega)) c1 (by omega) hex t tb ho w
  · have hd : decide ((half : Int) < (rem : Int)) = false := decide_eq_false (by omega)
    by_cases c2 : rem = half
    · have hb2 : ((rem : Int) == (half : Int)) = true := by rw [beq_iff_eq]; omega
      by_cases c3 : q0 % 2 = 1
      · obtain ⟨t, tb⟩ := ht _ (r2 c2 c3)
        exact model_S_odd neg n sh q0 rem half (q0 + 1) R e b ex h1 h2 he1 he2 hb hs1 (decide_eq_true hsd) hsd hs4 hs3 f1 f2 f3 hd c1 hb2 (by rw [ha, beq_iff_eq]; omega) (by omega) hex t tb ho w
      · obtain ⟨t, tb⟩ := ht _ (r3 c2 c3)
        exact model_S_even neg n sh rem half q0 R e b ex h1 h2 he1 he2 hb hs1 (decide_eq_true hsd) hsd hs4 hs3 f1 f2 f3 hd c1 hb2 (by rw [ha, beq_eq_false_iff_ne]; omega) hex t tb ho w
    · obtain ⟨t, tb⟩ := ht _ (r4 (by omega))
      exact model_S_lt neg n sh rem half q0 R e b ex h1 h2 he1 he2 hb hs1 (decide_eq_true hsd) hsd hs4 hs3 f1 f2 f3 hd c1 (by rw [beq_eq_false_iff_ne]; omega) c2 hex t tb ho w

/-- The model rounds to the nearest. -/
theorem model_calls (neg : Bool) (n : Nat) (e : Int) (h1 : 2 ^ 60 ≤ n) (h2 : n < 2 ^ 62) (he1 : -1138 ≤ e) (he2 : e ≤ 963) (w : World) :
    Calls Yba.prog 5 #[.bool neg, .int .u64 n, .int .i64 e] w fun x w' => x = .returned (.float .f64 (Ieee.double.nearest neg n e)) ∧ w' = w := by
  obtain ⟨u, K, hu, hl, hK, hr, hK1, hK2, hu8⟩ := first h1 h2
  have hb : (n < 2 ^ 61 ∧ ((u : Int) + 53) = 61) ∨ (¬ n < 2 ^ 61 ∧ ((u : Int) + 53) = 62) := by
    rcases hu with rfl | rfl
    · left; exact ⟨hu8.1 rfl, by omega⟩
    · right; refine ⟨fun h => ?_, by omega⟩
      have := hu8.2 h; omega
  by_cases hc : (u : Int) < -1074 - e
  · by_cases hbig : -1074 - e < 64
    · obtain ⟨sh, hsh⟩ : ∃ sh : Nat, -1074 - e = (sh : Int) := ⟨(-1074 - e).toNat, by omega⟩
      have hq : ∀ q, RNE n (2 ^ sh) q → q = Ieee.Toward.even.cut false n sh := fun q h => RNE.unique (pow_pos2 _) h (cut_rne false n sh (by omega))
      have hcut : Ieee.Toward.even.cut false n sh ≤ 2 ^ 52 := by
        obtain ⟨a1, a2, _, _⟩ := cut_rne false n sh (by omega)
        have hn : n < 2 ^ 53 * 2 ^ u := by rcases hu with rfl | rfl <;> omega
        have hpw : 2 ^ u * 2 ≤ 2 ^ sh := by rw [← Nat.pow_succ]; exact Nat.pow_le_pow_right (by omega) (by omega)
        have hp := pow_pos2 sh
        have : Ieee.Toward.even.cut false n sh * 2 ^ sh < (2 ^ 52 + 1) * 2 ^ sh := by rw [Nat.add_mul, Nat.one_mul]; omega
        have := Nat.lt_of_mul_lt_mul_right this
        omega
      have hw : wordOf neg (min (Ieee.Toward.even.cut false n sh) (2047 * 2 ^ 52)) = Ieee.double.nearest neg n e := by
        rw [near_sub neg n e (by omega) (by omega) (by omega), word_of, show (-1074 - e).toNat = sh by omega]
      rw [← hw]
      exact model_S neg n sh _ e _ (-1074) h1 h2 he1 he2 hb hsh (by omega) (by omega) (by omega) (by omega) (fun q h => by rw [hq q h]; exact ⟨tail_sub hcut, by omega⟩) (by omega) w
    · have he : e = -1138 := by omega
      have hcut : Ieee.Toward.even.cut false n 64 = 0 := by
        refine RNE.unique (pow_pos2 64) (cut_rne false n 64 (by omega)) ?_
        unfold RNE
        refine ⟨by omega, by omega, fun h => by omega, fun h => by omega⟩
      have hw : wordOf neg 0 = Ieee.double.nearest neg n e := by
        rw [near_sub neg n e (by omega) (by omega) (by omega), word_of, show (-1074 - e).toNat = 64 by omega, hcut]
        rfl
      rw [← hw]
      exact model_big neg n e _ h1 h2 he hb w
  · have hq : ∀ q, RNE n (2 ^ u) q → q = K := fun q h => RNE.unique (pow_pos2 _) h hr
    have hw : wordOf neg (min (((u : Int) + e + 1074).toNat * 2 ^ 52 + K) (2047 * 2 ^ 52)) = Ieee.double.nearest neg n e := by
      rw [near_norm neg n e (by omega) (by omega), word_of, hl, show u + 52 - 52 = u by omega, hK, show (e + ((u + 52 : Nat) : Int) - 52 + 1074).toNat = ((u : Int) + e + 1074).toNat by omega]
    rw [← hw]
    exact model_N neg n u _ e _ ((u : Int) + e) h1 h2 he1 he2 hb (by omega) hc (by omega) (by omega) rfl (fun q h => by rw [hq q h]; exact ⟨tail_norm hK1 hK2 (by omega) (by omega), by omega⟩) (by omega) w
end Go.Proofs.Ybulkechq
