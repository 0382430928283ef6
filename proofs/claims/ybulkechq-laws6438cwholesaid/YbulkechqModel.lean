import Derived.Test.YbulkechqLen
namespace Go.Proofs.Ybulkechq
open Go.ChangeShapes Go.WideShapes Go.RowKit
set_option linter.unusedVariables false
set_option linter.unusedSimpArgs false

/-- The end of the model: the significand q at place ex, and the rung R that it gives. -/
def Tail (q R : Nat) (ex : Int) : Prop :=
  (q = 9007199254740992 ∧ -1074 ≤ ex ∧ ((2046 < ex + 1 + 52 + 1023 ∧ R = 9218868437227405312) ∨ (ex + 1 + 52 + 1023 ≤ 2046 ∧ bits .or .u64 ((ex + 1 + 52 + 1023) * 4503599627370496) 0 = (R : Int))))
  ∨ (4503599627370496 ≤ q ∧ q < 9007199254740992 ∧ -1074 ≤ ex ∧ ((2046 < ex + 52 + 1023 ∧ R = 9218868437227405312) ∨ (ex + 52 + 1023 ≤ 2046 ∧ bits .or .u64 ((ex + 52 + 1023) * 4503599627370496) ((q : Int) - 4503599627370496) = (R : Int))))
  ∨ (q < 4503599627370496 ∧ R = q)

/-- The word of a sign and a rung, as the model builds it. -/
def wordOf (neg : Bool) (R : Nat) : Nat := if neg then 9223372036854775808 + R else R
theorem orInf : bits .or .u64 9218868437227405312 9223372036854775808 = 18442240474082181120 := by decide

set_option maxRecDepth 100000 in
set_option maxHeartbeats 8000000 in
theorem model_N_gt (neg : Bool) (n sh q0 rem half q R : Nat) (e b ex s2 : Int) (h1 : 2 ^ 60 ≤ n) (h2 : n < 2 ^ 62) (he1 : -1138 ≤ e) (he2 : e ≤ 963) (hb : (n < 2 ^ 61 ∧ b = 61) ∨ (¬ n < 2 ^ 61 ∧ b = 62))
    (hs1 : -1074 - e = s2) (hbs : b - 53 = (sh : Int)) (hsd : decide ((sh : Int) < s2) = false) (hsdn : ¬ (sh : Int) < s2) (hs4 : 8 ≤ sh) (hs3 : sh < 64)
    (f1 : (n : Int) / 2 ^ sh = (q0 : Int)) (f2 : bits .and .u64 (n : Int) (IntKind.u64.wrap (IntKind.u64.wrap (2 ^ sh) - 1)) = (rem : Int)) (f3 : IntKind.u64.wrap (2 ^ (sh - 1)) = (half : Int))
    (t1 : decide ((half : Int) < (rem : Int)) = true) (t1n : half < rem) (hup : (q0 : Int) + 1 = (q : Int))
    (hex : (sh : Int) + e = ex) (ht : Tail q R ex) (hqb : q ≤ 9007199254740992) (ho : bits .or .u64 (R : Int) 9223372036854775808 = ((9223372036854775808 + R : Nat) : Int)) (w : World) :
    Calls Yba.prog 5 #[.bool neg, .int .u64 n, .int .i64 e] w fun x w' => x = .returned (.float .f64 (wordOf neg R)) ∧ w' = w := by
  have hl := hide (len_calls n b h1 h2 hb w)
  have hb1 : 61 ≤ b := by omega
  have hb2 : b ≤ 62 := by omega
  have hn1 : (n : Int) < 4611686018427387904 := by omega
  have hqi : (q : Int) ≤ 9007199254740992 := by omega
  have hqj : (q0 : Int) < 9007199254740992 := by omega
  have hs4i : 8 ≤ (sh : Int) := by omega
  have hs5 : (sh : Int) < 64 := by omega
  have hsn : ¬ ((sh : Int) ≤ 0) := by omega
  have hsnd : decide ((sh : Int) ≤ 0) = false := decide_eq_false hsn
  have hs6 : decide (64 ≤ (sh : Int)) = false := decide_eq_false (by omega)
  have hz1 : ¬ sh = 0 := by omega
  have hz2 : decide (sh = 0) = false := decide_eq_false hz1
  have hz3 : decide (64 ≤ sh) = false := decide_eq_false (by omega)
  have hz4 : ¬ 64 ≤ sh := by omega
  have hx1 : -2000 < ex := by omega
  have hx2 : ex < 2000 := by omega
  have hfb := call_frombits
  have HT := hide ht
  have HO := hide ho
  clear hb ht ho
  go_enter Yba.func5, Yba.ntmps5
  go_wp2_with fail
  refine (unhide hl).mono ?_
  rintro _ _ ⟨rfl, rfl⟩
  go_upto_region 16 with fail
  rcases unhide HT with ⟨rfl, hx3, ⟨hc1, rfl⟩ | ⟨hc1, hc2⟩⟩ | ⟨hq1, hq2, hx3, ⟨hc1, rfl⟩ | ⟨hc1, hc2⟩⟩ | ⟨hq1, rfl⟩
  · have k1 : decide (2046 < ex + 1 + 52 + 1023) = true := decide_eq_true hc1
    cases neg
    · go_wp2_with fail
      go_ret
      exact ⟨by simp [wordOf, orInf], rfl⟩
    · have hor2 := unhide HO
      go_wp2_with fail
      go_ret
      exact ⟨by simp [wordOf, orInf], rfl⟩
  · have k1 : decide (2046 < ex + 1 + 52 + 1023) = false := decide_eq_false (by omega)
    have k2 : ¬ 2046 < ex + 1 + 52 + 1023 := by omega
    cases neg
    · go_wp2_with fail
      go_ret
      exact ⟨by simp [wordOf, orInf], rfl⟩
    · have hor2 := unhide HO
      go_wp2_with fail
      go_ret
      exact ⟨by simp [wordOf, orInf], rfl⟩
  · have k3 : decide (4503599627370496 ≤ (q : Int)) = true := decide_eq_true (by omega)
    have k4 : ((q : Int) == 9007199254740992) = false := by rw [beq_eq_false_iff_ne]; omega
    have k5 : ¬ q = 9007199254740992 := by omega
    have k6 : decide ((q : Int) = 9007199254740992) = false := decide_eq_false (by omega)
    have k7 : 4503599627370496 ≤ (q : Int) := by omega
    have k8 : (q : Int) < 9007199254740992 := by omega
    have k1 : decide (2046 < ex + 52 + 1023) = true := decide_eq_true hc1
    cases neg
    · go_wp2_with fail
      go_ret
      exact ⟨by simp [wordOf, orInf], rfl⟩
    · have hor2 := unhide HO
      go_wp2_with fail
      go_ret
      exact ⟨by simp [wordOf, orInf], rfl⟩
  · have k3 : decide (4503599627370496 ≤ (q : Int)) = true := decide_eq_true (by omega)
    have k4 : ((q : Int) == 9007199254740992) = false := by rw [beq_eq_false_iff_ne]; omega
    have k5 : ¬ q = 9007199254740992 := by omega
    have k6 : decide ((q : Int) = 9007199254740992) = false := decide_eq_false (by omega)
    have k7 : 4503599627370496 ≤ (q : Int) := by omega
    have k8 : (q : Int) < 9007199254740992 := by omega
    have k1 : decide (2046 < ex + 52 + 1023) = false := decide_eq_false (by omega)
    have k2 : ¬ 2046 < ex + 52 + 1023 := by omega
    cases neg
    · go_wp2_with fail
      go_ret
      exact ⟨by simp [wordOf, orInf], rfl⟩
    · have hor2 := unhide HO
      go_wp2_with fail
      go_ret
      exact ⟨by simp [wordOf, orInf], rfl⟩
  · have k3 : decide (4503599627370496 ≤ (R : Int)) = false := decide_eq_false (by omega)
    have k4 : ((R : Int) == 9007199254740992) = false := by rw [beq_eq_false_iff_ne]; omega
    have k5 : ¬ R = 9007199254740992 := by omega
    have k6 : decide ((R : Int) = 9007199254740992) = false := decide_eq_false (by omega)
    have k7 : ¬ 4503599627370496 ≤ (R : Int) := by omega
    have k7n : ¬ 4503599627370496 ≤ R := by omega
    have k8 : (R : Int) < 9007199254740992 := by omega
    cases neg
    · go_wp2_with fail
      go_ret
      exact ⟨by simp [wordOf, orInf], rfl⟩
    · have hor2 := unhide HO
      go_wp2_with fail
      go_ret
      exact ⟨by simp [wordOf, orInf], rfl⟩

set_option maxRecDepth 100000 in
set_option maxHeartbeats 8000000 in
theorem model_N_odd (neg : Bool) (n sh q0 rem half q R : Nat) (e b ex s2 : Int) (h1 : 2 ^ 60 ≤ n) (h2 : n < 2 ^ 62) (he1 : -1138 ≤ e) (he2 : e ≤ 963) (hb : (n < 2 ^ 61 ∧ b = 61) ∨ (¬ n < 2 ^ 61 ∧ b = 62))
    (hs1 : -1074 - e = s2) (hbs : b - 53 = (sh : Int)) (hsd : decide ((sh : Int) < s2) = false) (hsdn : ¬ (sh : Int) < s2) (hs4 : 8 ≤ sh) (hs3 : sh < 64)
    (f1 : (n : Int) / 2 ^ sh = (q0 : Int)) (f2 : bits .and .u64 (n : Int) (IntKind.u64.wrap (IntKind.u64.wrap (2 ^ sh) - 1)) = (rem : Int)) (f3 : IntKind.u64.wrap (2 ^ (sh - 1)) = (half : Int))
    (t1 : decide ((half : Int) < (rem : Int)) = false) (t1n : ¬ half < rem) (t2 : ((rem : Int) == (half : Int)) = true) (t3 : (bits .and .u64 (q0 : Int) 1 == 1) = true) (hup : (q0 : Int) + 1 = (q : Int))
    (hex : (sh : Int) + e = ex) (ht : Tail q R ex) (hqb : q ≤ 9007199254740992) (ho : bits .or .u64 (R : Int) 9223372036854775808 = ((9223372036854775808 + R : Nat) : Int)) (w : World) :
    Calls Yba.prog 5 #[.bool neg, .int .u64 n, .int .i64 e] w fun x w' => x = .returned (.float .f64 (wordOf neg R)) ∧ w' = w := by
  have hl := hide (len_calls n b h1 h2 hb w)
  have hb1 : 61 ≤ b := by omega
  have hb2 : b ≤ 62 := by omega
  have hn1 : (n : Int) < 4611686018427387904 := by omega
  have hqi : (q : Int) ≤ 9007199254740992 := by omega
  have hqj : (q0 : Int) < 9007199254740992 := by omega
  have hs4i : 8 ≤ (sh : Int) := by omega
  have hs5 : (sh : Int) < 64 := by omega
  have hsn : ¬ ((sh : Int) ≤ 0) := by omega
  have hsnd : decide ((sh : Int) ≤ 0) = false := decide_eq_false hsn
  have hs6 : decide (64 ≤ (sh : Int)) = false := decide_eq_false (by omega)
  have hz1 : ¬ sh = 0 := by omega
  have hz2 : decide (sh = 0) = false := decide_eq_false hz1
  have hz3 : decide (64 ≤ sh) = false := decide_eq_false (by omega)
  have hz4 : ¬ 64 ≤ sh := by omega
  have hx1 : -2000 < ex := by omega
  have hx2 : ex < 2000 := by omega
  have hfb := call_frombits
  have HT := hide ht
  have HO := hide ho
  clear hb ht ho
  go_enter Yba.func5, Yba.ntmps5
  go_wp2_with fail
  refine (unhide hl).mono ?_
  rintro _ _ ⟨rfl, rfl⟩
  go_upto_region 16 with fail
  rcases unhide HT with ⟨rfl, hx3, ⟨hc1, rfl⟩ | ⟨hc1, hc2⟩⟩ | ⟨hq1, hq2, hx3, ⟨hc1, rfl⟩ | ⟨hc1, hc2⟩⟩ | ⟨hq1, rfl⟩
  · have k1 : decide (2046 < ex + 1 + 52 + 1023) = true := decide_eq_true hc1
    cases neg
    · go_wp2_with fail
      go_ret
      exact ⟨by simp [wordOf, orInf], rfl⟩
    · have hor2 := unhide HO
      go_wp2_with fail
      go_ret
      exact ⟨by simp [wordOf, orInf], rfl⟩
  · have k1 : decide (2046 < ex + 1 + 52 + 1023) = false := decide_eq_false (by omega)
    have k2 : ¬ 2046 < ex + 1 + 52 + 1023 := by omega
    cases neg
    · go_wp2_with fail
      go_ret
      exact ⟨by simp [wordOf, orInf], rfl⟩
    · have hor2 := unhide HO
      go_wp2_with fail
      go_ret
      exact ⟨by simp [wordOf, orInf], rfl⟩
  · have k3 : decide (4503599627370496 ≤ (q : Int)) = true := decide_eq_true (by omega)
    have k4 : ((q : Int) == 9007199254740992) = false := by rw [beq_eq_false_iff_ne]; omega
    have k5 : ¬ q = 9007199254740992 := by omega
    have k6 : decide ((q : Int) = 9007199254740992) = false := decide_eq_false (by omega)
    have k7 : 4503599627370496 ≤ (q : Int) := by omega
    have k8 : (q : Int) < 9007199254740992 := by omega
    have k1 : decide (2046 < ex + 52 + 1023) = true := decide_eq_true hc1
    cases neg
    · go_wp2_with fail
      go_ret
      exact ⟨by simp [wordOf, orInf], rfl⟩
    · have hor2 := unhide HO
      go_wp2_with fail
      go_ret
      exact ⟨by simp [wordOf, orInf], rfl⟩
  · have k3 : decide (4503599627370496 ≤ (q : Int)) = true := decide_eq_true (by omega)
    have k4 : ((q : Int) == 9007199254740992) = false := by rw [beq_eq_false_iff_ne]; omega
    have k5 : ¬ q = 9007199254740992 := by omega
    have k6 : decide ((q : Int) = 9007199254740992) = false := decide_eq_false (by omega)
    have k7 : 4503599627370496 ≤ (q : Int) := by omega
    have k8 : (q : Int) < 9007199254740992 := by omega
    have k1 : decide (2046 < ex + 52 + 1023) = false := decide_eq_false (by omega)
    have k2 : ¬ 2046 < ex + 52 + 1023 := by omega
    cases neg
    · go_wp2_with fail
      go_ret
      exact ⟨by simp [wordOf, orInf], rfl⟩
    · have hor2 := unhide HO
      go_wp2_with fail
      go_ret
      exact ⟨by simp [wordOf, orInf], rfl⟩
  · have k3 : decide (4503599627370496 ≤ (R : Int)) = false := decide_eq_false (by omega)
    have k4 : ((R : Int) == 9007199254740992) = false := by rw [beq_eq_false_iff_ne]; omega
    have k5 : ¬ R = 9007199254740992 := by omega
    have k6 : decide ((R : Int) = 9007199254740992) = false := decide_eq_false (by omega)
    have k7 : ¬ 4503599627370496 ≤ (R : Int) := by omega
    have k7n : ¬ 4503599627370496 ≤ R := by omega
    have k8 : (R : Int) < 9007199254740992 := by omega
    cases neg
    · go_wp2_with fail
      go_ret
      exact ⟨by simp [wordOf, orInf], rfl⟩
    · have hor2 := unhide HO
      go_wp2_with fail
      go_ret
      exact ⟨by simp [wordOf, orInf], rfl⟩

set_option maxRecDepth 100000 in
set_option maxHeartbeats 8000000 in
theorem model_N_even (neg : Bool) (n sh rem half q R : Nat) (e b ex s2 : Int) (h1 : 2 ^ 60 ≤ n) (h2 : n < 2 ^ 62) (he1 : -1138 ≤ e) (he2 : e ≤ 963) (hb : (n < 2 ^ 61 ∧ b = 61) ∨ (¬ n < 2 ^ 61 ∧ b = 62))
    (hs1 : -1074 - e = s2) (hbs : b - 53 = (sh : Int)) (hsd : decide ((sh : Int) < s2) = false) (hsdn : ¬ (sh : Int) < s2) (hs4 : 8 ≤ sh) (hs3 : sh < 64)
    (f1 : (n : Int) / 2 ^ sh = (q : Int)) (f2 : bits .and .u64 (n : Int) (IntKind.u64.wrap (IntKind.u64.wrap (2 ^ sh) - 1)) = (rem : Int)) (f3 : IntKind.u64.wrap (2 ^ (sh - 1)) = (half : Int))
    (t1 : decide ((half : Int) < (rem : Int)) = false) (t1n : ¬ half < rem) (t2 : ((rem : Int) == (half : Int)) = true) (t3 : (bits .and .u64 (q : Int) 1 == 1) = false) 
    (hex : (sh : Int) + e = ex) (ht : Tail q R ex) (hqb : q ≤ 9007199254740992) (ho : bits .or .u64 (R : Int) 9223372036854775808 = ((9223372036854775808 + R : Nat) : Int)) (w : World) :
    Calls Yba.prog 5 #[.bool neg, .int .u64 n, .int .i64 e] w fun x w' => x = .returned (.float .f64 (wordOf neg R)) ∧ w' = w := by
  have hl := hide (len_calls n b h1 h2 hb w)
  have hb1 : 61 ≤ b := by omega
  have hb2 : b ≤ 62 := by omega
  have hn1 : (n : Int) < 4611686018427387904 := by omega
  have hqi : (q : Int) ≤ 9007199254740992 := by omega
  skip
  have hs4i : 8 ≤ (sh : Int) := by omega
  have hs5 : (sh : Int) < 64 := by omega
  have hsn : ¬ ((sh : Int) ≤ 0) := by omega
  have hsnd : decide ((sh : Int) ≤ 0) = false := decide_eq_false hsn
  have hs6 : decide (64 ≤ (sh : Int)) = false := decide_eq_false (by omega)
  have hz1 : ¬ sh = 0 := by omega
  have hz2 : decide (sh = 0) = false := decide_eq_false hz1
  have hz3 : decide (64 ≤ sh) = false := decide_eq_false (by omega)
  have hz4 : ¬ 64 ≤ sh := by omega
  have hx1 : -2000 < ex := by omega
  have hx2 : ex < 2000 := by omega
  have hfb := call_frombits
  have HT := hide ht
  have HO := hide ho
  clear hb ht ho
  go_enter Yba.func5, Yba.ntmps5
  go_wp2_with fail
  refine (unhide hl).mono ?_
  rintro _ _ ⟨rfl, rfl⟩
  go_upto_region 16 with fail
  rcases unhide HT with ⟨rfl, hx3, ⟨hc1, rfl⟩ | ⟨hc1, hc2⟩⟩ | ⟨hq1, hq2, hx3, ⟨hc1, rfl⟩ | ⟨hc1, hc2⟩⟩ | ⟨hq1, rfl⟩
  · have k1 : decide (2046 < ex + 1 + 52 + 1023) = true := decide_eq_true hc1
    cases neg
    · go_wp2_with fail
      go_ret
      exact ⟨by simp [wordOf, orInf], rfl⟩
    · have hor2 := unhide HO
      go_wp2_with fail
      go_ret
      exact ⟨by simp [wordOf, orInf], rfl⟩
  · have k1 : decide (2046 < ex + 1 + 52 + 1023) = false := decide_eq_false (by omega)
    have k2 : ¬ 2046 < ex + 1 + 52 + 1023 := by omega
    cases neg
    · go_wp2_with fail
      go_ret
      exact ⟨by simp [wordOf, orInf], rfl⟩
    · have hor2 := unhide HO
      go_wp2_with fail
      go_ret
      exact ⟨by simp [wordOf, orInf], rfl⟩
  · have k3 : decide (4503599627370496 ≤ (q : Int)) = true := decide_eq_true (by omega)
    have k4 : ((q : Int) == 9007199254740992) = false := by rw [beq_eq_false_iff_ne]; omega
    have k5 : ¬ q = 9007199254740992 := by omega
    have k6 : decide ((q : Int) = 9007199254740992) = false := decide_eq_false (by omega)
    have k7 : 4503599627370496 ≤ (q : Int) := by omega
    have k8 : (q : Int) < 9007199254740992 := by omega
    have k1 : decide (2046 < ex + 52 + 1023) = true := decide_eq_true hc1
    cases neg
    · go_wp2_with fail
      go_ret
      exact ⟨by simp [wordOf, orInf], rfl⟩
    · have hor2 := unhide HO
      go_wp2_with fail
      go_ret
      exact ⟨by simp [wordOf, orInf], rfl⟩
  · have k3 : decide (4503599627370496 ≤ (q : Int)) = true := decide_eq_true (by omega)
    have k4 : ((q : Int) == 9007199254740992) = false := by rw [beq_eq_false_iff_ne]; omega
    have k5 : ¬ q = 9007199254740992 := by omega
    have k6 : decide ((q : Int) = 9007199254740992) = false := decide_eq_false (by omega)
    have k7 : 4503599627370496 ≤ (q : Int) := by omega
    have k8 : (q : Int) < 9007199254740992 := by omega
    have k1 : decide (2046 < ex + 52 + 1023) = false := decide_eq_false (by omega)
    have k2 : ¬ 2046 < ex + 52 + 1023 := by omega
    cases neg
    · go_wp2_with fail
      go_ret
      exact ⟨by simp [wordOf, orInf], rfl⟩
    · have hor2 := unhide HO
      go_wp2_with fail
      go_ret
      exact ⟨by simp [wordOf, orInf], rfl⟩
  · have k3 : decide (4503599627370496 ≤ (R : Int)) = false := decide_eq_false (by omega)
    have k4 : ((R : Int) == 9007199254740992) = false := by rw [beq_eq_false_iff_ne]; omega
    have k5 : ¬ R = 9007199254740992 := by omega
    have k6 : decide ((R : Int) = 9007199254740992) = false := decide_eq_false (by omega)
    have k7 : ¬ 4503599627370496 ≤ (R : Int) := by omega
    have k7n : ¬ 4503599627370496 ≤ R := by omega
    have k8 : (R : Int) < 9007199254740992 := by omega
    cases neg
    · go_wp2_with fail
      go_ret
      exact ⟨by simp [wordOf, orInf], rfl⟩
    · have hor2 := unhide HO
      go_wp2_with fail
      go_ret
      exact ⟨by simp [wordOf, orInf], rfl⟩

set_option maxRecDepth 100000 in
set_option maxHeartbeats 8000000 in
theorem model_N_lt (neg : Bool) (n sh rem half q R : Nat) (e b ex s2 : Int) (h1 : 2 ^ 60 ≤ n) (h2 : n < 2 ^ 62) (he1 : -1138 ≤ e) (he2 : e ≤ 963) (hb : (n < 2 ^ 61 ∧ b = 61) ∨ (¬ n < 2 ^ 61 ∧ b = 62))
    (hs1 : -1074 - e = s2) (hbs : b - 53 = (sh : Int)) (hsd : decide ((sh : Int) < s2) = false) (hsdn : ¬ (sh : Int) < s2) (hs4 : 8 ≤ sh) (hs3 : sh < 64)
    (f1 : (n : Int) / 2 ^ sh = (q : Int)) (f2 : bits .and .u64 (n : Int) (IntKind.u64.wrap (IntKind.u64.wrap (2 ^ sh) - 1)) = (rem : Int)) (f3 : IntKind.u64.wrap (2 ^ (sh - 1)) = (half : Int))
    (t1 : decide ((half : Int) < (rem : Int)) = false) (t1n : ¬ half < rem) (t2 : ((rem : Int) == (half : Int)) = false) (t2n : ¬ rem = half) 
    (hex : (sh : Int) + e = ex) (ht : Tail q R ex) (hqb : q ≤ 9007199254740992) (ho : bits .or .u64 (R : Int) 9223372036854775808 = ((9223372036854775808 + R : Nat) : Int)) (w : World) :
    Calls Yba.prog 5 #[.bool neg, .int .u64 n, .int .i64 e] w fun x w' => x = .returned (.float .f64 (wordOf neg R)) ∧ w' = w := by
  have hl := hide (len_calls n b h1 h2 hb w)
  have hb1 : 61 ≤ b := by omega
  have hb2 : b ≤ 62 := by omega
  have hn1 : (n : Int) < 4611686018427387904 := by omega
  have hqi : (q : Int) ≤ 9007199254740992 := by omega
  skip
  have hs4i : 8 ≤ (sh : Int) := by omega
  have hs5 : (sh : Int) < 64 := by omega
  have hsn : ¬ ((sh : Int) ≤ 0) := by omega
  have hsnd : decide ((sh : Int) ≤ 0) = false := decide_eq_false hsn
  have hs6 : decide (64 ≤ (sh : Int)) = false := decide_eq_false (by omega)
  have hz1 : ¬ sh = 0 := by omega
  have hz2 : decide (sh = 0) = false := decide_eq_false hz1
  have hz3 : decide (64 ≤ sh) = false := decide_eq_false (by omega)
  have hz4 : ¬ 64 ≤ sh := by omega
  have hx1 : -2000 < ex := by omega
  have hx2 : ex < 2000 := by omega
  have hfb := call_frombits
  have HT := hide ht
  have HO := hide ho
  clear hb ht ho
  go_enter Yba.func5, Yba.ntmps5
  go_wp2_with fail
  refine (unhide hl).mono ?_
  rintro _ _ ⟨rfl, rfl⟩
  go_upto_region 16 with fail
  rcases unhide HT with ⟨rfl, hx3, ⟨hc1, rfl⟩ | ⟨hc1, hc2⟩⟩ | ⟨hq1, hq2, hx3, ⟨hc1, rfl⟩ | ⟨hc1, hc2⟩⟩ | ⟨hq1, rfl⟩
  · have k1 : decide (2046 < ex + 1 + 52 + 1023) = true := decide_eq_true hc1
    cases neg
    · go_wp2_with fail
      go_ret
      exact ⟨by simp [wordOf, orInf], rfl⟩
    · have hor2 := unhide HO
      go_wp2_with fail
      go_ret
      exact ⟨by simp [wordOf, orInf], rfl⟩
  · have k1 : decide (2046 < ex + 1 + 52 + 1023) = false := decide_eq_false (by omega)
    have k2 : ¬ 2046 < ex + 1 + 52 + 1023 := by omega
    cases neg
    · go_wp2_with fail
      go_ret
      exact ⟨by simp [wordOf, orInf], rfl⟩
    · have hor2 := unhide HO
      go_wp2_with fail
      go_ret
      exact ⟨by simp [wordOf, orInf], rfl⟩
  · have k3 : decide (4503599627370496 ≤ (q : Int)) = true := decide_eq_true (by omega)
    have k4 : ((q : Int) == 9007199254740992) = false := by rw [beq_eq_false_iff_ne]; omega
    have k5 : ¬ q = 9007199254740992 := by omega
    have k6 : decide ((q : Int) = 9007199254740992) = false := decide_eq_false (by omega)
    have k7 : 4503599627370496 ≤ (q : Int) := by omega
    have k8 : (q : Int) < 9007199254740992 := by omega
    have k1 : decide (2046 < ex + 52 + 1023) = true := decide_eq_true hc1
    cases neg
    · go_wp2_with fail
      go_ret
      exact ⟨by simp [wordOf, orInf], rfl⟩
    · have hor2 := unhide HO
      go_wp2_with fail
      go_ret
      exact ⟨by simp [wordOf, orInf], rfl⟩
  · have k3 : decide (4503599627370496 ≤ (q : Int)) = true := decide_eq_true (by omega)
    have k4 : ((q : Int) == 9007199254740992) = false := by rw [beq_eq_false_iff_ne]; omega
    have k5 : ¬ q = 9007199254740992 := by omega
    have k6 : decide ((q : Int) = 9007199254740992) = false := decide_eq_false (by omega)
    have k7 : 4503599627370496 ≤ (q : Int) := by omega
    have k8 : (q : Int) < 9007199254740992 := by omega
    have k1 : decide (2046 < ex + 52 + 1023) = false := decide_eq_false (by omega)
    have k2 : ¬ 2046 < ex + 52 + 1023 := by omega
    cases neg
    · go_wp2_with fail
      go_ret
      exact ⟨by simp [wordOf, orInf], rfl⟩
    · have hor2 := unhide HO
      go_wp2_with fail
      go_ret
      exact ⟨by simp [wordOf, orInf], rfl⟩
  · have k3 : decide (4503599627370496 ≤ (R : Int)) = false := decide_eq_false (by omega)
    have k4 : ((R : Int) == 9007199254740992) = false := by rw [beq_eq_false_iff_ne]; omega
    have k5 : ¬ R = 9007199254740992 := by omega
    have k6 : decide ((R : Int) = 9007199254740992) = false := decide_eq_false (by omega)
    have k7 : ¬ 4503599627370496 ≤ (R : Int) := by omega
    have k7n : ¬ 4503599627370496 ≤ R := by omega
    have k8 : (R : Int) < 9007199254740992 := by omega
    cases neg
    · go_wp2_with fail
      go_ret
      exact ⟨by simp [wordOf, orInf], rfl⟩
    · have hor2 := unhide HO
      go_wp2_with fail
      go_ret
      exact ⟨by simp [wordOf, orInf], rfl⟩

set_option maxRecDepth 100000 in
set_option maxHeartbeats 8000000 in
theorem model_S_gt (neg : Bool) (n sh q0 rem half q R : Nat) (e b ex : Int) (h1 : 2 ^ 60 ≤ n) (h2 : n < 2 ^ 62) (he1 : -1138 ≤ e) (he2 : e ≤ 963) (hb : (n < 2 ^ 61 ∧ b = 61) ∨ (¬ n < 2 ^ 61 ∧ b = 62))
    (hs1 : -1074 - e = (sh : Int)) (hsd : decide (b - 53 < (sh : Int)) = true) (hsdn : b - 53 < (sh : Int)) (hs4 : 8 ≤ sh) (hs3 : sh < 64)
    (f1 : (n : Int) / 2 ^ sh = (q0 : Int)) (f2 : bits .and .u64 (n : Int) (IntKind.u64.wrap (IntKind.u64.wrap (2 ^ sh) - 1)) = (rem : Int)) (f3 : IntKind.u64.wrap (2 ^ (sh - 1)) = (half : Int))
    (t1 : decide ((half : Int) < (rem : Int)) = true) (t1n : half < rem) (hup : (q0 : Int) + 1 = (q : Int))
    (hex : (sh : Int) + e = ex) (ht : Tail q R ex) (hqb : q ≤ 9007199254740992) (ho : bits .or .u64 (R : Int) 9223372036854775808 = ((9223372036854775808 + R : Nat) : Int)) (w : World) :
    Calls Yba.prog 5 #[.bool neg, .int .u64 n, .int .i64 e] w fun x w' => x = .returned (.float .f64 (wordOf neg R)) ∧ w' = w := by
  have hl := hide (len_calls n b h1 h2 hb w)
  have hb1 : 61 ≤ b := by omega
  have hb2 : b ≤ 62 := by omega
  have hn1 : (n : Int) < 4611686018427387904 := by omega
  have hqi : (q : Int) ≤ 9007199254740992 := by omega
  have hqj : (q0 : Int) < 9007199254740992 := by omega
  have hs4i : 8 ≤ (sh : Int) := by omega
  have hs5 : (sh : Int) < 64 := by omega
  have hsn : ¬ ((sh : Int) ≤ 0) := by omega
  have hsnd : decide ((sh : Int) ≤ 0) = false := decide_eq_false hsn
  have hs6 : decide (64 ≤ (sh : Int)) = false := decide_eq_false (by omega)
  have hz1 : ¬ sh = 0 := by omega
  have hz2 : decide (sh = 0) = false := decide_eq_false hz1
  have hz3 : decide (64 ≤ sh) = false := decide_eq_false (by omega)
  have hz4 : ¬ 64 ≤ sh := by omega
  have hx1 : -2000 < ex := by omega
  have hx2 : ex < 2000 := by omega
  have hfb := call_frombits
  have HT := hide ht
  have HO := hide ho
  clear hb ht ho
  go_enter Yba.func5, Yba.ntmps5
  go_wp2_with fail
  refine (unhide hl).mono ?_
  rintro _ _ ⟨rfl, rfl⟩
  go_upto_region 16 with fail
  rcases unhide HT with ⟨rfl, hx3, ⟨hc1, rfl⟩ | ⟨hc1, hc2⟩⟩ | ⟨hq1, hq2, hx3, ⟨hc1, rfl⟩ | ⟨hc1, hc2⟩⟩ | ⟨hq1, rfl⟩
  · have k1 : decide (2046 < ex + 1 + 52 + 1023) = true := decide_eq_true hc1
    cases neg
    · go_wp2_with fail
      go_ret
      exact ⟨by simp [wordOf, orInf], rfl⟩
    · have hor2 := unhide HO
      go_wp2_with fail
      go_ret
      exact ⟨by simp [wordOf, orInf], rfl⟩
  · have k1 : decide (2046 < ex + 1 + 52 + 1023) = false := decide_eq_false (by omega)
    have k2 : ¬ 2046 < ex + 1 + 52 + 1023 := by omega
    cases neg
    · go_wp2_with fail
      go_ret
      exact ⟨by simp [wordOf, orInf], rfl⟩
    · have hor2 := unhide HO
      go_wp2_with fail
      go_ret
      exact ⟨by simp [wordOf, orInf], rfl⟩
  · have k3 : decide (4503599627370496 ≤ (q : Int)) = true := decide_eq_true (by omega)
    have k4 : ((q : Int) == 9007199254740992) = false := by rw [beq_eq_false_iff_ne]; omega
    have k5 : ¬ q = 9007199254740992 := by omega
    have k6 : decide ((q : Int) = 9007199254740992) = false := decide_eq_false (by omega)
    have k7 : 4503599627370496 ≤ (q : Int) := by omega
    have k8 : (q : Int) < 9007199254740992 := by omega
    have k1 : decide (2046 < ex + 52 + 1023) = true := decide_eq_true hc1
    cases neg
    · go_wp2_with fail
      go_ret
      exact ⟨by simp [wordOf, orInf], rfl⟩
    · have hor2 := unhide HO
      go_wp2_with fail
      go_ret
      exact ⟨by simp [wordOf, orInf], rfl⟩
  · have k3 : decide (4503599627370496 ≤ (q : Int)) = true := decide_eq_true (by omega)
    have k4 : ((q : Int) == 9007199254740992) = false := by rw [beq_eq_false_iff_ne]; omega
    have k5 : ¬ q = 9007199254740992 := by omega
    have k6 : decide ((q : Int) = 9007199254740992) = false := decide_eq_false (by omega)
    have k7 : 4503599627370496 ≤ (q : Int) := by omega
    have k8 : (q : Int) < 9007199254740992 := by omega
    have k1 : decide (2046 < ex + 52 + 1023) = false := decide_eq_false (by omega)
    have k2 : ¬ 2046 < ex + 52 + 1023 := by omega
    cases neg
    · go_wp2_with fail
      go_ret
      exact ⟨by simp [wordOf, orInf], rfl⟩
    · have hor2 := unhide HO
      go_wp2_with fail
      go_ret
      exact ⟨by simp [wordOf, orInf], rfl⟩
  · have k3 : decide (4503599627370496 ≤ (R : Int)) = false := decide_eq_false (by omega)
    have k4 : ((R : Int) == 9007199254740992) = false := by rw [beq_eq_false_iff_ne]; omega
    have k5 : ¬ R = 9007199254740992 := by omega
    have k6 : decide ((R : Int) = 9007199254740992) = false := decide_eq_false (by omega)
    have k7 : ¬ 4503599627370496 ≤ (R : Int) := by omega
    have k7n : ¬ 4503599627370496 ≤ R := by omega
    have k8 : (R : Int) < 9007199254740992 := by omega
    cases neg
    · go_wp2_with fail
      go_ret
      exact ⟨by simp [wordOf, orInf], rfl⟩
    · have hor2 := unhide HO
      go_wp2_with fail
      go_ret
      exact ⟨by simp [wordOf, orInf], rfl⟩

set_option maxRecDepth 100000 in
set_option maxHeartbeats 8000000 in
theorem model_S_odd (neg : Bool) (n sh q0 rem half q R : Nat) (e b ex : Int) (h1 : 2 ^ 60 ≤ n) (h2 : n < 2 ^ 62) (he1 : -1138 ≤ e) (he2 : e ≤ 963) (hb : (n < 2 ^ 61 ∧ b = 61) ∨ (¬ n < 2 ^ 61 ∧ b = 62))
    (hs1 : -1074 - e = (sh : Int)) (hsd : decide (b - 53 < (sh : Int)) = true) (hsdn : b - 53 < (sh : Int)) (hs4 : 8 ≤ sh) (hs3 : sh < 64)
    (f1 : (n : Int) / 2 ^ sh = (q0 : Int)) (f2 : bits .and .u64 (n : Int) (IntKind.u64.wrap (IntKind.u64.wrap (2 ^ sh) - 1)) = (rem : Int)) (f3 : IntKind.u64.wrap (2 ^ (sh - 1)) = (half : Int))
    (t1 : decide ((half : Int) < (rem : Int)) = false) (t1n : ¬ half < rem) (t2 : ((rem : Int) == (half : Int)) = true) (t3 : (bits .and .u64 (q0 : Int) 1 == 1) = true) (hup : (q0 : Int) + 1 = (q : Int))
    (hex : (sh : Int) + e = ex) (ht : Tail q R ex) (hqb : q ≤ 9007199254740992) (ho : bits .or .u64 (R : Int) 9223372036854775808 = ((9223372036854775808 + R : Nat) : Int)) (w : World) :
    Calls Yba.prog 5 #[.bool neg, .int .u64 n, .int .i64 e] w fun x w' => x = .returned (.float .f64 (wordOf neg R)) ∧ w' = w := by
  have hl := hide (len_calls n b h1 h2 hb w)
  have hb1 : 61 ≤ b := by omega
  have hb2 : b ≤ 62 := by omega
  have hn1 : (n : Int) < 4611686018427387904 := by omega
  have hqi : (q : Int) ≤ 9007199254740992 := by omega
  have hqj : (q0 : Int) < 9007199254740992 := by omega
  have hs4i : 8 ≤ (sh : Int) := by omega
  have hs5 : (sh : Int) < 64 := by omega
  have hsn : ¬ ((sh : Int) ≤ 0) := by omega
  have hsnd : decide ((sh : Int) ≤ 0) = false := decide_eq_false hsn
  have hs6 : decide (64 ≤ (sh : Int)) = false := decide_eq_false (by omega)
  have hz1 : ¬ sh = 0 := by omega
  have hz2 : decide (sh = 0) = false := decide_eq_false hz1
  have hz3 : decide (64 ≤ sh) = false := decide_eq_false (by omega)
  have hz4 : ¬ 64 ≤ sh := by omega
  have hx1 : -2000 < ex := by omega
  have hx2 : ex < 2000 := by omega
  have hfb := call_frombits
  have HT := hide ht
  have HO := hide ho
  clear hb ht ho
  go_enter Yba.func5, Yba.ntmps5
  go_wp2_with fail
  refine (unhide hl).mono ?_
  rintro _ _ ⟨rfl, rfl⟩
  go_upto_region 16 with fail
  rcases unhide HT with ⟨rfl, hx3, ⟨hc1, rfl⟩ | ⟨hc1, hc2⟩⟩ | ⟨hq1, hq2, hx3, ⟨hc1, rfl⟩ | ⟨hc1, hc2⟩⟩ | ⟨hq1, rfl⟩
  · have k1 : decide (2046 < ex + 1 + 52 + 1023) = true := decide_eq_true hc1
    cases neg
    · go_wp2_with fail
      go_ret
      exact ⟨by simp [wordOf, orInf], rfl⟩
    · have hor2 := unhide HO
      go_wp2_with fail
      go_ret
      exact ⟨by simp [wordOf, orInf], rfl⟩
  · have k1 : decide (2046 < ex + 1 + 52 + 1023) = false := decide_eq_false (by omega)
    have k2 : ¬ 2046 < ex + 1 + 52 + 1023 := by omega
    cases neg
    · go_wp2_with fail
      go_ret
      exact ⟨by simp [wordOf, orInf], rfl⟩
    · have hor2 := unhide HO
      go_wp2_with fail
      go_ret
      exact ⟨by simp [wordOf, orInf], rfl⟩
  · have k3 : decide (4503599627370496 ≤ (q : Int)) = true := decide_eq_true (by omega)
    have k4 : ((q : Int) == 9007199254740992) = false := by rw [beq_eq_false_iff_ne]; omega
    have k5 : ¬ q = 9007199254740992 := by omega
    have k6 : decide ((q : Int) = 9007199254740992) = false := decide_eq_false (by omega)
    have k7 : 4503599627370496 ≤ (q : Int) := by omega
    have k8 : (q : Int) < 9007199254740992 := by omega
    have k1 : decide (2046 < ex + 52 + 1023) = true := decide_eq_true hc1
    cases neg
    · go_wp2_with fail
      go_ret
      exact ⟨by simp [wordOf, orInf], rfl⟩
    · have hor2 := unhide HO
      go_wp2_with fail
      go_ret
      exact ⟨by simp [wordOf, orInf], rfl⟩
  · have k3 : decide (4503599627370496 ≤ (q : Int)) = true := decide_eq_true (by omega)
    have k4 : ((q : Int) == 9007199254740992) = false := by rw [beq_eq_false_iff_ne]; omega
    have k5 : ¬ q = 9007199254740992 := by omega
    have k6 : decide ((q : Int) = 9007199254740992) = false := decide_eq_false (by omega)
    have k7 : 4503599627370496 ≤ (q : Int) := by omega
    have k8 : (q : Int) < 9007199254740992 := by omega
    have k1 : decide (2046 < ex + 52 + 1023) = false := decide_eq_false (by omega)
    have k2 : ¬ 2046 < ex + 52 + 1023 := by omega
    cases neg
    · go_wp2_with fail
      go_ret
      exact ⟨by simp [wordOf, orInf], rfl⟩
    · have hor2 := unhide HO
      go_wp2_with fail
      go_ret
      exact ⟨by simp [wordOf, orInf], rfl⟩
  · have k3 : decide (4503599627370496 ≤ (R : Int)) = false := decide_eq_false (by omega)
    have k4 : ((R : Int) == 9007199254740992) = false := by rw [beq_eq_false_iff_ne]; omega
    have k5 : ¬ R = 9007199254740992 := by omega
    have k6 : decide ((R : Int) = 9007199254740992) = false := decide_eq_false (by omega)
    have k7 : ¬ 4503599627370496 ≤ (R : Int) := by omega
    have k7n : ¬ 4503599627370496 ≤ R := by omega
    have k8 : (R : Int) < 9007199254740992 := by omega
    cases neg
    · go_wp2_with fail
      go_ret
      exact ⟨by simp [wordOf, orInf], rfl⟩
    · have hor2 := unhide HO
      go_wp2_with fail
      go_ret
      exact ⟨by simp [wordOf, orInf], rfl⟩

set_option maxRecDepth 100000 in
set_option maxHeartbeats 8000000 in
theorem model_S_even (neg : Bool) (n sh rem half q R : Nat) (e b ex : Int) (h1 : 2 ^ 60 ≤ n) (h2 : n < 2 ^ 62) (he1 : -1138 ≤ e) (he2 : e ≤ 963) (hb : (n < 2 ^ 61 ∧ b = 61) ∨ (¬ n < 2 ^ 61 ∧ b = 62))
    (hs1 : -1074 - e = (sh : Int)) (hsd : decide (b - 53 < (sh : Int)) = true) (hsdn : b - 53 < (sh : Int)) (hs4 : 8 ≤ sh) (hs3 : sh < 64)
    (f1 : (n : Int) / 2 ^ sh = (q : Int)) (f2 : bits .and .u64 (n : Int) (IntKind.u64.wrap (IntKind.u64.wrap (2 ^ sh) - 1)) = (rem : Int)) (f3 : IntKind.u64.wrap (2 ^ (sh - 1)) = (half : Int))
    (t1 : decide ((half : Int) < (rem : Int)) = false) (t1n : ¬ half < rem) (t2 : ((rem : Int) == (half : Int)) = true) (t3 : (bits .and .u64 (q : Int) 1 == 1) = false) 
    (hex : (sh : Int) + e = ex) (ht : Tail q R ex) (hqb : q ≤ 9007199254740992) (ho : bits .or .u64 (R : Int) 9223372036854775808 = ((9223372036854775808 + R : Nat) : Int)) (w : World) :
    Calls Yba.prog 5 #[.bool neg, .int .u64 n, .int .i64 e] w fun x w' => x = .returned (.float .f64 (wordOf neg R)) ∧ w' = w := by
  have hl := hide (len_calls n b h1 h2 hb w)
  have hb1 : 61 ≤ b := by omega
  have hb2 : b ≤ 62 := by omega
  have hn1 : (n : Int) < 4611686018427387904 := by omega
  have hqi : (q : Int) ≤ 9007199254740992 := by omega
  skip
  have hs4i : 8 ≤ (sh : Int) := by omega
  have hs5 : (sh : Int) < 64 := by omega
  have hsn : ¬ ((sh : Int) ≤ 0) := by omega
  have hsnd : decide ((sh : Int) ≤ 0) = false := decide_eq_false hsn
  have hs6 : decide (64 ≤ (sh : Int)) = false := decide_eq_false (by omega)
  have hz1 : ¬ sh = 0 := by omega
  have hz2 : decide (sh = 0) = false := decide_eq_false hz1
  have hz3 : decide (64 ≤ sh) = false := decide_eq_false (by omega)
  have hz4 : ¬ 64 ≤ sh := by omega
  have hx1 : -2000 < ex := by omega
  have hx2 : ex < 2000 := by omega
  have hfb := call_frombits
  have HT := hide ht
  have HO := hide ho
  clear hb ht ho
  go_enter Yba.func5, Yba.ntmps5
  go_wp2_with fail
  refine (unhide hl).mono ?_
  rintro _ _ ⟨rfl, rfl⟩
  go_upto_region 16 with fail
  rcases unhide HT with ⟨rfl, hx3, ⟨hc1, rfl⟩ | ⟨hc1, hc2⟩⟩ | ⟨hq1, hq2, hx3, ⟨hc1, rfl⟩ | ⟨hc1, hc2⟩⟩ | ⟨hq1, rfl⟩
  · have k1 : decide (2046 < ex + 1 + 52 + 1023) = true := decide_eq_true hc1
    cases neg
    · go_wp2_with fail
      go_ret
      exact ⟨by simp [wordOf, orInf], rfl⟩
    · have hor2 := unhide HO
      go_wp2_with fail
      go_ret
      exact ⟨by simp [wordOf, orInf], rfl⟩
  · have k1 : decide (2046 < ex + 1 + 52 + 1023) = false := decide_eq_false (by omega)
    have k2 : ¬ 2046 < ex + 1 + 52 + 1023 := by omega
    cases neg
    · go_wp2_with fail
      go_ret
      exact ⟨by simp [wordOf, orInf], rfl⟩
    · have hor2 := unhide HO
      go_wp2_with fail
      go_ret
      exact ⟨by simp [wordOf, orInf], rfl⟩
  · have k3 : decide (4503599627370496 ≤ (q : Int)) = true := decide_eq_true (by omega)
    have k4 : ((q : Int) == 9007199254740992) = false := by rw [beq_eq_false_iff_ne]; omega
    have k5 : ¬ q = 9007199254740992 := by omega
    have k6 : decide ((q : Int) = 9007199254740992) = false := decide_eq_false (by omega)
    have k7 : 4503599627370496 ≤ (q : Int) := by omega
    have k8 : (q : Int) < 9007199254740992 := by omega
    have k1 : decide (2046 < ex + 52 + 1023) = true := decide_eq_true hc1
    cases neg
    · go_wp2_with fail
      go_ret
      exact ⟨by simp [wordOf, orInf], rfl⟩
    · have hor2 := unhide HO
      go_wp2_with fail
      go_ret
      exact ⟨by simp [wordOf, orInf], rfl⟩
  · have k3 : decide (4503599627370496 ≤ (q : Int)) = true := decide_eq_true (by omega)
    have k4 : ((q : Int) == 9007199254740992) = false := by rw [beq_eq_false_iff_ne]; omega
    have k5 : ¬ q = 9007199254740992 := by omega
    have k6 : decide ((q : Int) = 9007199254740992) = false := decide_eq_false (by omega)
    have k7 : 4503599627370496 ≤ (q : Int) := by omega
    have k8 : (q : Int) < 9007199254740992 := by omega
    have k1 : decide (2046 < ex + 52 + 1023) = false := decide_eq_false (by omega)
    have k2 : ¬ 2046 < ex + 52 + 1023 := by omega
    cases neg
    · go_wp2_with fail
      go_ret
      exact ⟨by simp [wordOf, orInf], rfl⟩
    · have hor2 := unhide HO
      go_wp2_with fail
      go_ret
      exact ⟨by simp [wordOf, orInf], rfl⟩
  · have k3 : decide (4503599627370496 ≤ (R : Int)) = false := decide_eq_false (by omega)
    have k4 : ((R : Int) == 9007199254740992) = false := by rw [beq_eq_false_iff_ne]; omega
    have k5 : ¬ R = 9007199254740992 := by omega
    have k6 : decide ((R : Int) = 9007199254740992) = false := decide_eq_false (by omega)
    have k7 : ¬ 4503599627370496 ≤ (R : Int) := by omega
    have k7n : ¬ 4503599627370496 ≤ R := by omega
    have k8 : (R : Int) < 9007199254740992 := by omega
    cases neg
    · go_wp2_with fail
      go_ret
      exact ⟨by simp [wordOf, orInf], rfl⟩
    · have hor2 := unhide HO
      go_wp2_with fail
      go_ret
      exact ⟨by simp [wordOf, orInf], rfl⟩

set_option maxRecDepth 100000 in
set_option maxHeartbeats 8000000 in
theorem model_S_lt (neg : Bool) (n sh rem half q R : Nat) (e b ex : Int) (h1 : 2 ^ 60 ≤ n) (h2 : n < 2 ^ 62) (he1 : -1138 ≤ e) (he2 : e ≤ 963) (hb : (n < 2 ^ 61 ∧ b = 61) ∨ (¬ n < 2 ^ 61 ∧ b = 62))
    (hs1 : -1074 - e = (sh : Int)) (hsd : decide (b - 53 < (sh : Int)) = true) (hsdn : b - 53 < (sh : Int)) (hs4 : 8 ≤ sh) (hs3 : sh < 64)
    (f1 : (n : Int) / 2 ^ sh = (q : Int)) (f2 : bits .and .u64 (n : Int) (IntKind.u64.wrap (IntKind.u64.wrap (2 ^ sh) - 1)) = (rem : Int)) (f3 : IntKind.u64.wrap (2 ^ (sh - 1)) = (half : Int))
    (t1 : decide ((half : Int) < (rem : Int)) = false) (t1n : ¬ half < rem) (t2 : ((rem : Int) == (half : Int)) = false) (t2n : ¬ rem = half) 
    (hex : (sh : Int) + e = ex) (ht : Tail q R ex) (hqb : q ≤ 9007199254740992) (ho : bits .or .u64 (R : Int) 9223372036854775808 = ((9223372036854775808 + R : Nat) : Int)) (w : World) :
    Calls Yba.prog 5 #[.bool neg, .int .u64 n, .int .i64 e] w fun x w' => x = .returned (.float .f64 (wordOf neg R)) ∧ w' = w := by
  have hl := hide (len_calls n b h1 h2 hb w)
  have hb1 : 61 ≤ b := by omega
  have hb2 : b ≤ 62 := by omega
  have hn1 : (n : Int) < 4611686018427387904 := by omega
  have hqi : (q : Int) ≤ 9007199254740992 := by omega
  skip
  have hs4i : 8 ≤ (sh : Int) := by omega
  have hs5 : (sh : Int) < 64 := by omega
  have hsn : ¬ ((sh : Int) ≤ 0) := by omega
  have hsnd : decide ((sh : Int) ≤ 0) = false := decide_eq_false hsn
  have hs6 : decide (64 ≤ (sh : Int)) = false := decide_eq_false (by omega)
  have hz1 : ¬ sh = 0 := by omega
  have hz2 : decide (sh = 0) = false := decide_eq_false hz1
  have hz3 : decide (64 ≤ sh) = false := decide_eq_false (by omega)
  have hz4 : ¬ 64 ≤ sh := by omega
  have hx1 : -2000 < ex := by omega
  have hx2 : ex < 2000 := by omega
  have hfb := call_frombits
  have HT := hide ht
  have HO := hide ho
  clear hb ht ho
  go_enter Yba.func5, Yba.ntmps5
  go_wp2_with fail
  refine (unhide hl).mono ?_
  rintro _ _ ⟨rfl, rfl⟩
  go_upto_region 16 with fail
  rcases unhide HT with ⟨rfl, hx3, ⟨hc1, rfl⟩ | ⟨hc1, hc2⟩⟩ | ⟨hq1, hq2, hx3, ⟨hc1, rfl⟩ | ⟨hc1, hc2⟩⟩ | ⟨hq1, rfl⟩
  · have k1 : decide (2046 < ex + 1 + 52 + 1023) = true := decide_eq_true hc1
    cases neg
    · go_wp2_with fail
      go_ret
      exact ⟨by simp [wordOf, orInf], rfl⟩
    · have hor2 := unhide HO
      go_wp2_with fail
      go_ret
      exact ⟨by simp [wordOf, orInf], rfl⟩
  · have k1 : decide (2046 < ex + 1 + 52 + 1023) = false := decide_eq_false (by omega)
    have k2 : ¬ 2046 < ex + 1 + 52 + 1023 := by omega
    cases neg
    · go_wp2_with fail
      go_ret
      exact ⟨by simp [wordOf, orInf], rfl⟩
    · have hor2 := unhide HO
      go_wp2_with fail
      go_ret
      exact ⟨by simp [wordOf, orInf], rfl⟩
  · have k3 : decide (4503599627370496 ≤ (q : Int)) = true := decide_eq_true (by omega)
    have k4 : ((q : Int) == 9007199254740992) = false := by rw [beq_eq_false_iff_ne]; omega
    have k5 : ¬ q = 9007199254740992 := by omega
    have k6 : decide ((q : Int) = 9007199254740992) = false := decide_eq_false (by omega)
    have k7 : 4503599627370496 ≤ (q : Int) := by omega
    have k8 : (q : Int) < 9007199254740992 := by omega
    have k1 : decide (2046 < ex + 52 + 1023) = true := decide_eq_true hc1
    cases neg
    · go_wp2_with fail
      go_ret
      exact ⟨by simp [wordOf, orInf], rfl⟩
    · have hor2 := unhide HO
      go_wp2_with fail
      go_ret
      exact ⟨by simp [wordOf, orInf], rfl⟩
  · have k3 : decide (4503599627370496 ≤ (q : Int)) = true := decide_eq_true (by omega)
    have k4 : ((q : Int) == 9007199254740992) = false := by rw [beq_eq_false_iff_ne]; omega
    have k5 : ¬ q = 9007199254740992 := by omega
    have k6 : decide ((q : Int) = 9007199254740992) = false := decide_eq_false (by omega)
    have k7 : 4503599627370496 ≤ (q : Int) := by omega
    have k8 : (q : Int) < 9007199254740992 := by omega
    have k1 : decide (2046 < ex + 52 + 1023) = false := decide_eq_false (by omega)
    have k2 : ¬ 2046 < ex + 52 + 1023 := by omega
    cases neg
    · go_wp2_with fail
      go_ret
      exact ⟨by simp [wordOf, orInf], rfl⟩
    · have hor2 := unhide HO
      go_wp2_with fail
      go_ret
      exact ⟨by simp [wordOf, orInf], rfl⟩
  · have k3 : decide (4503599627370496 ≤ (R : Int)) = false := decide_eq_false (by omega)
    have k4 : ((R : Int) == 9007199254740992) = false := by rw [beq_eq_false_iff_ne]; omega
    have k5 : ¬ R = 9007199254740992 := by omega
    have k6 : decide ((R : Int) = 9007199254740992) = false := decide_eq_false (by omega)
    have k7 : ¬ 4503599627370496 ≤ (R : Int) := by omega
    have k7n : ¬ 4503599627370496 ≤ R := by omega
    have k8 : (R : Int) < 9007199254740992 := by omega
    cases neg
    · go_wp2_with fail
      go_ret
      exact ⟨by simp [wordOf, orInf], rfl⟩
    · have hor2 := unhide HO
      go_wp2_with fail
      go_ret
      exact ⟨by simp [wordOf, orInf], rfl⟩

set_option maxRecDepth 100000 in
set_option maxHeartbeats 8000000 in
theorem model_big (neg : Bool) (n : Nat) (e b : Int) (h1 : 2 ^ 60 ≤ n) (h2 : n < 2 ^ 62) (he : e = -1138) (hb : (n < 2 ^ 61 ∧ b = 61) ∨ (¬ n < 2 ^ 61 ∧ b = 62)) (w : World) :
    Calls Yba.prog 5 #[.bool neg, .int .u64 n, .int .i64 e] w fun x w' => x = .returned (.float .f64 (wordOf neg 0)) ∧ w' = w := by
  have hl := hide (len_calls n b h1 h2 hb w)
  have hfb := call_frombits
  have h0 : bits .or .u64 0 9223372036854775808 = 9223372036854775808 := by decide
  subst he
  have hb3 : b = 61 ∨ b = 62 := by omega
  clear hb
  cases neg
  · rcases hb3 with rfl | rfl
    · go_enter Yba.func5, Yba.ntmps5
      go_wp2_with fail
      refine (unhide hl).mono ?_
      rintro _ _ ⟨rfl, rfl⟩
      go_wp2_with fail
      go_ret
      exact ⟨by simp [wordOf], rfl⟩
    · go_enter Yba.func5, Yba.ntmps5
      go_wp2_with fail
      refine (unhide hl).mono ?_
      rintro _ _ ⟨rfl, rfl⟩
      go_wp2_with fail
      go_ret
      exact ⟨by simp [wordOf], rfl⟩
  · rcases hb3 with rfl | rfl
    · go_enter Yba.func5, Yba.ntmps5
      go_wp2_with fail
      refine (unhide hl).mono ?_
      rintro _ _ ⟨rfl, rfl⟩
      go_wp2_with fail
      go_ret
      exact ⟨by simp [wordOf], rfl⟩
    · go_enter Yba.func5, Yba.ntmps5
      go_wp2_with fail
      refine (unhide hl).mono ?_
      rintro _ _ ⟨rfl, rfl⟩
      go_wp2_with fail
      go_ret
      exact ⟨by simp [wordOf], rfl⟩
end Go.Proofs.Ybulkechq
