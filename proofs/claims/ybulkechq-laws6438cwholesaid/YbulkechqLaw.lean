import Derived.Test.YbulkechqModelEnd
import Derived.Test.YbulkechqRound
namespace Go.Proofs.Ybulkechq
open Go.ChangeShapes Go.WideShapes Go.RowKit
set_option linter.unusedVariables false

/-- The three zones: how the exponent comes out of k. -/
def Zones (a3 a4 kk : Int) : Prop :=
  (a3.tmod 3 = 0 ∧ a3 % 3 = 0 ∧ ∃ z : Int, 0 ≤ z ∧ z < 2102 ∧ (IntKind.u64.wrap (IntKind.u64.wrap a4 + 1077)).tmod 2102 = z ∧ -1077 + z = kk)
  ∨ (a3.tmod 3 = 1 ∧ a3 % 3 = 1 ∧ ∃ z : Int, 0 ≤ z ∧ z < 60 ∧ (IntKind.u64.wrap a4).tmod 60 = z ∧ -1077 + z = kk)
  ∨ (a3.tmod 3 = 2 ∧ a3 % 3 = 2 ∧ ∃ z : Int, 0 ≤ z ∧ z < 8 ∧ (IntKind.u64.wrap a4).tmod 8 = z ∧ 1024 - z = kk)

set_option maxRecDepth 100000 in
set_option maxHeartbeats 8000000 in
theorem law_A_keep (a0 a1 a3 a4 : Int) (a2 : Bool) (kk lr lm ml : Int) (hr hq hm nf hi0 lo r : Nat) (w : World)
    (h0 : 0 ≤ a0) (h0' : a0 ≤ 18446744073709551615) (h1 : -9223372036854775808 ≤ a1) (h1' : a1 ≤ 9223372036854775807) (h3 : 0 ≤ a3) (h3' : a3 ≤ 255) (h4 : -9223372036854775808 ≤ a4) (h4' : a4 ≤ 9223372036854775807)
    (hz : Zones a3 a4 kk) (hk : kk < -1021) (hk1 : -1077 ≤ kk) (hk2 : kk ≤ 1024)
    (f1 : a0 % 4503599627370496 = (hr : Int)) (f1t : a0.tmod 4503599627370496 = (hr : Int)) (f2 : 2251799813685248 + (hr : Int) = (hq : Int)) (f3 : (hq : Int) * 512 = (hm : Int)) (hr2 : hr < 4503599627370496)
    (f4 : a1.tmod 137438953472 = lr) (f5 : lr * 64 = lm) (f6 : -lm = ml) (hlr1 : -137438953472 < lr) (hlr2 : lr < 137438953472)
    (hnf : (hm : Int) + lm = (nf : Int)) (hn0 : ¬ (nf : Int) < 1152921504606846976) (hnb : 1152921504606846976 ≤ nf) (hnb2 : nf < 4611686018427387904)
    (m1 : ∀ w, (binOp .mul 24 (.float .f64 (floatOfInt .f64 (hm : Int))) (.float .f64 4332462841530417152)).run Yba.prog w = .ok (.float .f64 hi0) w)
    
    (m2 : ∀ w, (binOp .mul 24 (.float .f64 (floatOfInt .f64 lm)) (.float .f64 4332462841530417152)).run Yba.prog w = .ok (.float .f64 lo) w)
    (cr : Calls Yba.prog 4 #[.float .f64 hi0, .float .f64 lo, .int .i64 kk] w fun x w' => x = .returned (.float .f64 r) ∧ w' = w)
    (cm : Calls Yba.prog 5 #[.bool false, .int .u64 nf, .int .i64 (kk - 61)] w fun x w' => x = .returned (.float .f64 r) ∧ w' = w) :
    Calls Yba.prog 3 #[.int .u64 a0, .int .i64 a1, .bool a2, .int .u8 a3, .int .i64 a4] w fun e w' => e = .returned (.bool true) ∧ w' = w := by
  have HR := hide cr
  have HM := hide cm
  have HZ := hide hz
  have hfb := call_bits
  have hkd : decide (kk < -1021) = true := decide_eq_true hk
  have b1 : (hr : Int) < 4503599627370496 := by omega
  have b2 : (hq : Int) < 6755399441055745 := by omega
  have b3 : (hm : Int) < 3458764513820541953 := by omega
  have b4 : -8796093022208 < lm := by omega
  have b5 : lm < 8796093022208 := by omega
  have b6 : -8796093022208 < ml := by omega
  have b7 : ml < 8796093022208 := by omega
  have b8 : (nf : Int) < 4611686018427387904 := by omega
  have hnd : decide ((nf : Int) < 1152921504606846976) = false := decide_eq_false hn0
  have hnn : ¬ nf < 1152921504606846976 := by omega
  have hnd2 : decide (nf < 1152921504606846976) = false := decide_eq_false hnn
  clear cr cm hz hr2
  rcases unhide HZ with ⟨z1, z2, z, z3, z4, z5, z6⟩ | ⟨z1, z2, z, z3, z4, z5, z6⟩ | ⟨z1, z2, z, z3, z4, z5, z6⟩
  · go_enter Yba.func3, Yba.ntmps3
    go_wp2_with fail
    refine (unhide HR).mono ?_
    rintro _ _ ⟨rfl, rfl⟩
    go_wp2_with fail
    refine (unhide HM).mono ?_
    rintro _ _ ⟨rfl, rfl⟩
    go_wp2_with fail
    go_ret
    exact ⟨by simp, rfl⟩
  · go_enter Yba.func3, Yba.ntmps3
    go_wp2_with fail
    refine (unhide HR).mono ?_
    rintro _ _ ⟨rfl, rfl⟩
    go_wp2_with fail
    refine (unhide HM).mono ?_
    rintro _ _ ⟨rfl, rfl⟩
    go_wp2_with fail
    go_ret
    exact ⟨by simp, rfl⟩
  · exfalso; omega

set_option maxRecDepth 100000 in
set_option maxHeartbeats 8000000 in
theorem law_A_flip (a0 a1 a3 a4 : Int) (a2 : Bool) (kk lr lm ml : Int) (hr hq hm nf hi0 lo r : Nat) (w : World)
    (h0 : 0 ≤ a0) (h0' : a0 ≤ 18446744073709551615) (h1 : -9223372036854775808 ≤ a1) (h1' : a1 ≤ 9223372036854775807) (h3 : 0 ≤ a3) (h3' : a3 ≤ 255) (h4 : -9223372036854775808 ≤ a4) (h4' : a4 ≤ 9223372036854775807)
    (hz : Zones a3 a4 kk) (hk : kk < -1021) (hk1 : -1077 ≤ kk) (hk2 : kk ≤ 1024)
    (f1 : a0 % 4503599627370496 = (hr : Int)) (f1t : a0.tmod 4503599627370496 = (hr : Int)) (f2 : 2251799813685248 + (hr : Int) = (hq : Int)) (f3 : (hq : Int) * 512 = (hm : Int)) (hr2 : hr < 4503599627370496)
    (f4 : a1.tmod 137438953472 = lr) (f5 : lr * 64 = lm) (f6 : -lm = ml) (hlr1 : -137438953472 < lr) (hlr2 : lr < 137438953472)
    (hn0 : (hm : Int) + lm < 1152921504606846976) (hnf : (hm : Int) - lm = (nf : Int)) (hnb : 1152921504606846976 ≤ nf) (hnb2 : nf < 4611686018427387904)
    (m1 : ∀ w, (binOp .mul 24 (.float .f64 (floatOfInt .f64 (hm : Int))) (.float .f64 4332462841530417152)).run Yba.prog w = .ok (.float .f64 hi0) w)
    
    (m2 : ∀ w, (binOp .mul 24 (.float .f64 (floatOfInt .f64 ml)) (.float .f64 4332462841530417152)).run Yba.prog w = .ok (.float .f64 lo) w)
    (cr : Calls Yba.prog 4 #[.float .f64 hi0, .float .f64 lo, .int .i64 kk] w fun x w' => x = .returned (.float .f64 r) ∧ w' = w)
    (cm : Calls Yba.prog 5 #[.bool false, .int .u64 nf, .int .i64 (kk - 61)] w fun x w' => x = .returned (.float .f64 r) ∧ w' = w) :
    Calls Yba.prog 3 #[.int .u64 a0, .int .i64 a1, .bool a2, .int .u8 a3, .int .i64 a4] w fun e w' => e = .returned (.bool true) ∧ w' = w := by
  have HR := hide cr
  have HM := hide cm
  have HZ := hide hz
  have hfb := call_bits
  have hkd : decide (kk < -1021) = true := decide_eq_true hk
  have b1 : (hr : Int) < 4503599627370496 := by omega
  have b2 : (hq : Int) < 6755399441055745 := by omega
  have b3 : (hm : Int) < 3458764513820541953 := by omega
  have b4 : -8796093022208 < lm := by omega
  have b5 : lm < 8796093022208 := by omega
  have b6 : -8796093022208 < ml := by omega
  have b7 : ml < 8796093022208 := by omega
  have b8 : (nf : Int) < 4611686018427387904 := by omega
  have hnd : decide ((hm : Int) + lm < 1152921504606846976) = true := decide_eq_true hn0
  clear cr cm hz hr2
  rcases unhide HZ with ⟨z1, z2, z, z3, z4, z5, z6⟩ | ⟨z1, z2, z, z3, z4, z5, z6⟩ | ⟨z1, z2, z, z3, z4, z5, z6⟩
  · go_enter Yba.func3, Yba.ntmps3
    go_wp2_with fail
    refine (unhide HR).mono ?_
    rintro _ _ ⟨rfl, rfl⟩
    go_wp2_with fail
    refine (unhide HM).mono ?_
    rintro _ _ ⟨rfl, rfl⟩
    go_wp2_with fail
    go_ret
    exact ⟨by simp, rfl⟩
  · go_enter Yba.func3, Yba.ntmps3
    go_wp2_with fail
    refine (unhide HR).mono ?_
    rintro _ _ ⟨rfl, rfl⟩
    go_wp2_with fail
    refine (unhide HM).mono ?_
    rintro _ _ ⟨rfl, rfl⟩
    go_wp2_with fail
    go_ret
    exact ⟨by simp, rfl⟩
  · exfalso; omega

set_option maxRecDepth 100000 in
set_option maxHeartbeats 8000000 in
theorem law_B_keep (a0 a1 a3 a4 : Int) (kk lr lm ml : Int) (hr hq hm nf hi0 lo r : Nat) (w : World)
    (h0 : 0 ≤ a0) (h0' : a0 ≤ 18446744073709551615) (h1 : -9223372036854775808 ≤ a1) (h1' : a1 ≤ 9223372036854775807) (h3 : 0 ≤ a3) (h3' : a3 ≤ 255) (h4 : -9223372036854775808 ≤ a4) (h4' : a4 ≤ 9223372036854775807)
    (hz : Zones a3 a4 kk) (hk : ¬ kk < -1021) (hk1 : -1077 ≤ kk) (hk2 : kk ≤ 1024)
    (f1 : a0 % 4503599627370496 = (hr : Int)) (f1t : a0.tmod 4503599627370496 = (hr : Int)) (f2 : 2251799813685248 + (hr : Int) = (hq : Int)) (f3 : (hq : Int) * 512 = (hm : Int)) (hr2 : hr < 4503599627370496)
    (f4 : a1.tmod 137438953472 = lr) (f5 : lr * 64 = lm) (f6 : -lm = ml) (hlr1 : -137438953472 < lr) (hlr2 : lr < 137438953472)
    (hnf : (hm : Int) + lm = (nf : Int)) (hn0 : ¬ (nf : Int) < 1152921504606846976) (hnb : 1152921504606846976 ≤ nf) (hnb2 : nf < 4611686018427387904)
    (m1 : ∀ w, (binOp .mul 24 (.float .f64 (floatOfInt .f64 (hm : Int))) (.float .f64 4332462841530417152)).run Yba.prog w = .ok (.float .f64 hi0) w)
    
    (m2 : ∀ w, (binOp .mul 24 (.float .f64 (floatOfInt .f64 lm)) (.float .f64 4332462841530417152)).run Yba.prog w = .ok (.float .f64 lo) w)
    (cr : Calls Yba.prog 4 #[.float .f64 hi0, .float .f64 lo, .int .i64 kk] w fun x w' => x = .returned (.float .f64 r) ∧ w' = w)
    (cm : Calls Yba.prog 5 #[.bool false, .int .u64 nf, .int .i64 (kk - 61)] w fun x w' => x = .returned (.float .f64 r) ∧ w' = w) :
    Calls Yba.prog 3 #[.int .u64 a0, .int .i64 a1, .bool false, .int .u8 a3, .int .i64 a4] w fun e w' => e = .returned (.bool true) ∧ w' = w := by
  have HR := hide cr
  have HM := hide cm
  have HZ := hide hz
  have hfb := call_bits
  have hkd : decide (kk < -1021) = false := decide_eq_false hk
  have b1 : (hr : Int) < 4503599627370496 := by omega
  have b2 : (hq : Int) < 6755399441055745 := by omega
  have b3 : (hm : Int) < 3458764513820541953 := by omega
  have b4 : -8796093022208 < lm := by omega
  have b5 : lm < 8796093022208 := by omega
  have b6 : -8796093022208 < ml := by omega
  have b7 : ml < 8796093022208 := by omega
  have b8 : (nf : Int) < 4611686018427387904 := by omega
  have hnd : decide ((nf : Int) < 1152921504606846976) = false := decide_eq_false hn0
  have hnn : ¬ nf < 1152921504606846976 := by omega
  have hnd2 : decide (nf < 1152921504606846976) = false := decide_eq_false hnn
  clear cr cm hz hr2
  rcases unhide HZ with ⟨z1, z2, z, z3, z4, z5, z6⟩ | ⟨z1, z2, z, z3, z4, z5, z6⟩ | ⟨z1, z2, z, z3, z4, z5, z6⟩
  · go_enter Yba.func3, Yba.ntmps3
    go_wp2_with fail
    refine (unhide HR).mono ?_
    rintro _ _ ⟨rfl, rfl⟩
    go_wp2_with fail
    refine (unhide HM).mono ?_
    rintro _ _ ⟨rfl, rfl⟩
    go_wp2_with fail
    go_ret
    exact ⟨by simp, rfl⟩
  · go_enter Yba.func3, Yba.ntmps3
    go_wp2_with fail
    refine (unhide HR).mono ?_
    rintro _ _ ⟨rfl, rfl⟩
    go_wp2_with fail
    refine (unhide HM).mono ?_
    rintro _ _ ⟨rfl, rfl⟩
    go_wp2_with fail
    go_ret
    exact ⟨by simp, rfl⟩
  · go_enter Yba.func3, Yba.ntmps3
    go_wp2_with fail
    refine (unhide HR).mono ?_
    rintro _ _ ⟨rfl, rfl⟩
    go_wp2_with fail
    refine (unhide HM).mono ?_
    rintro _ _ ⟨rfl, rfl⟩
    go_wp2_with fail
    go_ret
    exact ⟨by simp, rfl⟩

set_option maxRecDepth 100000 in
set_option maxHeartbeats 8000000 in
theorem law_B_flip (a0 a1 a3 a4 : Int) (kk lr lm ml : Int) (hr hq hm nf hi0 lo r : Nat) (w : World)
    (h0 : 0 ≤ a0) (h0' : a0 ≤ 18446744073709551615) (h1 : -9223372036854775808 ≤ a1) (h1' : a1 ≤ 9223372036854775807) (h3 : 0 ≤ a3) (h3' : a3 ≤ 255) (h4 : -9223372036854775808 ≤ a4) (h4' : a4 ≤ 9223372036854775807)
    (hz : Zones a3 a4 kk) (hk : ¬ kk < -1021) (hk1 : -1077 ≤ kk) (hk2 : kk ≤ 1024)
    (f1 : a0 % 4503599627370496 = (hr : Int)) (f1t : a0.tmod 4503599627370496 = (hr : Int)) (f2 : 2251799813685248 + (hr : Int) = (hq : Int)) (f3 : (hq : Int) * 512 = (hm : Int)) (hr2 : hr < 4503599627370496)
    (f4 : a1.tmod 137438953472 = lr) (f5 : lr * 64 = lm) (f6 : -lm = ml) (hlr1 : -137438953472 < lr) (hlr2 : lr < 137438953472)
    (hn0 : (hm : Int) + lm < 1152921504606846976) (hnf : (hm : Int) - lm = (nf : Int)) (hnb : 1152921504606846976 ≤ nf) (hnb2 : nf < 4611686018427387904)
    (m1 : ∀ w, (binOp .mul 24 (.float .f64 (floatOfInt .f64 (hm : Int))) (.float .f64 4332462841530417152)).run Yba.prog w = .ok (.float .f64 hi0) w)
    
    (m2 : ∀ w, (binOp .mul 24 (.float .f64 (floatOfInt .f64 ml)) (.float .f64 4332462841530417152)).run Yba.prog w = .ok (.float .f64 lo) w)
    (cr : Calls Yba.prog 4 #[.float .f64 hi0, .float .f64 lo, .int .i64 kk] w fun x w' => x = .returned (.float .f64 r) ∧ w' = w)
    (cm : Calls Yba.prog 5 #[.bool false, .int .u64 nf, .int .i64 (kk - 61)] w fun x w' => x = .returned (.float .f64 r) ∧ w' = w) :
    Calls Yba.prog 3 #[.int .u64 a0, .int .i64 a1, .bool false, .int .u8 a3, .int .i64 a4] w fun e w' => e = .returned (.bool true) ∧ w' = w := by
  have HR := hide cr
  have HM := hide cm
  have HZ := hide hz
  have hfb := call_bits
  have hkd : decide (kk < -1021) = false := decide_eq_false hk
  have b1 : (hr : Int) < 4503599627370496 := by omega
  have b2 : (hq : Int) < 6755399441055745 := by omega
  have b3 : (hm : Int) < 3458764513820541953 := by omega
  have b4 : -8796093022208 < lm := by omega
  have b5 : lm < 8796093022208 := by omega
  have b6 : -8796093022208 < ml := by omega
  have b7 : ml < 8796093022208 := by omega
  have b8 : (nf : Int) < 4611686018427387904 := by omega
  have hnd : decide ((hm : Int) + lm < 1152921504606846976) = true := decide_eq_true hn0
  clear cr cm hz hr2
  rcases unhide HZ with ⟨z1, z2, z, z3, z4, z5, z6⟩ | ⟨z1, z2, z, z3, z4, z5, z6⟩ | ⟨z1, z2, z, z3, z4, z5, z6⟩
  · go_enter Yba.func3, Yba.ntmps3
    go_wp2_with fail
    refine (unhide HR).mono ?_
    rintro _ _ ⟨rfl, rfl⟩
    go_wp2_with fail
    refine (unhide HM).mono ?_
    rintro _ _ ⟨rfl, rfl⟩
    go_wp2_with fail
    go_ret
    exact ⟨by simp, rfl⟩
  · go_enter Yba.func3, Yba.ntmps3
    go_wp2_with fail
    refine (unhide HR).mono ?_
    rintro _ _ ⟨rfl, rfl⟩
    go_wp2_with fail
    refine (unhide HM).mono ?_
    rintro _ _ ⟨rfl, rfl⟩
    go_wp2_with fail
    go_ret
    exact ⟨by simp, rfl⟩
  · go_enter Yba.func3, Yba.ntmps3
    go_wp2_with fail
    refine (unhide HR).mono ?_
    rintro _ _ ⟨rfl, rfl⟩
    go_wp2_with fail
    refine (unhide HM).mono ?_
    rintro _ _ ⟨rfl, rfl⟩
    go_wp2_with fail
    go_ret
    exact ⟨by simp, rfl⟩

set_option maxRecDepth 100000 in
set_option maxHeartbeats 8000000 in
theorem law_C_keep (a0 a1 a3 a4 : Int) (kk lr lm ml : Int) (hr hq hm nf hi0 hi1 lo r : Nat) (w : World)
    (h0 : 0 ≤ a0) (h0' : a0 ≤ 18446744073709551615) (h1 : -9223372036854775808 ≤ a1) (h1' : a1 ≤ 9223372036854775807) (h3 : 0 ≤ a3) (h3' : a3 ≤ 255) (h4 : -9223372036854775808 ≤ a4) (h4' : a4 ≤ 9223372036854775807)
    (hz : Zones a3 a4 kk) (hk : ¬ kk < -1021) (hk1 : -1077 ≤ kk) (hk2 : kk ≤ 1024)
    (f1 : a0 % 4503599627370496 = (hr : Int)) (f1t : a0.tmod 4503599627370496 = (hr : Int)) (f2 : 2251799813685248 + (hr : Int) = (hq : Int)) (f3 : (hq : Int) * 512 = (hm : Int)) (hr2 : hr < 4503599627370496)
    (f4 : a1.tmod 137438953472 = lr) (f5 : lr * 64 = lm) (f6 : -lm = ml) (hlr1 : -137438953472 < lr) (hlr2 : lr < 137438953472)
    (hnf : (hm : Int) + ml = (nf : Int)) (hn0 : ¬ (nf : Int) < 1152921504606846976) (hnb : 1152921504606846976 ≤ nf) (hnb2 : nf < 4611686018427387904)
    (m1 : ∀ w, (binOp .mul 24 (.float .f64 (floatOfInt .f64 (hm : Int))) (.float .f64 4332462841530417152)).run Yba.prog w = .ok (.float .f64 hi0) w)
    (hneg1 : ∀ w, (Op.unary .neg (.float .f64 hi0)).run Yba.prog w = .ok (.float .f64 hi1) w)
    (m2 : ∀ w, (binOp .mul 24 (.float .f64 (floatOfInt .f64 lm)) (.float .f64 4332462841530417152)).run Yba.prog w = .ok (.float .f64 lo) w)
    (cr : Calls Yba.prog 4 #[.float .f64 hi1, .float .f64 lo, .int .i64 kk] w fun x w' => x = .returned (.float .f64 r) ∧ w' = w)
    (cm : Calls Yba.prog 5 #[.bool true, .int .u64 nf, .int .i64 (kk - 61)] w fun x w' => x = .returned (.float .f64 r) ∧ w' = w) :
    Calls Yba.prog 3 #[.int .u64 a0, .int .i64 a1, .bool true, .int .u8 a3, .int .i64 a4] w fun e w' => e = .returned (.bool true) ∧ w' = w := by
  have HR := hide cr
  have HM := hide cm
  have HZ := hide hz
  have hfb := call_bits
  have hkd : decide (kk < -1021) = false := decide_eq_false hk
  have b1 : (hr : Int) < 4503599627370496 := by omega
  have b2 : (hq : Int) < 6755399441055745 := by omega
  have b3 : (hm : Int) < 3458764513820541953 := by omega
  have b4 : -8796093022208 < lm := by omega
  have b5 : lm < 8796093022208 := by omega
  have b6 : -8796093022208 < ml := by omega
  have b7 : ml < 8796093022208 := by omega
  have b8 : (nf : Int) < 4611686018427387904 := by omega
  have hnd : decide ((nf : Int) < 1152921504606846976) = false := decide_eq_false hn0
  have hnn : ¬ nf < 1152921504606846976 := by omega
  have hnd2 : decide (nf < 1152921504606846976) = false := decide_eq_false hnn
  clear cr cm hz hr2
  rcases unhide HZ with ⟨z1, z2, z, z3, z4, z5, z6⟩ | ⟨z1, z2, z, z3, z4, z5, z6⟩ | ⟨z1, z2, z, z3, z4, z5, z6⟩
  · go_enter Yba.func3, Yba.ntmps3
    go_wp2_with fail
    refine (unhide HR).mono ?_
    rintro _ _ ⟨rfl, rfl⟩
    go_wp2_with fail
    refine (unhide HM).mono ?_
    rintro _ _ ⟨rfl, rfl⟩
    go_wp2_with fail
    go_ret
    exact ⟨by simp, rfl⟩
  · go_enter Yba.func3, Yba.ntmps3
    go_wp2_with fail
    refine (unhide HR).mono ?_
    rintro _ _ ⟨rfl, rfl⟩
    go_wp2_with fail
    refine (unhide HM).mono ?_
    rintro _ _ ⟨rfl, rfl⟩
    go_wp2_with fail
    go_ret
    exact ⟨by simp, rfl⟩
  · go_enter Yba.func3, Yba.ntmps3
    go_wp2_with fail
    refine (unhide HR).mono ?_
    rintro _ _ ⟨rfl, rfl⟩
    go_wp2_with fail
    refine (unhide HM).mono ?_
    rintro _ _ ⟨rfl, rfl⟩
    go_wp2_with fail
    go_ret
    exact ⟨by simp, rfl⟩

set_option maxRecDepth 100000 in
set_option maxHeartbeats 8000000 in
theorem law_C_flip (a0 a1 a3 a4 : Int) (kk lr lm ml : Int) (hr hq hm nf hi0 hi1 lo r : Nat) (w : World)
    (h0 : 0 ≤ a0) (h0' : a0 ≤ 18446744073709551615) (h1 : -9223372036854775808 ≤ a1) (h1' : a1 ≤ 9223372036854775807) (h3 : 0 ≤ a3) (h3' : a3 ≤ 255) (h4 : -9223372036854775808 ≤ a4) (h4' : a4 ≤ 9223372036854775807)
    (hz : Zones a3 a4 kk) (hk : ¬ kk < -1021) (hk1 : -1077 ≤ kk) (hk2 : kk ≤ 1024)
    (f1 : a0 % 4503599627370496 = (hr : Int)) (f1t : a0.tmod 4503599627370496 = (hr : Int)) (f2 : 2251799813685248 + (hr : Int) = (hq : Int)) (f3 : (hq : Int) * 512 = (hm : Int)) (hr2 : hr < 4503599627370496)
    (f4 : a1.tmod 137438953472 = lr) (f5 : lr * 64 = lm) (f6 : -lm = ml) (hlr1 : -137438953472 < lr) (hlr2 : lr < 137438953472)
    (hn0 : (hm : Int) + ml < 1152921504606846976) (hnf : (hm : Int) - ml = (nf : Int)) (hnb : 1152921504606846976 ≤ nf) (hnb2 : nf < 4611686018427387904)
    (m1 : ∀ w, (binOp .mul 24 (.float .f64 (floatOfInt .f64 (hm : Int))) (.float .f64 4332462841530417152)).run Yba.prog w = .ok (.float .f64 hi0) w)
    (hneg1 : ∀ w, (Op.unary .neg (.float .f64 hi0)).run Yba.prog w = .ok (.float .f64 hi1) w)
    (m2 : ∀ w, (binOp .mul 24 (.float .f64 (floatOfInt .f64 ml)) (.float .f64 4332462841530417152)).run Yba.prog w = .ok (.float .f64 lo) w)
    (cr : Calls Yba.prog 4 #[.float .f64 hi1, .float .f64 lo, .int .i64 kk] w fun x w' => x = .returned (.float .f64 r) ∧ w' = w)
    (cm : Calls Yba.prog 5 #[.bool true, .int .u64 nf, .int .i64 (kk - 61)] w fun x w' => x = .returned (.float .f64 r) ∧ w' = w) :
    Calls Yba.prog 3 #[.int .u64 a0, .int .i64 a1, .bool true, .int .u8 a3, .int .i64 a4] w fun e w' => e = .returned (.bool true) ∧ w' = w := by
  have HR := hide cr
  have HM := hide cm
  have HZ := hide hz
  have hfb := call_bits
  have hkd : decide (kk < -1021) = false := decide_eq_false hk
  have b1 : (hr : Int) < 4503599627370496 := by omega
  have b2 : (hq : Int) < 6755399441055745 := by omega
  have b3 : (hm : Int) < 3458764513820541953 := by omega
  have b4 : -8796093022208 < lm := by omega
  have b5 : lm < 8796093022208 := by omega
  have b6 : -8796093022208 < ml := by omega
  have b7 : ml < 8796093022208 := by omega
  have b8 : (nf : Int) < 4611686018427387904 := by omega
  have hnd : decide ((hm : Int) + ml < 1152921504606846976) = true := decide_eq_true hn0
  clear cr cm hz hr2
  rcases unhide HZ with ⟨z1, z2, z, z3, z4, z5, z6⟩ | ⟨z1, z2, z, z3, z4, z5, z6⟩ | ⟨z1, z2, z, z3, z4, z5, z6⟩
  · go_enter Yba.func3, Yba.ntmps3
    go_wp2_with fail
    refine (unhide HR).mono ?_
    rintro _ _ ⟨rfl, rfl⟩
    go_wp2_with fail
    refine (unhide HM).mono ?_
    rintro _ _ ⟨rfl, rfl⟩
    go_wp2_with fail
    go_ret
    exact ⟨by simp, rfl⟩
  · go_enter Yba.func3, Yba.ntmps3
    go_wp2_with fail
    refine (unhide HR).mono ?_
    rintro _ _ ⟨rfl, rfl⟩
    go_wp2_with fail
    refine (unhide HM).mono ?_
    rintro _ _ ⟨rfl, rfl⟩
    go_wp2_with fail
    go_ret
    exact ⟨by simp, rfl⟩
  · go_enter Yba.func3, Yba.ntmps3
    go_wp2_with fail
    refine (unhide HR).mono ?_
    rintro _ _ ⟨rfl, rfl⟩
    go_wp2_with fail
    refine (unhide HM).mono ?_
    rintro _ _ ⟨rfl, rfl⟩
    go_wp2_with fail
    go_ret
    exact ⟨by simp, rfl⟩

end Go.Proofs.Ybulkechq
