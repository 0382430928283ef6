import Derived.Test.YbulkecdwDoorHalf
import Derived.Test.YbulkecdwDoorRows
import Derived.WalkKit
import Derived.Laws.Externs
import Derived.Below
namespace Go.Proofs.YbulkecdwDoor
open Go.ChangeShapes Go.WideShapes

theorem wrap_u64_nat (n : Nat) (h : n < 2 ^ 64) : IntKind.u64.wrap (n : Int) = n := by
  rw [IntKind.wrap_u64]; omega
theorem bv_nat (n : Nat) (h : n < 2 ^ 64) : (BitVec.ofInt 64 (n : Int)).toNat = n := by
  rw [BitVec.toNat_ofInt]; omega
theorem bits_and_pow (x n : Nat) (hx : x < 2 ^ 64) (hn : n ≤ 63) : bits .and .u64 (x : Int) ((2 ^ n - 1 : Nat) : Int) = ((x % 2 ^ n : Nat) : Int) := by
  have hp : 2 ^ n ≤ 2 ^ 63 := Nat.pow_le_pow_right (by omega) hn
  have e : (BitVec.ofInt 64 (x : Int) &&& BitVec.ofInt 64 ((2 ^ n - 1 : Nat) : Int)).toNat = x % 2 ^ n := by
    rw [BitVec.toNat_and, bv_nat x hx, bv_nat _ (by omega), Nat.and_two_pow_sub_one_eq_mod]
  show IntKind.u64.wrap ((BitVec.ofInt 64 (x : Int) &&& BitVec.ofInt 64 ((2 ^ n - 1 : Nat) : Int)).toNat : Int) = _
  rw [e, wrap_u64_nat _ (Nat.lt_of_le_of_lt (Nat.mod_le _ _) hx)]
theorem bits_and_2047 (x : Nat) (hx : x < 2 ^ 64) : bits .and .u64 (x : Int) 2047 = ((x % 2048 : Nat) : Int) := bits_and_pow x 11 hx (by omega)
theorem bits_and_52 (x : Nat) (hx : x < 2 ^ 64) : bits .and .u64 (x : Int) 4503599627370495 = ((x % 2 ^ 52 : Nat) : Int) := bits_and_pow x 52 hx (by omega)
theorem bits_andNot_63 (x : Nat) (hx : x < 2 ^ 64) : bits .andNot .u64 (x : Int) 9223372036854775808 = ((x % 2 ^ 63 : Nat) : Int) := by
  have e0 : ~~~(BitVec.ofInt 64 9223372036854775808) = BitVec.ofInt 64 ((2 ^ 63 - 1 : Nat) : Int) := by decide
  have e : (BitVec.ofInt 64 (x : Int) &&& ~~~(BitVec.ofInt 64 9223372036854775808)).toNat = x % 2 ^ 63 := by
    rw [e0, BitVec.toNat_and, bv_nat x hx, bv_nat _ (by omega), Nat.and_two_pow_sub_one_eq_mod]
  show IntKind.u64.wrap ((BitVec.ofInt 64 (x : Int) &&& ~~~(BitVec.ofInt 64 9223372036854775808)).toNat : Int) = _
  rw [e, wrap_u64_nat _ (Nat.lt_of_le_of_lt (Nat.mod_le _ _) hx)]
theorem bits_or_52 (x : Nat) (hx : x < 2 ^ 52) : bits .or .u64 (x : Int) 4503599627370496 = ((2 ^ 52 + x : Nat) : Int) := by
  have e : (BitVec.ofInt 64 (x : Int) ||| BitVec.ofInt 64 ((2 ^ 52 : Nat) : Int)).toNat = 2 ^ 52 + x := by
    rw [BitVec.toNat_or, bv_nat x (by omega), bv_nat _ (by omega)]
    have := Nat.two_pow_add_eq_or_of_lt hx 1
    rw [Nat.or_comm, Nat.mul_one] at this
    omega
  show IntKind.u64.wrap ((BitVec.ofInt 64 (x : Int) ||| BitVec.ofInt 64 ((2 ^ 52 : Nat) : Int)).toNat : Int) = _
  rw [e, wrap_u64_nat _ (by omega)]

theorem call_bits (b : Nat) (w : World) : (callFunc 10 #[.float .f64 b]).run Ybad.prog w = .ok (.value (.int .u64 b)) w := by
  rw [run_callFunc_extern (e := Extern.MathFloatBits.float64bits) Ybad.func10 (by kernel_rfl) (by kernel_rfl) (by kernel_rfl) (by kernel_rfl)]
  rfl
theorem call_frombits (n : Int) (w : World) : (callFunc 11 #[.int .u64 n]).run Ybad.prog w = .ok (.value (.float .f64 n.toNat)) w := by
  rw [run_callFunc_extern (e := Extern.MathFloatBits.float64frombits) Ybad.func11 (by kernel_rfl) (by kernel_rfl) (by kernel_rfl) (by kernel_rfl)]
  rfl
theorem run_fma (P : Program) (x y z r : Nat) (h : Ieee.double.fma x y z = some r) (w : World) : (Extern.MathFMA.fma #[.float .f64 x, .float .f64 y, .float .f64 z]).run P w = .ok (.float .f64 r) w := by
  have h' : FloatKind.f64.format.fma x y z = some r := h
  show Sem.run P (match FloatKind.f64.format.fma x y z with
    | some r => (pure (Value.float .f64 r) : Sem Value)
    | none => do
      let (a, b) := if Extern.MathFMA.isNaN x then (x, y) else if Extern.MathFMA.isNaN y then (y, z) else (z, z)
      pure (.float .f64 (← choose (.nanBits .f64 a b)))) w = _
  rw [h']
  rfl
theorem call_fma (x y z r : Nat) (h : Ieee.double.fma x y z = some r) (w : World) : (callFunc 8 #[.float .f64 x, .float .f64 y, .float .f64 z]).run Ybad.prog w = .ok (.value (.float .f64 r)) w := by
  rw [run_callFunc_extern (e := Extern.MathFMA.fma) Ybad.func8 (by kernel_rfl) (by kernel_rfl) (by kernel_rfl) (by kernel_rfl), run_fma _ x y z r h]
  rfl

theorem abs_calls (p : Nat) (hp : p < 2 ^ 64) (w : World) : Calls Ybad.prog 7 #[.float .f64 p] w fun e w' => e = .returned (.float .f64 (p % 2 ^ 63)) ∧ w' = w := by
  have h1 := call_bits
  have h2 := call_frombits
  have h3 := bits_andNot_63 p hp
  go_enter Ybad.func7, Ybad.ntmps7
  go_wp2
  go_ret
  simp
theorem mag_calls (n : Int) (h1 : -9007199254740992 < n) (h2 : n < 9007199254740992) (w : World) : Calls Ybad.prog 9 #[.int .i64 n] w fun e w' => e = .returned (.int .u64 n.natAbs) ∧ w' = w := by
  by_cases h : n < 0
  · have e : (n.natAbs : Int) = -n := by omega
    rw [e]
    go_enter Ybad.func9, Ybad.ntmps9
    go_wp2
    go_ret
    exact ⟨rfl, rfl⟩
  · have e : (n.natAbs : Int) = n := by omega
    rw [e]
    go_enter Ybad.func9, Ybad.ntmps9
    go_wp2
    go_ret
    exact ⟨rfl, rfl⟩

theorem run_mul (x y r : Nat) (h : Ieee.double.mul x y = some r) (w : World) : (binOp .mul 22 (.float .f64 x) (.float .f64 y)).run Ybad.prog w = .ok (.float .f64 r) w :=
  run_float_arith w .mul 22 .f64 x y r h
theorem run_toInt (b : Nat) (n : Int) (h : floatToIntVal .f64 b .i64 = some n) (w : World) : (convert 22 2 (.float .f64 b)).run Ybad.prog w = .ok (.int .i64 n) w :=
  run_convert_float_int w 22 2 .f64 .i64 b n (by kernel_rfl) Ybad.underlying2 h

def Tab (w : World) : Prop := ∀ i, i < 21 → w.cell? ⟨0, i, none⟩ = some (.float .f64 (pw.getD i 0))

set_option maxRecDepth 100000 in
set_option maxHeartbeats 4000000 in
theorem half_calls_far {v d mw p : Nat} (hd : d < 21) (w : World) (hg : Tab w) (h1 : Ieee.double.mul 4611686018427387904 (pw.getD d 0) = some mw) (h2 : Ieee.double.mul v mw = some p) (h3 : p < 2 ^ 64)
    (h4 : Ieee.double.order (p % 2 ^ 63) 4845873199050653696 ≠ some .lt) :
    Calls Ybad.prog 5 #[.float .f64 v, .int .i64 d] w fun e w' => e = .returned (.tuple #[.int .i64 0, .bool false]) ∧ w' = w := by
  have hc := hg d hd
  have hm1 := run_mul _ _ _ h1 w
  have hm2 := run_mul _ _ _ h2 w
  have hab := abs_calls p h3 w
  have h4' : (FloatKind.f64.format.order (p % 2 ^ 63) 4845873199050653696 == some Ordering.lt) = false := by
    rw [beq_eq_false_iff_ne]; exact h4
  have hd1 : (d : Int) < 21 := by omega
  clear hg h1 h2
  generalize pw.getD d 0 = x at hc hm1
  go_enter Ybad.func5, Ybad.ntmps5
  go_wp2_with fail
  refine hab.mono ?_
  rintro _ _ ⟨rfl, rfl⟩
  go_wp2_with fail
  go_ret2
  exact ⟨rfl, rfl⟩

set_option maxRecDepth 100000 in
set_option maxHeartbeats 4000000 in
theorem half_calls_no {v d mw p : Nat} (hd : d < 21) (w : World) (hg : Tab w) (h1 : Ieee.double.mul 4611686018427387904 (pw.getD d 0) = some mw) (h2 : Ieee.double.mul v mw = some p) (h3 : p < 2 ^ 64)
    (h4 : Ieee.double.order (p % 2 ^ 63) 4845873199050653696 = some .lt →
      ∃ n : Int, floatToIntVal .f64 p .i64 = some n ∧ -9007199254740992 < n ∧ n < 9007199254740992 ∧ (Ieee.double.order (floatOfInt .f64 n) p = some .eq → ¬ Int.tmod n 2 = 0 → ∃ r, Ieee.double.fma v mw (p ^^^ 2 ^ 63) = some r ∧ Ieee.double.order r 0 ≠ some .eq)) :
    Calls Ybad.prog 5 #[.float .f64 v, .int .i64 d] w fun e w' => e = .returned (.tuple #[.int .i64 0, .bool false]) ∧ w' = w := by
  by_cases hlt : Ieee.double.order (p % 2 ^ 63) 4845873199050653696 = some .lt
  · obtain ⟨n, hn1, hn2, hn3, hn4⟩ := h4 hlt
    have hc := hg d hd
    have hm1 := run_mul _ _ _ h1 w
    have hm2 := run_mul _ _ _ h2 w
    have hab := abs_calls p h3 w
    have h4' : (FloatKind.f64.format.order (p % 2 ^ 63) 4845873199050653696 == some Ordering.lt) = true := by
      rw [beq_iff_eq]; exact hlt
    have hd1 : (d : Int) < 21 := by omega
    have hti := run_toInt p n hn1 w
    clear hg h1 h2 h4 hlt
    generalize pw.getD d 0 = x at hc hm1
    by_cases he : Ieee.double.order (floatOfInt .f64 n) p = some .eq
    · have he' : (FloatKind.f64.format.order (floatOfInt .f64 n) p != some Ordering.eq) = false := by
        rw [bne_eq_false_iff_eq]; exact he
      by_cases ho : Int.tmod n 2 = 0
      · clear hn4
        go_enter Ybad.func5, Ybad.ntmps5
        go_wp2_with fail
        refine hab.mono ?_
        rintro _ _ ⟨rfl, rfl⟩
        go_wp2_with fail
        go_ret2
        exact ⟨rfl, rfl⟩
      · obtain ⟨r, hr1, hr2⟩ := hn4 he ho
        have hf := call_fma _ _ _ _ hr1 w
        have hr' : (FloatKind.f64.format.order r 0 != some Ordering.eq) = true := by
          rw [bne_iff_ne]; exact hr2
        have hneg : ∀ w, (Op.unary .neg (.float .f64 p)).run Ybad.prog w = .ok (.float .f64 (p ^^^ 2 ^ 63)) w := fun _ => rfl
        clear hn4 hr1
        generalize p ^^^ 2 ^ 63 = np at hneg hf
        go_enter Ybad.func5, Ybad.ntmps5
        go_wp2_with fail
        refine hab.mono ?_
        rintro _ _ ⟨rfl, rfl⟩
        go_wp2_with fail
        go_ret2
        exact ⟨rfl, rfl⟩
    · have he' : (FloatKind.f64.format.order (floatOfInt .f64 n) p != some Ordering.eq) = true := by
        rw [bne_iff_ne]; exact he
      clear hn4
      go_enter Ybad.func5, Ybad.ntmps5
      go_wp2_with fail
      refine hab.mono ?_
      rintro _ _ ⟨rfl, rfl⟩
      go_wp2_with fail
      go_ret2
      exact ⟨rfl, rfl⟩
  · exact half_calls_far hd w hg h1 h2 h3 hlt

set_option maxRecDepth 100000 in
set_option maxHeartbeats 4000000 in
theorem half_calls_yes {v d mw p N r : Nat} {s : Bool} (hd : d < 21) (w : World) (hg : Tab w) (h1 : Ieee.double.mul 4611686018427387904 (pw.getD d 0) = some mw) (h2 : Ieee.double.mul v mw = some p) (h3 : p < 2 ^ 64)
    (hN : N < 2 ^ 53) (ho : N % 2 = 1) (hlt : Ieee.double.order (p % 2 ^ 63) 4845873199050653696 = some .lt) (hn1 : floatToIntVal .f64 p .i64 = some (sg s N))
    (he : Ieee.double.order (floatOfInt .f64 (sg s N)) p = some .eq) (hf : Ieee.double.fma v mw (p ^^^ 2 ^ 63) = some r) (hr : Ieee.double.order r 0 = some .eq) (hs : (Ieee.double.order v 0 == some .lt) = s) :
    Calls Ybad.prog 5 #[.float .f64 v, .int .i64 d] w fun e w' => e = .returned (.tuple #[.int .i64 (sg s ((N + 1) / 2)), .bool true]) ∧ w' = w := by
  have hc := hg d hd
  have hm1 := run_mul _ _ _ h1 w
  have hm2 := run_mul _ _ _ h2 w
  have hab := abs_calls p h3 w
  have h4' : (FloatKind.f64.format.order (p % 2 ^ 63) 4845873199050653696 == some Ordering.lt) = true := by
    rw [beq_iff_eq]; exact hlt
  have hd1 : (d : Int) < 21 := by omega
  have hti := run_toInt p _ hn1 w
  have hff := call_fma _ _ _ _ hf w
  have he' : (FloatKind.f64.format.order (floatOfInt .f64 (sg s N)) p != some Ordering.eq) = false := by
    rw [bne_eq_false_iff_eq]; exact he
  have hr' : (FloatKind.f64.format.order r 0 != some Ordering.eq) = false := by
    rw [bne_eq_false_iff_eq]; exact hr
  have hsv : (FloatKind.f64.format.order v 0 == some Ordering.lt) = s := hs
  have hmg := mag_calls (sg s N) (by unfold sg; cases s <;> simp <;> omega) (by unfold sg; cases s <;> simp <;> omega) w
  have hna : (sg s N).natAbs = N := by unfold sg; cases s <;> simp
  rw [hna] at hmg
  have hto : ¬ Int.tmod (sg s N) 2 = 0 := by
    unfold sg
    cases s
    · simp only [Bool.false_eq_true, if_false]
      rw [Int.tmod_eq_emod_of_nonneg (by omega)]
      omega
    · simp only [if_true, Int.neg_tmod]
      rw [Int.tmod_eq_emod_of_nonneg (by omega)]
      omega
  have hN1 : (N : Int) < 9007199254740992 := by omega
  have hdiv : Int.tdiv ((N : Int) + 1) 2 = (((N + 1) / 2 : Nat) : Int) := by
    rw [Int.tdiv_eq_ediv_of_nonneg (by omega)]; omega
  generalize hq : (N + 1) / 2 = q at *
  have hq1 : (q : Int) < 9007199254740992 := by omega
  have hneg : ∀ w, (Op.unary .neg (.float .f64 p)).run Ybad.prog w = .ok (.float .f64 (p ^^^ 2 ^ 63)) w := fun _ => rfl
  clear hg h1 h2 hlt hn1 he hf hs hq hna hr
  generalize p ^^^ 2 ^ 63 = np at hneg hff
  have hb1 : -9007199254740992 < sg s N := by unfold sg; cases s <;> simp <;> omega
  have hb2 : sg s N < 9007199254740992 := by unfold sg; cases s <;> simp <;> omega
  generalize hn : sg s N = n at *
  generalize pw.getD d 0 = x at hc hm1
  clear hn ho hN
  have hto2 : (Int.tmod n 2 == 0) = false := by rw [beq_eq_false_iff_ne]; exact hto
  cases s
  · go_enter Ybad.func5, Ybad.ntmps5
    go_wp2_with fail
    refine hab.mono ?_
    rintro _ _ ⟨rfl, rfl⟩
    go_wp2_with fail
    refine hmg.mono ?_
    rintro _ _ ⟨rfl, rfl⟩
    go_wp2_with fail
    go_ret2
    exact ⟨rfl, rfl⟩
  · go_enter Ybad.func5, Ybad.ntmps5
    go_wp2_with fail
    refine hab.mono ?_
    rintro _ _ ⟨rfl, rfl⟩
    go_wp2_with fail
    refine hmg.mono ?_
    rintro _ _ ⟨rfl, rfl⟩
    go_wp2_with fail
    go_ret2
    exact ⟨rfl, rfl⟩
end Go.Proofs.YbulkecdwDoor
