import Derived.Test.YbulkechqEnd
import Derived.Test.YbulkechqRows
import Derived.WalkKit
import Derived.Laws.Externs
import Derived.Deep.Cut
import Derived.RowKit
namespace Go.Proofs.Ybulkechq
open Go.ChangeShapes Go.WideShapes Go.RowKit
set_option linter.unusedVariables false

theorem call_bits (b : Nat) (w : World) : (callFunc 6 #[.float .f64 b]).run Yba.prog w = .ok (.value (.int .u64 b)) w := by
  rw [run_callFunc_extern (e := Extern.MathFloatBits.float64bits) Yba.func6 (by kernel_rfl) (by kernel_rfl) (by kernel_rfl) (by kernel_rfl)]
  rfl
theorem call_frombits (n : Int) (w : World) : (callFunc 10 #[.int .u64 n]).run Yba.prog w = .ok (.value (.float .f64 n.toNat)) w := by
  rw [run_callFunc_extern (e := Extern.MathFloatBits.float64frombits) Yba.func10 (by kernel_rfl) (by kernel_rfl) (by kernel_rfl) (by kernel_rfl)]
  rfl
theorem run_add (x y r : Nat) (h : Ieee.double.add x y = some r) (w : World) : (binOp .add 24 (.float .f64 x) (.float .f64 y)).run Yba.prog w = .ok (.float .f64 r) w :=
  run_float_arith w .add 24 .f64 x y r h
theorem run_sub (x y r : Nat) (h : Ieee.double.sub x y = some r) (w : World) : (binOp .sub 24 (.float .f64 x) (.float .f64 y)).run Yba.prog w = .ok (.float .f64 r) w :=
  run_float_arith w .sub 24 .f64 x y r h
theorem run_mul (x y r : Nat) (h : Ieee.double.mul x y = some r) (w : World) : (binOp .mul 24 (.float .f64 x) (.float .f64 y)).run Yba.prog w = .ok (.float .f64 r) w :=
  run_float_arith w .mul 24 .f64 x y r h

def Hid (p : Prop) : Prop := p
theorem hide {p : Prop} (h : p) : Hid p := h
theorem unhide {p : Prop} (h : Hid p) : p := h

theorem wrap_u64_nat (n : Nat) (h : n < 2 ^ 64) : IntKind.u64.wrap (n : Int) = n := by
  rw [IntKind.wrap_u64]; omega

set_option maxRecDepth 100000 in
theorem pow2_calls (e : Int) (h1 : -1022 ≤ e) (h2 : e ≤ 1023) (w : World) : Calls Yba.prog 11 #[.int .i64 e] w fun x w' => x = .returned (.float .f64 ((e + 1023).toNat * 2 ^ 52)) ∧ w' = w := by
  have hf := call_frombits
  have e1 : IntKind.u64.wrap ((e + 1023) * 4503599627370496) = (((e + 1023).toNat * 2 ^ 52 : Nat) : Int) := by
    rw [IntKind.wrap_u64]
    omega
  go_enter Yba.func11, Yba.ntmps11
  go_wp2_with fail
  go_ret
  simp
  omega

set_option maxRecDepth 100000 in
theorem fast_calls (a b s t e : Nat) (w : World) (h1 : Ieee.double.add a b = some s) (h2 : Ieee.double.sub s a = some t) (h3 : Ieee.double.sub b t = some e) : Calls Yba.prog 12 #[.float .f64 a, .float .f64 b] w fun x w' => x = .returned (.tuple #[.float .f64 s, .float .f64 e]) ∧ w' = w := by
  have g1 := run_add _ _ _ h1 w
  have g2 := run_sub _ _ _ h2 w
  have g3 := run_sub _ _ _ h3 w
  clear h1 h2 h3
  go_enter Yba.func12, Yba.ntmps12
  go_wp2_with fail
  go_ret2
  exact ⟨rfl, rfl⟩

set_option maxRecDepth 100000 in
theorem scale_calls (y y2 r : Nat) (k : Int) (hk1 : -1021 ≤ k) (hk2 : k ≤ 1024) (w : World) (h1 : Ieee.double.mul y 4611686018427387904 = some y2) (h2 : Ieee.double.mul y2 ((k - 1 + 1023).toNat * 2 ^ 52) = some r) :
    Calls Yba.prog 7 #[.float .f64 y, .int .i64 k] w fun x w' => x = .returned (.float .f64 r) ∧ w' = w := by
  have g1 := run_mul _ _ _ h1 w
  have g2 := run_mul _ _ _ h2 w
  have hp := hide (pow2_calls (k - 1) (by omega) (by omega) w)
  clear h1 h2
  generalize (k - 1 + 1023).toNat * 2 ^ 52 = P at hp g2
  go_enter Yba.func7, Yba.ntmps7
  go_wp2_with fail
  refine (unhide hp).mono ?_
  rintro _ _ ⟨rfl, rfl⟩
  go_wp2_with fail
  go_ret
  exact ⟨rfl, rfl⟩

set_option maxRecDepth 100000 in
set_option maxHeartbeats 4000000 in
theorem subn_top (hi lo hi2 t lo2 m x y r : Nat) (k : Int) (hk1 : -1077 ≤ k) (hk2 : k ≤ -1022) (w : World)
    (h1 : Ieee.double.add hi lo = some hi2) (h2 : Ieee.double.sub hi2 hi = some t) (h3 : Ieee.double.sub lo t = some lo2) (h4 : Ieee.double.mul hi2 ((k + 1022 + 1023).toNat * 2 ^ 52) = some m)
    (hge : (Ieee.double.order m 4607182418800017408 == some .gt || Ieee.double.order m 4607182418800017408 == some .eq) = true)
    (h5 : Ieee.double.mul lo2 ((k + 1022 + 1023).toNat * 2 ^ 52) = some x) (h6 : Ieee.double.add m x = some y) (h7 : Ieee.double.mul y 4503599627370496 = some r) :
    Calls Yba.prog 8 #[.float .f64 hi, .float .f64 lo, .int .i64 k] w fun x w' => x = .returned (.float .f64 r) ∧ w' = w := by
  have g1 := hide (fast_calls hi lo hi2 t lo2 w h1 h2 h3)
  have g2 := hide (pow2_calls (k + 1022) (by omega) (by omega) w)
  have g4 := run_mul _ _ _ h4 w
  have g5 := run_mul _ _ _ h5 w
  have g6 := run_add _ _ _ h6 w
  have g7 := run_mul _ _ _ h7 w
  have hge' : (FloatKind.f64.format.order m 4607182418800017408 == some Ordering.gt || FloatKind.f64.format.order m 4607182418800017408 == some Ordering.eq) = true := hge
  clear h1 h2 h3 h4 h5 h6 h7 hge
  generalize (k + 1022 + 1023).toNat * 2 ^ 52 = P at g2 g4 g5
  go_enter Yba.func8, Yba.ntmps8
  go_wp2_with fail
  refine (unhide g1).mono ?_
  rintro _ _ ⟨rfl, rfl⟩
  go_wp2_with fail
  refine (unhide g2).mono ?_
  rintro _ _ ⟨rfl, rfl⟩
  go_wp2_with fail
  go_ret
  exact ⟨rfl, rfl⟩

set_option maxRecDepth 100000 in
set_option maxHeartbeats 8000000 in
theorem subn_move (hi lo hi2 t lo2 m a t2 e r : Nat) (e2 a2 a3 : Nat) (b1 b2 b3 b4 : Bool) (k : Int) (hk1 : -1077 ≤ k) (hk2 : k ≤ -1022) (w : World)
    (h1 : Ieee.double.add hi lo = some hi2) (h2 : Ieee.double.sub hi2 hi = some t) (h3 : Ieee.double.sub lo t = some lo2) (h4 : Ieee.double.mul hi2 ((k + 1022 + 1023).toNat * 2 ^ 52) = some m)
    (hge : (Ieee.double.order m 4607182418800017408 == some .gt || Ieee.double.order m 4607182418800017408 == some .eq) = false)
    (h5 : Ieee.double.add 4607182418800017408 m = some a) (h6 : Ieee.double.sub a 4607182418800017408 = some t2) (h7 : Ieee.double.sub m t2 = some e)
    (o1 : (Ieee.double.order e 4368491638549381120 == some .eq) = b1) (o2 : (Ieee.double.order lo2 0 == some .gt) = b2) (o3 : (Ieee.double.order e 13591863675404156928 == some .eq) = b3) (o4 : (Ieee.double.order lo2 0 == some .lt) = b4)
    (hb : ((b1 && b2) || (b3 && b4)) = true) (h8 : Ieee.double.mul 4611686018427387904 e = some e2) (h9 : Ieee.double.add a e2 = some a2) (h10 : Ieee.double.sub a2 4607182418800017408 = some a3) (h11 : Ieee.double.mul a3 4503599627370496 = some r) :
    Calls Yba.prog 8 #[.float .f64 hi, .float .f64 lo, .int .i64 k] w fun x w' => x = .returned (.float .f64 r) ∧ w' = w := by
  have g1 := hide (fast_calls hi lo hi2 t lo2 w h1 h2 h3)
  have g2 := hide (pow2_calls (k + 1022) (by omega) (by omega) w)
  have g3 := hide (fast_calls 4607182418800017408 m a t2 e w h5 h6 h7)
  have g4 := run_mul _ _ _ h4 w
  have g6 := run_sub _ _ _ h6 w
  have hge' : (FloatKind.f64.format.order m 4607182418800017408 == some Ordering.gt || FloatKind.f64.format.order m 4607182418800017408 == some Ordering.eq) = false := hge
  have o1' : (FloatKind.f64.format.order e 4368491638549381120 == some Ordering.eq) = b1 := o1
  have o2' : (FloatKind.f64.format.order lo2 0 == some Ordering.gt) = b2 := o2
  have o3' : (FloatKind.f64.format.order e 13591863675404156928 == some Ordering.eq) = b3 := o3
  have o4' : (FloatKind.f64.format.order lo2 0 == some Ordering.lt) = b4 := o4
  have g8 := run_mul _ _ _ h8 w
  have g9 := run_add _ _ _ h9 w
  have g10 := run_sub _ _ _ h10 w
  have g11 := run_mul _ _ _ h11 w
  clear h1 h2 h3 h4 h5 h6 h7 h8 h9 h10 h11 hge o1 o2 o3 o4 g6
  generalize (k + 1022 + 1023).toNat * 2 ^ 52 = P at g2 g4
  cases b1 <;> cases b2 <;> cases b3 <;> cases b4 <;>
    first
    | (exfalso; revert hb; decide)
    | (go_enter Yba.func8, Yba.ntmps8
       go_wp2_with fail
       refine (unhide g1).mono ?_
       rintro _ _ ⟨rfl, rfl⟩
       go_wp2_with fail
       refine (unhide g2).mono ?_
       rintro _ _ ⟨rfl, rfl⟩
       go_wp2_with fail
       refine (unhide g3).mono ?_
       rintro _ _ ⟨rfl, rfl⟩
       go_wp2_with fail
       go_ret
       exact ⟨rfl, rfl⟩)

set_option maxRecDepth 100000 in
set_option maxHeartbeats 8000000 in
theorem subn_stay (hi lo hi2 t lo2 m a t2 e r : Nat) (b1 b2 b3 b4 : Bool) (k : Int) (hk1 : -1077 ≤ k) (hk2 : k ≤ -1022) (w : World)
    (h1 : Ieee.double.add hi lo = some hi2) (h2 : Ieee.double.sub hi2 hi = some t) (h3 : Ieee.double.sub lo t = some lo2) (h4 : Ieee.double.mul hi2 ((k + 1022 + 1023).toNat * 2 ^ 52) = some m)
    (hge : (Ieee.double.order m 4607182418800017408 == some .gt || Ieee.double.order m 4607182418800017408 == some .eq) = false)
    (h5 : Ieee.double.add 4607182418800017408 m = some a) (h6 : Ieee.double.sub a 4607182418800017408 = some t2) (h7 : Ieee.double.sub m t2 = some e)
    (o1 : (Ieee.double.order e 4368491638549381120 == some .eq) = b1) (o2 : (Ieee.double.order lo2 0 == some .gt) = b2) (o3 : (Ieee.double.order e 13591863675404156928 == some .eq) = b3) (o4 : (Ieee.double.order lo2 0 == some .lt) = b4)
    (hb : ((b1 && b2) || (b3 && b4)) = false) (h11 : Ieee.double.mul t2 4503599627370496 = some r) :
    Calls Yba.prog 8 #[.float .f64 hi, .float .f64 lo, .int .i64 k] w fun x w' => x = .returned (.float .f64 r) ∧ w' = w := by
  have g1 := hide (fast_calls hi lo hi2 t lo2 w h1 h2 h3)
  have g2 := hide (pow2_calls (k + 1022) (by omega) (by omega) w)
  have g3 := hide (fast_calls 4607182418800017408 m a t2 e w h5 h6 h7)
  have g4 := run_mul _ _ _ h4 w
  have g6 := run_sub _ _ _ h6 w
  have hge' : (FloatKind.f64.format.order m 4607182418800017408 == some Ordering.gt || FloatKind.f64.format.order m 4607182418800017408 == some Ordering.eq) = false := hge
  have o1' : (FloatKind.f64.format.order e 4368491638549381120 == some Ordering.eq) = b1 := o1
  have o2' : (FloatKind.f64.format.order lo2 0 == some Ordering.gt) = b2 := o2
  have o3' : (FloatKind.f64.format.order e 13591863675404156928 == some Ordering.eq) = b3 := o3
  have o4' : (FloatKind.f64.format.order lo2 0 == some Ordering.lt) = b4 := o4
  have g11 := run_mul _ _ _ h11 w
  clear h1 h2 h3 h4 h5 h6 h7 h11 hge o1 o2 o3 o4
  generalize (k + 1022 + 1023).toNat * 2 ^ 52 = P at g2 g4
  cases b1 <;> cases b2 <;> cases b3 <;> cases b4 <;>
    first
    | (exfalso; revert hb; decide)
    | (go_enter Yba.func8, Yba.ntmps8
       go_wp2_with fail
       refine (unhide g1).mono ?_
       rintro _ _ ⟨rfl, rfl⟩
       go_wp2_with fail
       refine (unhide g2).mono ?_
       rintro _ _ ⟨rfl, rfl⟩
       go_wp2_with fail
       refine (unhide g3).mono ?_
       rintro _ _ ⟨rfl, rfl⟩
       go_wp2_with fail
       go_ret
       exact ⟨rfl, rfl⟩)

set_option maxRecDepth 100000 in
set_option maxHeartbeats 4000000 in
theorem round_norm (hi lo y r : Nat) (k : Int) (hk1 : -1021 ≤ k) (hk2 : k ≤ 1024) (w : World) (h1 : Ieee.double.add hi lo = some y) (hs : Calls Yba.prog 7 #[.float .f64 y, .int .i64 k] w fun x w' => x = .returned (.float .f64 r) ∧ w' = w) :
    Calls Yba.prog 4 #[.float .f64 hi, .float .f64 lo, .int .i64 k] w fun x w' => x = .returned (.float .f64 r) ∧ w' = w := by
  have g1 := run_add _ _ _ h1 w
  have g2 := hide hs
  have hd : decide (-1022 < k) = true := decide_eq_true (by omega)
  clear h1 hs
  go_enter Yba.func4, Yba.ntmps4
  go_wp2_with fail
  refine (unhide g2).mono ?_
  rintro _ _ ⟨rfl, rfl⟩
  go_wp2_with fail
  go_ret
  exact ⟨rfl, rfl⟩
set_option maxRecDepth 100000 in
set_option maxHeartbeats 4000000 in
theorem round_sub (hi lo r : Nat) (k : Int) (hk1 : -1077 ≤ k) (hk2 : k ≤ -1022) (w : World) (hs : Calls Yba.prog 8 #[.float .f64 hi, .float .f64 lo, .int .i64 k] w fun x w' => x = .returned (.float .f64 r) ∧ w' = w) :
    Calls Yba.prog 4 #[.float .f64 hi, .float .f64 lo, .int .i64 k] w fun x w' => x = .returned (.float .f64 r) ∧ w' = w := by
  have g2 := hide hs
  have hd : decide (-1022 < k) = false := decide_eq_false (by omega)
  clear hs
  go_enter Yba.func4, Yba.ntmps4
  go_wp2_with fail
  refine (unhide g2).mono ?_
  rintro _ _ ⟨rfl, rfl⟩
  go_wp2_with fail
  go_ret
  exact ⟨rfl, rfl⟩
end Go.Proofs.Ybulkechq
