import Derived.Test.YbulkecdwDoorWalk
import Derived.Deep.Cut
import Derived.RowKit
namespace Go.Proofs.YbulkecdwDoor
open Go.ChangeShapes Go.WideShapes Go.RowKit

theorem nan_word (t : Nat) : (t % 2) * 2 ^ 63 + 0x7ff0000000000000 + 1 + (t / 2) % (2 ^ 52 - 1) < 2 ^ 64 ∧ 2047 * 2 ^ 52 < ((t % 2) * 2 ^ 63 + 0x7ff0000000000000 + 1 + (t / 2) % (2 ^ 52 - 1)) % 2 ^ 63 := by
  have hb : (t / 2) % (2 ^ 52 - 1) < 2 ^ 52 - 1 := Nat.mod_lt _ (by decide)
  generalize (t / 2) % (2 ^ 52 - 1) = b at *
  rcases (show t % 2 = 0 ∨ t % 2 = 1 by omega) with h | h <;> rw [h] <;> omega

theorem run_mul_nan (x y : Nat) (h : Ieee.double.mul x y = none) (w : World) : ∃ p, p < 2 ^ 64 ∧ 2047 * 2 ^ 52 < p % 2 ^ 63 ∧ (binOp .mul 22 (.float .f64 x) (.float .f64 y)).run Ybad.prog w = .ok (.float .f64 p) (w.drew) := by
  have h' : FloatKind.f64.format.mul x y = none := h
  refine ⟨(Question.nanBits .f64 x y).cut (w.tape w.drawn (.nanBits .f64 x y)), ?_, ?_, ?_⟩
  · exact (nan_word _).1
  · exact (nan_word _).2
  · simp [binOp, Op.floatArith, h', Question.forced]

set_option maxRecDepth 100000 in
set_option maxHeartbeats 4000000 in
theorem half_calls_nan {v d mw : Nat} (hd : d < 21) (w : World) (hg : Tab w) (h1 : Ieee.double.mul 4611686018427387904 (pw.getD d 0) = some mw) (h2 : Ieee.double.mul v mw = none) :
    Calls Ybad.prog 5 #[.float .f64 v, .int .i64 d] w fun e w' => e = .returned (.tuple #[.int .i64 0, .bool false]) ∧ w' = w.drew := by
  have hc := hg d hd
  have hm1 := run_mul _ _ _ h1 w
  obtain ⟨p, h3, h5, hm2⟩ := run_mul_nan _ _ h2 w
  have h4 := nan_cmp p h5
  generalize w.drew = w1 at hm2 ⊢
  have hab := abs_calls p h3 w1
  have h4' : (FloatKind.f64.format.order (p % 2 ^ 63) 4845873199050653696 == some Ordering.lt) = false := by
    rw [beq_eq_false_iff_ne]; exact h4
  have hd1 : (d : Int) < 21 := by omega
  clear hg h1 h2 h5 h4
  generalize pw.getD d 0 = x at hc hm1
  go_enter Ybad.func5, Ybad.ntmps5
  go_wp2_with fail
  refine hab.mono ?_
  rintro _ _ ⟨rfl, rfl⟩
  go_wp2_with fail
  go_ret2
  exact ⟨rfl, rfl⟩
end Go.Proofs.YbulkecdwDoor
