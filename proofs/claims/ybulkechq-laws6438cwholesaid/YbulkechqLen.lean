import Derived.Test.YbulkechqWalk
namespace Go.Proofs.Ybulkechq
open Go.ChangeShapes Go.WideShapes Go.RowKit
set_option linter.unusedVariables false

theorem tab_val (B : ByteArray) (hB : (B.data.toList.take 64).drop 16 = List.replicate 16 5 ++ List.replicate 32 6) (c : Nat) (h : c < B.size) (h1 : 16 ≤ c) (h2 : c < 64) : B[c].toNat = if c < 32 then 5 else 6 := by
  have e : B.data.toList[c]? = some B[c] := by
    show B.data.toList[c]? = some B.data[c]
    rw [Array.getElem?_toList]
    exact Array.getElem?_eq_getElem h
  have e2 : ((B.data.toList.take 64).drop 16)[c - 16]? = B.data.toList[c]? := by
    rw [List.getElem?_drop, List.getElem?_take, show 16 + (c - 16) = c by omega, if_pos h2]
  rw [hB, e] at e2
  by_cases hc : c < 32
  · rw [List.getElem?_append_left (by simp; omega), List.getElem?_replicate, if_pos (by omega)] at e2
    rw [if_pos hc, ← Option.some.inj e2]; rfl
  · rw [List.getElem?_append_right (by simp; omega), List.getElem?_replicate, if_pos (by simp; omega)] at e2
    rw [if_neg hc, ← Option.some.inj e2]; rfl

set_option maxRecDepth 100000 in
set_option maxHeartbeats 4000000 in
theorem len_calls (n : Nat) (b : Int) (h1 : 2 ^ 60 ≤ n) (h2 : n < 2 ^ 62) (hb : (n < 2 ^ 61 ∧ b = 61) ∨ (¬ n < 2 ^ 61 ∧ b = 62)) (w : World) : Calls Yba.prog 9 #[.int .u64 n] w fun x w' => x = .returned (.int .i64 b) ∧ w' = w := by
  have g1 : decide (4294967296 ≤ (n : Int)) = true := decide_eq_true (by omega)
  have g1' : 4294967296 ≤ n := by omega
  obtain ⟨a, ha⟩ : ∃ a : Nat, (n : Int) / 4294967296 = (a : Int) := ⟨n / 4294967296, by omega⟩
  have g2 : decide (65536 ≤ (a : Int)) = true := decide_eq_true (by omega)
  have g2' : 65536 ≤ a := by omega
  obtain ⟨d, hd⟩ : ∃ d : Nat, (a : Int) / 65536 = (d : Int) := ⟨a / 65536, by omega⟩
  have g3 : decide (256 ≤ (d : Int)) = true := decide_eq_true (by omega)
  have g3' : 256 ≤ d := by omega
  obtain ⟨c, hc⟩ : ∃ c : Nat, (d : Int) / 256 = (c : Int) := ⟨d / 256, by omega⟩
  have g4 : (c : Int) < 64 := by omega
  have g5 : 16 ≤ (c : Int) := by omega
  have HB := hide hb
  have HC := hide (show (c < 32 ↔ n < 2 ^ 61) by omega)
  clear hb
  go_enter Yba.func9, Yba.ntmps9
  go_wp2_with fail
  go_ret
  have hcb : (16 ≤ c ∧ c < 32 ∧ b = 61) ∨ (32 ≤ c ∧ c < 64 ∧ b = 62) := by
    have hc' := unhide HC
    rcases unhide HB with ⟨q1, q2⟩ | ⟨q1, q2⟩
    · left; exact ⟨by omega, hc'.2 q1, q2⟩
    · right; exact ⟨by rcases Nat.lt_or_ge c 32 with q | q; exact absurd (hc'.1 q) q1; exact q, by omega, q2⟩
  clear HB HC hc hd ha g1 g2 g3 g1' g2' g3' g4 g5 h1 h2
  refine ⟨?_, rfl⟩
  simp only [Array.getD_eq_getD_getElem?, List.getElem?_toArray, List.getElem?_cons_succ, List.getElem?_cons_zero, Option.getD_some]
  rcases hcb with ⟨q1, q2, rfl⟩ | ⟨q1, q2, rfl⟩
  · rw [tab_val _ (by decide) c _ (by omega) (by omega), if_pos q2]
    simp [wrap64]
  · rw [tab_val _ (by decide) c _ (by omega) (by omega), if_neg (by omega)]
    simp [wrap64]
end Go.Proofs.Ybulkechq
