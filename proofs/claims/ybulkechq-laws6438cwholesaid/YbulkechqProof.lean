import Derived.Test.YbulkechqLaw
import Derived.WalkKit
import Derived.ProofKit
import Derived.OpenShut
import Derived.ShutString
namespace Go.Proofs.Ybulkechq
open Go.ChangeShapes Go.WideShapes Go.ChangeAt Go.RowKit
open Go.ChangeMaps (open_string shut_string)
set_option linter.unusedVariables false      -- a walk need not use every 'w<i>' (that an integer argument fits its kind)

theorem own : ownKnob Yba.prog.godebug = none := by kernel_rfl

/-! ### The walk -/
theorem zones_at (a3 a4 : Int) (h3 : 0 ≤ a3) : ∃ kk, Zones a3 a4 kk ∧ -1077 ≤ kk ∧ kk ≤ 1024 := by
  have e3 : a3.tmod 3 = a3 % 3 := Int.tmod_eq_emod_of_nonneg h3
  have hw : ∀ x : Int, 0 ≤ IntKind.u64.wrap x := fun x => by rw [IntKind.wrap_u64]; omega
  have e0 := Int.tmod_eq_emod_of_nonneg (b := 2102) (hw (IntKind.u64.wrap a4 + 1077))
  have e1 := Int.tmod_eq_emod_of_nonneg (b := 60) (hw a4)
  have e2 := Int.tmod_eq_emod_of_nonneg (b := 8) (hw a4)
  unfold Zones
  rw [e3, e0, e1, e2]
  rcases (show a3 % 3 = 0 ∨ a3 % 3 = 1 ∨ a3 % 3 = 2 by omega) with h | h | h
  · exact ⟨_, .inl ⟨h, h, _, by omega, by omega, rfl, rfl⟩, by omega, by omega⟩
  · exact ⟨_, .inr (.inl ⟨h, h, _, by omega, by omega, rfl, rfl⟩), by omega, by omega⟩
  · exact ⟨_, .inr (.inr ⟨h, h, _, by omega, by omega, rfl, rfl⟩), by omega, by omega⟩

theorem rep_c61 : Rep 4332462841530417152 false 1 (-61) := by
  have := rep_pow2 (-61) (by omega) (by omega)
  rw [show ((-61 : Int) + 1023).toNat * 2 ^ 52 = 4332462841530417152 by decide +kernel] at this
  exact this

/-- The word of hm times 2^-61. -/
theorem hi_word (hq hm : Nat) (h : (hq : Int) * 512 = (hm : Int)) (h2 : hq < 2 ^ 53) : ∃ hi, Rep hi false hm (-61) ∧ ∀ w, (binOp .mul 24 (.float .f64 (floatOfInt .f64 (hm : Int))) (.float .f64 4332462841530417152)).run Yba.prog w = .ok (.float .f64 hi) w := by
  have hs : Same hm 0 hq 9 := by
    have := (same_shift hq 9 9).symm
    rw [show hq * 2 ^ 9 = hm by omega, show (9 : Int) - ((9 : Nat) : Int) = 0 by omega] at this
    exact this
  have hr := rep_int (hm : Int) (M := hq) (i := 9) (by rw [Int.natAbs_natCast]; exact hs) (by omega) (by omega) (by omega)
  rw [decide_eq_false (by omega), Int.natAbs_natCast] at hr
  have hm1 := mul_pow hr rep_c61
  refine ⟨_, ?_, fun w => run_mul _ _ _ hm1 w⟩
  rw [show (0 : Int) + -61 = -61 by omega]
  refine rep_near_same false (M := hq) (i := -52) ?_ (by omega) (by omega) (by omega)
  have := (same_shift hq 9 (-52)).symm
  rw [show hq * 2 ^ 9 = hm by omega, show (-52 : Int) - ((9 : Nat) : Int) = -61 by omega] at this
  exact this

/-- The word of lm times 2^-61. -/
theorem lo_word (l : Int) (h1 : -8796093022208 < l) (h2 : l < 8796093022208) : ∃ lo, Rep lo (decide (l < 0)) l.natAbs (-61) ∧ ∀ w, (binOp .mul 24 (.float .f64 (floatOfInt .f64 l)) (.float .f64 4332462841530417152)).run Yba.prog w = .ok (.float .f64 lo) w := by
  have hr := rep_int l (M := l.natAbs) (i := 0) (Same.refl _ _) (by omega) (by omega) (by omega)
  have hm1 := mul_pow hr rep_c61
  refine ⟨_, ?_, fun w => run_mul _ _ _ hm1 w⟩
  rw [show (0 : Int) + -61 = -61 by omega]
  exact rep_near _ (by omega) (by omega) (by omega)
theorem sg_dec (l : Int) : sg (decide (l < 0)) l.natAbs = l := by
  unfold sg
  by_cases h : l < 0
  · rw [decide_eq_true h, if_pos rfl]; omega
  · rw [decide_eq_false h, if_neg (by decide)]; omega

theorem bnd_u64 {n : Int} (h : (Lit.int .u64 n).wf = true) : 0 ≤ n ∧ n ≤ 18446744073709551615 := by
  simp only [Lit.wf, Bool.and_eq_true, decide_eq_true_eq] at h
  have e1 : IntKind.u64.min = 0 := by decide
  have e2 : IntKind.u64.max = 18446744073709551615 := by decide
  rw [e1, e2] at h
  exact h
theorem bnd_i64 {n : Int} (h : (Lit.int .i64 n).wf = true) : -9223372036854775808 ≤ n ∧ n ≤ 9223372036854775807 := by
  simp only [Lit.wf, Bool.and_eq_true, decide_eq_true_eq] at h
  have e1 : IntKind.i64.min = -9223372036854775808 := by decide
  have e2 : IntKind.i64.max = 9223372036854775807 := by decide
  rw [e1, e2] at h
  exact h
theorem bnd_u8 {n : Int} (h : (Lit.int .u8 n).wf = true) : 0 ≤ n ∧ n ≤ 255 := by
  simp only [Lit.wf, Bool.and_eq_true, decide_eq_true_eq] at h
  have e1 : IntKind.u8.min = 0 := by decide
  have e2 : IntKind.u8.max = 255 := by decide
  rw [e1, e2] at h
  exact h

theorem walk0 (a0 : Int) (a1 : Int) (a2 : Bool) (a3 : Int) (a4 : Int) (w0 : (Lit.int .u64 a0).wf = true) (w1 : (Lit.int .i64 a1).wf = true) (w3 : (Lit.int .u8 a3).wf = true) (w4 : (Lit.int .i64 a4).wf = true) (w : World) :
    Calls Yba.prog 3 #[.int .u64 a0, .int .i64 a1, .bool a2, .int .u8 a3, .int .i64 a4] w fun e w' => e = .returned (.bool true) ∧ w' = w := by
  obtain ⟨h0, h0'⟩ := bnd_u64 w0
  obtain ⟨h1, h1'⟩ := bnd_i64 w1
  obtain ⟨h3, h3'⟩ := bnd_u8 w3
  obtain ⟨h4, h4'⟩ := bnd_i64 w4
  obtain ⟨kk, hz, hk1, hk2⟩ := zones_at a3 a4 h3
  obtain ⟨hr, f1⟩ : ∃ hr : Nat, a0 % 4503599627370496 = (hr : Int) := ⟨(a0 % 4503599627370496).toNat, by omega⟩
  have f1t : a0.tmod 4503599627370496 = (hr : Int) := by rw [Int.tmod_eq_emod_of_nonneg h0]; exact f1
  obtain ⟨hq, f2⟩ : ∃ hq : Nat, 2251799813685248 + (hr : Int) = (hq : Int) := ⟨2251799813685248 + hr, by omega⟩
  obtain ⟨hm, f3⟩ : ∃ hm : Nat, (hq : Int) * 512 = (hm : Int) := ⟨hq * 512, by omega⟩
  have hr2 : hr < 4503599627370496 := by omega
  have hlr1 : -137438953472 < a1.tmod 137438953472 := Int.lt_tmod_of_pos a1 (by decide)
  have hlr2 : a1.tmod 137438953472 < 137438953472 := Int.tmod_lt_of_pos a1 (by decide)
  generalize f4 : a1.tmod 137438953472 = lr at hlr1 hlr2
  obtain ⟨lm, f5⟩ : ∃ lm : Int, lr * 64 = lm := ⟨_, rfl⟩
  obtain ⟨ml, f6⟩ : ∃ ml : Int, -lm = ml := ⟨_, rfl⟩
  obtain ⟨hi0, rhi0, m1⟩ := hi_word hq hm f3 (by omega)
  obtain ⟨loK, rloK, mK⟩ := lo_word lm (by omega) (by omega)
  obtain ⟨loF, rloF, mF⟩ := lo_word ml (by omega) (by omega)
  have sK := sg_dec lm
  have sF := sg_dec ml
  have e1 : sg false hm = (hm : Int) := by simp [sg]
  have e2 : sg true hm = -(hm : Int) := by simp [sg]
  by_cases hk : kk < -1021
  · by_cases hn : (hm : Int) + lm < 1152921504606846976
    · obtain ⟨nf, hnf⟩ : ∃ nf : Nat, (hm : Int) - lm = (nf : Int) := ⟨((hm : Int) - lm).toNat, by omega⟩
      have cr := round_calls (k := kk) (n := nf) w rhi0 rloF (by rw [sF, e1]; simp [sg]; omega) (by omega) (by omega) (by omega) hk1 hk2 (fun _ => rfl)
      have cm := model_calls false nf (kk - 61) (by omega) (by omega) (by omega) (by omega) w
      exact law_A_flip a0 a1 a3 a4 a2 kk lr lm ml hr hq hm nf hi0 loF _ w h0 h0' h1 h1' h3 h3' h4 h4' hz hk hk1 hk2 f1 f1t f2 f3 hr2 f4 f5 f6 hlr1 hlr2 hn hnf (by omega) (by omega) m1 mF cr cm
    · obtain ⟨nf, hnf⟩ : ∃ nf : Nat, (hm : Int) + lm = (nf : Int) := ⟨((hm : Int) + lm).toNat, by omega⟩
      have cr := round_calls (k := kk) (n := nf) w rhi0 rloK (by rw [sK, e1]; simp [sg]; omega) (by omega) (by omega) (by omega) hk1 hk2 (fun _ => rfl)
      have cm := model_calls false nf (kk - 61) (by omega) (by omega) (by omega) (by omega) w
      exact law_A_keep a0 a1 a3 a4 a2 kk lr lm ml hr hq hm nf hi0 loK _ w h0 h0' h1 h1' h3 h3' h4 h4' hz hk hk1 hk2 f1 f1t f2 f3 hr2 f4 f5 f6 hlr1 hlr2 hnf (by omega) (by omega) (by omega) m1 mK cr cm
  · cases a2
    · by_cases hn : (hm : Int) + lm < 1152921504606846976
      · obtain ⟨nf, hnf⟩ : ∃ nf : Nat, (hm : Int) - lm = (nf : Int) := ⟨((hm : Int) - lm).toNat, by omega⟩
        have cr := round_calls (k := kk) (n := nf) w rhi0 rloF (by rw [sF, e1]; simp [sg]; omega) (by omega) (by omega) (by omega) hk1 hk2 (fun _ => rfl)
        have cm := model_calls false nf (kk - 61) (by omega) (by omega) (by omega) (by omega) w
        exact law_B_flip a0 a1 a3 a4 kk lr lm ml hr hq hm nf hi0 loF _ w h0 h0' h1 h1' h3 h3' h4 h4' hz hk hk1 hk2 f1 f1t f2 f3 hr2 f4 f5 f6 hlr1 hlr2 hn hnf (by omega) (by omega) m1 mF cr cm
      · obtain ⟨nf, hnf⟩ : ∃ nf : Nat, (hm : Int) + lm = (nf : Int) := ⟨((hm : Int) + lm).toNat, by omega⟩
        have cr := round_calls (k := kk) (n := nf) w rhi0 rloK (by rw [sK, e1]; simp [sg]; omega) (by omega) (by omega) (by omega) hk1 hk2 (fun _ => rfl)
        have cm := model_calls false nf (kk - 61) (by omega) (by omega) (by omega) (by omega) w
        exact law_B_keep a0 a1 a3 a4 kk lr lm ml hr hq hm nf hi0 loK _ w h0 h0' h1 h1' h3 h3' h4 h4' hz hk hk1 hk2 f1 f1t f2 f3 hr2 f4 f5 f6 hlr1 hlr2 hnf (by omega) (by omega) (by omega) m1 mK cr cm
    · have rhi1 := rhi0.flip
      have hneg1 : ∀ w, (Op.unary .neg (.float .f64 hi0)).run Yba.prog w = .ok (.float .f64 (hi0 ^^^ 2 ^ 63)) w := fun _ => rfl
      generalize hi0 ^^^ 2 ^ 63 = hi1 at rhi1 hneg1
      by_cases hn : (hm : Int) + ml < 1152921504606846976
      · obtain ⟨nf, hnf⟩ : ∃ nf : Nat, (hm : Int) - ml = (nf : Int) := ⟨((hm : Int) - ml).toNat, by omega⟩
        have cr := round_calls (k := kk) (n := nf) w rhi1 rloF (by rw [sF, Bool.not_false, e2]; simp [sg]; omega) (by omega) (by omega) (by omega) hk1 hk2 (fun h => absurd h hk)
        have cm := model_calls true nf (kk - 61) (by omega) (by omega) (by omega) (by omega) w
        exact law_C_flip a0 a1 a3 a4 kk lr lm ml hr hq hm nf hi0 hi1 loF _ w h0 h0' h1 h1' h3 h3' h4 h4' hz hk hk1 hk2 f1 f1t f2 f3 hr2 f4 f5 f6 hlr1 hlr2 hn hnf (by omega) (by omega) m1 hneg1 mF cr cm
      · obtain ⟨nf, hnf⟩ : ∃ nf : Nat, (hm : Int) + ml = (nf : Int) := ⟨((hm : Int) + ml).toNat, by omega⟩
        have cr := round_calls (k := kk) (n := nf) w rhi1 rloK (by rw [sK, Bool.not_false, e2]; simp [sg]; omega) (by omega) (by omega) (by omega) hk1 hk2 (fun h => absurd h hk)
        have cm := model_calls true nf (kk - 61) (by omega) (by omega) (by omega) (by omega) w
        exact law_C_keep a0 a1 a3 a4 kk lr lm ml hr hq hm nf hi0 hi1 loK _ w h0 h0' h1 h1' h3 h3' h4 h4' hz hk hk1 hk2 f1 f1t f2 f3 hr2 f4 f5 f6 hlr1 hlr2 hnf (by omega) (by omega) (by omega) m1 hneg1 mK cr cm

theorem walk (a0 : Int) (a1 : Int) (a2 : Bool) (a3 : Int) (a4 : Int) (w0 : (Lit.int .u64 a0).wf = true) (w1 : (Lit.int .i64 a1).wf = true) (w3 : (Lit.int .u8 a3).wf = true) (w4 : (Lit.int .i64 a4).wf = true) (w : World) :
    Calls Yba.prog 3 #[.int .u64 a0, .int .i64 a1, .bool a2, .int .u8 a3, .int .i64 a4] w fun e w' => e = .returned (.bool true) ∧ Grown w w' := by
  refine (walk0 a0 a1 a2 a3 a4 w0 w1 w3 w4 w).mono fun e w' ⟨h1, h2⟩ => ?_
  subst h2
  exact ⟨h1, Grown.refl _⟩

/-! ### THE ROW's STEP: WRITTEN OUT: LEAVE IT -/
set_option maxRecDepth 100000 in
theorem lifted (os : Os) (started : os.Started) (H : Type) (enc : TypeId × Value → H) :
    ReturnsInHanded {} Yba.checked os 3 .any (Rows.lawS6438CWholeSpec.pre6 enc Yba.prog Yba.f3 Rows.lawS6438CWholeRow.domain false) (Rows.lawS6438CWholeSpec.post enc Yba.prog Yba.f3 false true false false) := by
  refine returnsInHanded_of_change (C := Yba.checked) own started (by kernel_rfl) Yba.func3
    (ChangeSpec.witness6 (enc := enc) (C := Yba.checked) false ⟨#[], #[.int .u64 0, .int .i64 0, .bool false, .int .u8 0, .int .i64 0], []⟩ 8 (by kernel_rfl) (by kernel_rfl) (by kernel_rfl) (by kernel_rfl)) ?_
  intro W base args ds gs before hval0 hW hcnd _
  have hval : ∀ (j : Nat) t v, Yba.f3.params[j]? = some t → args[j]? = some v → Value.okWide Yba.prog W .any base t v := hval0
  have hW' := hW
  obtain ⟨p, q, hA0, hV, rfl, hfz, hnd⟩ := hW
  have hA : DataW.TrodAll enc Yba.prog W 0 (fun _ => true) true Yba.f3.params.toList args.toList ds p := hA0
  rw [Yba.params3] at hA hval
  obtain ⟨v0, vs0, d0, ds0, p0, q0, hargs, rfl, rfl, h0, r0⟩ := trodAll_cons hA
  obtain ⟨v1, vs1, d1, ds1, p1, q1, rfl, rfl, rfl, h1, r1⟩ := trodAll_cons r0
  obtain ⟨v2, vs2, d2, ds2, p2, q2, rfl, rfl, rfl, h2, r2⟩ := trodAll_cons r1
  obtain ⟨v3, vs3, d3, ds3, p3, q3, rfl, rfl, rfl, h3, r3⟩ := trodAll_cons r2
  obtain ⟨v4, vs4, d4, ds4, p4, q4, rfl, rfl, rfl, h4, r4⟩ := trodAll_cons r3
  obtain ⟨rfl, rfl, rfl⟩ := trodAll_nil r4
  obtain rfl : args = #[v0, v1, v2, v3, v4] := by cases args; simp_all
  obtain ⟨rfl, rfl⟩ := trodVars_none hV
  obtain ⟨a0, rfl, rfl, rfl, w0⟩ := open_int Yba.underlying22 (hval 0 22 v0 rfl rfl) h0
  obtain ⟨a1, rfl, rfl, rfl, w1⟩ := open_int Yba.underlying2 (hval 1 2 v1 rfl rfl) h1
  obtain ⟨a2, rfl, rfl, rfl⟩ := open_bool Yba.underlying4 (hval 2 4 v2 rfl rfl) h2
  obtain ⟨a3, rfl, rfl, rfl, w3⟩ := open_int Yba.underlying5 (hval 3 5 v3 rfl rfl) h3
  obtain ⟨a4, rfl, rfl, rfl, w4⟩ := open_int Yba.underlying3 (hval 4 3 v4 rfl rfl) h4
  clear hA0 hval0
  simp only [List.append_nil] at hW'
  refine (walk a0 a1 a2 a3 a4 w0 w1 w3 w4 W).mono fun e W' ⟨he, hg⟩ => ?_
  subst he
  exact ⟨_, rfl, post_of_same (pa := []) (pv := []) hW' (fun _ _ _ => (trodAll_cons_mk (shut_bool Yba.underlying4 _) trodAll_mk0)) (fun sp _ => (trodAll_cons_mk (shut_int Yba.underlying22 w0) (trodAll_cons_mk (shut_int Yba.underlying2 w1) (trodAll_cons_mk (shut_bool Yba.underlying4 _) (trodAll_cons_mk (shut_int Yba.underlying5 w3) (trodAll_cons_mk (shut_int Yba.underlying3 w4) trodAll_mk0)))))) (fun _ _ => rfl) rfl
    (hg.frame _) hg.2.1 (ok_one (by kernel_rfl) rfl (okWide_bool_mk Yba.underlying4 _))⟩

theorem over : Rows.lawS6438CWholeRow.holds Yba.pinned (OpenSpec.ofChange Rows.lawS6438CWholeSpec) :=
  OpenClaim.holds_of_wide 3 Yba.f3 rfl rfl rfl rfl rfl rfl rfl ⟨rfl, rfl, rfl, rfl, rfl⟩ rfl rfl rfl rfl rfl (by kernel_rfl) Yba.func3 (by kernel_rfl)
    (of_decide_eq_true (by kernel_rfl)) (by unfold Func.isWrapper; first | (rw [if_pos (by decide +kernel)]; kernel_rfl) | (rw [if_neg (by decide +kernel)]; exact ⟨rfl, rfl⟩))
    (fun os started H enc _ => lifted os started H enc)

theorem lawC_proved : Rows.LawS6438CWholeSaid :=
  over
end Go.Proofs.Ybulkechq
