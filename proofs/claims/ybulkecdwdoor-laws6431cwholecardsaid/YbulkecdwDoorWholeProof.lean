import Derived.Test.YbulkecdwDoorFrame
import Derived.Test.YbulkecdwDoorWholeLaw
import Derived.Test.YbulkecdwDoorCards
import Derived.Test.YbulkecdwDoorTie
import Derived.SevenTiedAt
import Derived.OpenShut
import Derived.ProofKit
import Derived.Below
namespace Go.Proofs.YbulkecdwDoor
open Go.ChangeShapes Go.WideShapes Go.RowKit

theorem f64_bound {b : Nat} (h : (Lit.float .f64 b).wf = true) : b < 2 ^ 64 := by
  simpa [Lit.wf] using h

set_option maxRecDepth 100000 in
theorem whole_lifted (os : Os) (started : os.Started) (H : Type) (enc : TypeId × Value → H) :
    ReturnsInHanded {} Ybad.checked os 3 .any (fun w args => (Rows.lawS6431CWholeSpec.pre enc Ybad.prog Ybad.f3 [] false w args ∧ laidMetH Ybad.prog laidList w) ∧ sizedMet enc Ybad.prog Ybad.f3 (OpenSpec.ofChange Rows.lawS6431CWholeSpec) false w args)
      (Rows.lawS6431CWholeSpec.post enc Ybad.prog Ybad.f3 false true false false) := by
  refine returnsInHanded_of_change_and (C := Ybad.checked) (X := fun w _ => laidMetH Ybad.prog laidList w) (fun _ _ _ hh h => h.of_heap hh) own started (by kernel_rfl) Ybad.func3
    (ChangeSpec.witness_at (enc := enc) (C := Ybad.checked) (os := os) (X := fun w _ => laidMetH Ybad.prog laidList w) false (lay21 (World.holding Ybad.prog os ⟨#[], #[], []⟩)) #[.float .f64 0, .int .i64 0] 8 rfl (by kernel_rfl) (by kernel_rfl) (by kernel_rfl) (by kernel_rfl) (by kernel_rfl)
      (laidWorld_met os _)) ?_
  intro W base args ds gs before hval0 hW _ _ hL _
  have hval : ∀ (j : Nat) t v, Ybad.f3.params[j]? = some t → args[j]? = some v → Value.okWide Ybad.prog W .any base t v := hval0
  have hW' := hW
  obtain ⟨p, q, hA0, hV0, rfl, hfz, hnd⟩ := hW
  have hA : DataW.TrodAll enc Ybad.prog W 0 (fun _ => true) true Ybad.f3.params.toList args.toList ds p := hA0
  have hV : DataW.TrodVars enc Ybad.prog W (fun _ => true) [vname] gs q := hV0
  rw [Ybad.params3] at hA hval
  obtain ⟨v0, vs0, d0, ds0, p0, q0, hargs, rfl, rfl, h0, r0⟩ := trodAll_cons hA
  obtain ⟨v1, vs1, d1, ds1, p1, q1, rfl, rfl, rfl, h1, r1⟩ := trodAll_cons r0
  obtain ⟨rfl, rfl, rfl⟩ := trodAll_nil r1
  obtain rfl : args = #[v0, v1] := by cases args; simp_all
  obtain ⟨a0, rfl, rfl, rfl, w0⟩ := open_float Ybad.underlying22 (hval 0 22 v0 rfl rfl) h0
  obtain ⟨a1, rfl, rfl, rfl, w1⟩ := open_int Ybad.underlying3 (hval 1 3 v1 rfl rfl) h1
  obtain ⟨g, t, cs, fuel, d, p', rfl, hg, ht, hvar, hd, rfl⟩ := trodVars_one hV
  obtain rfl := Option.some.inj (pow.symm.trans hg)
  obtain rfl := Option.some.inj (powType.symm.trans ht)
  have hL' : laidMet Ybad.prog laidList W := by
    rw [← MakeChecks.laidMetH_plain _ _ _ plainList]; exact hL
  have hvar2 := var_of_laid hL'
  obtain rfl : cs = cells21.toArray := Option.some.inj (hvar.symm.trans hvar2)
  obtain ⟨rfl, rfl⟩ := DataW.Trod.unique (v := .agg cells21.toArray) ⟨fuel, hd⟩ ⟨3, reads_table enc W _⟩
  clear hA0 hV0 hval0
  have hb := f64_bound w0
  refine (whole_law a0 a1 hb W (tab_of_var hvar2)).mono fun e W' ⟨he, hw⟩ => ?_
  subst he
  have hvar' : W'.var? Ybad.prog vname = some cells21.toArray := by
    rcases hw with rfl | rfl
    · exact hvar
    · exact hvar
  have hkept : W.keptBut W' (· ∈ ([] ++ ([] ++ []) ++ (MemPlace.row ⟨0, 0, none⟩ cells21.toArray.size ++ []))) := by
    rcases hw with rfl | rfl
    · exact World.keptBut_refl _ _
    · exact (Below.drew (Below.refl W.heap.size W)).frame _
  have hfrz : ∀ a, W'.frozen? a = W.frozen? a := by
    rcases hw with rfl | rfl
    · exact fun _ => rfl
    · exact fun _ => rfl
  have hvars : ∀ sp : Nat → Bool, DataW.TrodVars enc Ybad.prog W' sp [vname] [tabH] (MemPlace.row ⟨0, 0, none⟩ cells21.toArray.size ++ [] ++ []) := fun sp =>
    ⟨0, 29, cells21.toArray, 3, [], [], hg, ht, hvar', reads_table enc W' sp, rfl, rfl⟩
  exact ⟨_, rfl, post_of_same (pa := []) hW' (fun _ _ _ => trodAll_mk1 (shut_bool Ybad.underlying4 true)) (fun sp _ => trodAll_cons_mk (shut_float Ybad.underlying22 w0) (trodAll_cons_mk (shut_int Ybad.underlying3 w1) trodAll_mk0)) (fun sp _ => hvars sp) (by simp)
    hkept hfrz (ok_one (by kernel_rfl) rfl (okWide_bool_mk Ybad.underlying4 true))⟩

theorem whole_row : Rows.LawS6431CWholeSaid :=
  OpenClaim.holds_of_wide 3 Ybad.f3 rfl rfl rfl rfl rfl rfl rfl ⟨rfl, rfl, rfl, rfl, rfl⟩ rfl rfl rfl rfl rfl (by kernel_rfl) Ybad.func3 (by kernel_rfl)
    (of_decide_eq_true (by kernel_rfl)) (by unfold Func.isWrapper; rw [if_neg (of_decide_eq_false (by kernel_rfl))]; exact ⟨rfl, rfl⟩)
    (fun os started H enc _ => whole_lifted os started H enc)

theorem whole_proved : Rows.LawS6431CWholeCardSaid :=
  Claim7.holds_tied_plain_at .later [] [.called] true (true, "43174e2e1db2afd4e68fafc241f7733c192a4200dde9734926a4f7444ad4bb7f") false
    whole_row (fun _ h => by cases h) (by kernel_rfl) (fun _ h => by cases h) lawS6431CWhole_row_tie rfl ⟨rfl, rfl⟩ (by kernel_rfl) rfl
    (fun f fn hf hfn => by
      obtain rfl : f = 3 := Option.some.inj ((show Ybad.prog.funcNamed Rows.lawS6431CWholeRow.func = some 3 by kernel_rfl).symm.trans hf) |>.symm
      obtain rfl : fn = Ybad.f3 := (Option.some.inj (Ybad.func3.symm.trans hfn)).symm
      exact ⟨by kernel_rfl, fun j t ht => by
        rw [Ybad.params3] at ht
        have h3 : t = 22 ∨ t = 3 := by
          rcases j with _ | _ | j
          · left; simpa using ht.symm
          · right; simpa using ht.symm
          · simp at ht
        rcases h3 with rfl | rfl
        · exact (show Ybad.prog.wantsStandIn 22 = false by kernel_rfl)
        · exact (show Ybad.prog.wantsStandIn 3 = false by kernel_rfl)⟩)
    (by kernel_rfl)
end Go.Proofs.YbulkecdwDoor
