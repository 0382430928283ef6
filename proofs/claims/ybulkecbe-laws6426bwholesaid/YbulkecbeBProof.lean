import Derived.Test.YbulkecbeBLaw
import Derived.OpenShut
import Derived.ShutString
import Derived.ChangeOld
import Derived.SizedLaws
import Derived.Deep.Slices
namespace Go.Proofs.Ybulkecbe.B
open Go.ChangeShapes Go.WideShapes Go.ChangeAt Go.RowKit

set_option maxRecDepth 100000 in
/-- Too many names for the law: it answers true at once. -/
theorem law_long (a : Option Addr) (la ca : Nat) (b : Option Addr) (lb cb : Nat) (w : World) (h1 : la ≤ 140737488355328) (hl : 4096 < la) :
    Calls Yba.prog 4 #[.slice a la ca, .slice b lb cb] w fun e w' => e = .returned (.bool true) ∧ Below w.heap.size w w' := by
  have hl1 : (4096 : Int) < (la : Int) := by omega
  have h1' : (la : Int) ≤ 140737488355328 := by omega
  go_enter Yba.func4, Yba.ntmps4
  go_wp2_with fail
  go_ret
  exact ⟨rfl, Below.refl _ _⟩

theorem laidOut : laidOutB Yba.prog = true := by kernel_rfl
theorem own : ownKnob Yba.prog.godebug = none := by kernel_rfl
theorem cells9 : Yba.prog.cellsOf 9 = 1 := by kernel_rfl
theorem cells5 : Yba.prog.cellsOf 5 = 1 := by kernel_rfl
theorem bytes9 : Yba.prog.bytesOf 9 = 16 := by kernel_rfl
theorem bytes5 : Yba.prog.bytesOf 5 = 1 := by kernel_rfl

set_option maxRecDepth 100000 in
theorem open_names {H : Type} {enc : TypeId × Value → H} {w : World} {a : Option Addr} {len cap fuel : Nat} {d : DataW H} {p : List MemPlace}
    (hf : DataW.trod enc Yba.prog w 0 (fun _ => true) true fuel 47 [.slice a len cap] = some (d, p)) : Names w a len ∧ ((d = .nil ∧ len = 0) ∨ ∃ el sp, d = .slice el sp ∧ len ≤ el.length) := by
  rcases Deep.open_slice Yba.underlying47 hf with ⟨hcs, hx⟩ | ⟨x, l, c, m, n, D, Pl, hcs, _, hl, hm, hmm, hx, hcell⟩
  · simp at hcs hx
    obtain ⟨rfl, rfl, rfl⟩ := hcs
    exact ⟨fun h => by omega, .inl ⟨hx.1, rfl⟩⟩
  · simp at hcs
    obtain ⟨rfl, rfl, rfl⟩ := hcs
    simp at hmm
    simp only [Prod.mk.injEq] at hx
    refine ⟨fun hpos => ?_, .inr ⟨_, _, hx.1, by simp⟩⟩
    obtain ⟨b, off, spot⟩ := x
    obtain ⟨cs0, hc0, _⟩ := hcell 0 (by omega)
    rw [cells9] at hc0
    obtain ⟨_, hlen0, hcell0⟩ := World.cells?_some hc0
    have g0 := hcell0 0 (by omega)
    obtain ⟨v, hv⟩ : ∃ v, cs0[0]? = some v := ⟨_, List.getElem?_eq_getElem (by omega)⟩
    rw [hv] at g0
    simp [Addr.add] at g0
    have hspot : spot = none := by simpa using World.cell?_spot g0
    subst hspot
    refine ⟨b, off, rfl, ?_, ?_⟩
    · have := World.block_lt_of_cell? _ _ g0
      simpa using this
    · intro i hi
      obtain ⟨cs, h1, h2⟩ := hcell i (by omega)
      rw [cells9, add_plain] at h1
      obtain ⟨_, hlen, hc⟩ := World.cells?_some h1
      obtain ⟨s, rfl, _, hs⟩ := DataW.trod_string Yba.underlying9 h2
      have c0 := hc 0 (by omega)
      rw [add_plain] at c0
      simp at c0
      have e : (⟨s.data.toList.toArray⟩ : ByteArray) = s := by cases s; simp
      exact ⟨s.data.toList, by rw [e]; exact c0, by rw [Array.length_toList]; exact hs⟩

set_option maxRecDepth 100000 in
theorem open_flags {H : Type} {enc : TypeId × Value → H} {w : World} {a : Option Addr} {len cap fuel : Nat} {d : DataW H} {p : List MemPlace}
    (hf : DataW.trod enc Yba.prog w 0 (fun _ => true) true fuel 48 [.slice a len cap] = some (d, p)) : Flags w a len ∧ ((d = .nil ∧ len = 0) ∨ ∃ el sp, d = .slice el sp ∧ len ≤ el.length) := by
  rcases Deep.open_slice Yba.underlying48 hf with ⟨hcs, hx⟩ | ⟨x, l, c, m, n, D, Pl, hcs, _, hl, hm, hmm, hx, hcell⟩
  · simp at hcs hx
    obtain ⟨rfl, rfl, rfl⟩ := hcs
    exact ⟨fun h => by omega, .inl ⟨hx.1, rfl⟩⟩
  · simp at hcs
    obtain ⟨rfl, rfl, rfl⟩ := hcs
    simp at hmm
    simp only [Prod.mk.injEq] at hx
    refine ⟨fun hpos => ?_, .inr ⟨_, _, hx.1, by simp⟩⟩
    obtain ⟨b, off, spot⟩ := x
    obtain ⟨cs0, hc0, _⟩ := hcell 0 (by omega)
    rw [cells5] at hc0
    obtain ⟨_, hlen0, hcell0⟩ := World.cells?_some hc0
    have g0 := hcell0 0 (by omega)
    obtain ⟨v, hv⟩ : ∃ v, cs0[0]? = some v := ⟨_, List.getElem?_eq_getElem (by omega)⟩
    rw [hv] at g0
    simp [Addr.add] at g0
    have hspot : spot = none := by simpa using World.cell?_spot g0
    subst hspot
    refine ⟨b, off, rfl, ?_, ?_⟩
    · have := World.block_lt_of_cell? _ _ g0
      simpa using this
    · intro i hi
      obtain ⟨cs, h1, h2⟩ := hcell i (by omega)
      rw [cells5, add_plain] at h1
      obtain ⟨_, hlen, hc⟩ := World.cells?_some h1
      obtain ⟨f, rfl, _, hs⟩ := DataW.trod_int Yba.underlying5 h2
      have c0 := hc 0 (by omega)
      rw [add_plain] at c0
      simp at c0
      have hb : 0 ≤ f ∧ f < 256 := by
        simp [Lit.wf, IntKind.min, IntKind.max, IntKind.signed, IntKind.bits] at hs
        omega
      exact ⟨f, c0, hb.1, hb.2⟩

set_option maxRecDepth 100000 in
theorem lifted (os : Os) (started : os.Started) (H : Type) (enc : TypeId × Value → H) :
    ReturnsInHanded {} Yba.checked os 4 .any (Rows.lawS6426BWholeSpec.pre6 enc Yba.prog Yba.f4 Rows.lawS6426BWholeRow.domain false) (Rows.lawS6426BWholeSpec.post enc Yba.prog Yba.f4 false true false false) := by
  refine returnsInHanded_of_change_sized (C := Yba.checked) own started (by kernel_rfl) Yba.func4
    (ChangeSpec.witness6 (enc := enc) (C := Yba.checked) false ⟨#[], #[.slice none 0 0, .slice none 0 0], []⟩ 8 (by kernel_rfl) (by kernel_rfl) (by kernel_rfl) (by kernel_rfl)) ?_
  intro W base args ds gs before hval0 hW hcnd hsz0 _
  have hval : ∀ (j : Nat) t v, Yba.f4.params[j]? = some t → args[j]? = some v → Value.okWide Yba.prog W .any base t v := hval0
  have hsz : (DataW.weightsEach Yba.prog (Yba.f4.params.toList ++ Rows.lawS6426BWholeSpec.plain.varTypes Yba.prog) (ds ++ gs)).all (· ≤ reachBytes) = true := hsz0
  have hW' := hW
  obtain ⟨p, q, hA0, hV, rfl, hfz, hnd⟩ := hW
  have hA : DataW.TrodAll enc Yba.prog W 0 (fun _ => true) true Yba.f4.params.toList args.toList ds p := hA0
  rw [Yba.params4] at hA hval hsz
  obtain ⟨v0, vs0, d0, ds0, p0, q0, hargs, rfl, rfl, h0, r0⟩ := trodAll_cons hA
  obtain ⟨v1, vs1, d1, ds1, p1, q1, rfl, rfl, rfl, h1, r1⟩ := trodAll_cons r0
  obtain ⟨rfl, rfl, rfl⟩ := trodAll_nil r1
  obtain rfl : args = #[v0, v1] := by cases args; simp_all
  obtain ⟨rfl, rfl⟩ := trodVars_none hV
  obtain ⟨a0, len0, cap0, rfl⟩ := okWide_slice Yba.underlying47 (hval 0 47 v0 rfl rfl)
  obtain ⟨a1, len1, cap1, rfl⟩ := okWide_slice Yba.underlying48 (hval 1 48 v1 rfl rfl)
  have k0 := h0
  have lt0 : ∀ x ∈ p0, x.block < W.heap.size := by obtain ⟨m, hm⟩ := k0; exact DataW.trod_lt m _ _ _ hm
  have k1 := h1
  have lt1 : ∀ x ∈ p1, x.block < W.heap.size := by obtain ⟨m, hm⟩ := k1; exact DataW.trod_lt m _ _ _ hm
  obtain ⟨f0, hf0⟩ := h0
  obtain ⟨f1, hf1⟩ := h1
  obtain ⟨i0, s0⟩ := open_names (by simpa [Value.cells] using hf0)
  obtain ⟨i1, s1⟩ := open_flags (by simpa [Value.cells] using hf1)
  have b0 : len0 ≤ 140737488355328 := by
    rcases s0 with ⟨_, h⟩ | ⟨el, sp, rfl, h⟩
    · omega
    · have := sized_slice hsz (j := 0) (t := 47) (e := 9) rfl rfl Yba.underlying47
      rw [bytes9] at this
      unfold reachBytes at this
      omega
  have b1 : len1 ≤ 140737488355328 := by
    rcases s1 with ⟨_, h⟩ | ⟨el, sp, rfl, h⟩
    · omega
    · have := sized_slice hsz (j := 1) (t := 48) (e := 5) rfl rfl Yba.underlying48
      rw [bytes5] at this
      unfold reachBytes at this
      omega
  clear hA0 hval0 hsz hsz0
  have walk : Calls Yba.prog 4 #[.slice a0 len0 cap0, .slice a1 len1 cap1] W fun e w' => e = .returned (.bool true) ∧ Below W.heap.size W w' := by
    by_cases hl : 4096 < len0
    · exact law_long a0 len0 cap0 a1 len1 cap1 W b0 hl
    · exact law_of a0 len0 cap0 a1 len1 cap1 W i0 i1 (by omega) b1
  refine walk.mono fun e W' ⟨he, bel⟩ => ?_
  subst he
  exact ⟨_, rfl, _, _, _, [], _, [], hW', trodAll_mk1 (shut_bool Yba.underlying4 _), (trodAll_cons_mk (Below.trod laidOut (by kernel_rfl) (of_decide_eq_true (by kernel_rfl)) k0 bel lt0) (trodAll_cons_mk (Below.trod laidOut (by kernel_rfl) (of_decide_eq_true (by kernel_rfl)) k1 bel lt1) trodAll_mk0)), rfl, bel.frame _, fun h => by cases h⟩

theorem over : Rows.lawS6426BWholeRow.holds Yba.pinned (OpenSpec.ofChange Rows.lawS6426BWholeSpec) :=
  OpenClaim.holds_of_wide 4 Yba.f4 rfl rfl rfl rfl rfl rfl rfl ⟨rfl, rfl, rfl, rfl, rfl⟩ rfl rfl rfl rfl rfl (by kernel_rfl) Yba.func4 (by kernel_rfl)
    (of_decide_eq_true (by kernel_rfl)) (by unfold Func.isWrapper; first | (rw [if_pos (by decide +kernel)]; kernel_rfl) | (rw [if_neg (by decide +kernel)]; exact ⟨rfl, rfl⟩))
    (fun os started H enc _ => lifted os started H enc)
end Go.Proofs.Ybulkecbe.B

namespace Go.Proofs.Ybulkecbe
/-- THE STATEMENT. -/
theorem lawB_proved : Rows.LawS6426BWholeSaid := B.over
#print axioms lawB_proved
end Go.Proofs.Ybulkecbe
