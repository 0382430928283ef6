import Derived.Test.YbulkecbeAWalk
import Derived.OpenShut
import Derived.ShutString
import Derived.ChangeOld
import Derived.SizedLaws
import Derived.Deep.Slices
namespace Go.Proofs.Ybulkecbe.A
open Go.ChangeShapes Go.WideShapes Go.ChangeAt Go.RowKit

theorem own : ownKnob Yba.prog.godebug = none := by kernel_rfl
theorem cells95 : Yba.prog.cellsOf 95 = 5 := by kernel_rfl
theorem cells3 : Yba.prog.cellsOf 3 = 1 := by kernel_rfl
theorem cells4 : Yba.prog.cellsOf 4 = 1 := by kernel_rfl
theorem bytes95 : Yba.prog.bytesOf 95 = 40 := by kernel_rfl

set_option maxRecDepth 100000 in
/-- One entry, out of its five cells. -/
theorem open_entry {H : Type} {enc : TypeId × Value → H} {w : World} {spare : Nat → Bool} {held : Bool} {base n : Nat} {b o : Nat} {cs : List Value} {x : DataW H × List MemPlace} (h1 : w.cells? base ⟨b, o, none⟩ 5 = some cs)
    (h2 : DataW.trod enc Yba.prog w base spare held n 95 cs = some x) : ∃ e : Entry, e.At w b o := by
  obtain ⟨_, hlen, hcell⟩ := World.cells?_some h1
  obtain ⟨xs, k, _, _, _, hxl, hf⟩ := DataW.trod_struct Yba.underlying95 h2
  match xs, hxl, cs, hlen with
  | [y0, y1, y2, y3, y4], _, [v0, v1, v2, v3, v4], _ =>
    have g0 := hf 0 _ rfl
    have g1 := hf 1 _ rfl
    have g2 := hf 2 _ rfl
    have g3 := hf 3 _ rfl
    have g4 := hf 4 _ rfl
    simp [cells39, cells2, cells3, cells4] at g0 g1 g2 g3 g4
    obtain ⟨a, e0, _, wa⟩ := DataW.trod_int Yba.underlying39 g0
    obtain ⟨b', e1, _, wb⟩ := DataW.trod_int Yba.underlying39 g1
    obtain ⟨c, e2, _, wc⟩ := DataW.trod_int Yba.underlying2 g2
    obtain ⟨d, e3, _, wd⟩ := DataW.trod_int Yba.underlying3 g3
    obtain ⟨t, e4⟩ : ∃ t, v4 = .bool t := by
      cases k with
      | zero => simp [DataW.trod] at g4
      | succ m =>
        unfold DataW.trod at g4
        rw [Yba.underlying4] at g4
        split at g4 <;> simp_all
    simp at e0 e1 e2 e3
    have c0 := hcell 0 (by omega)
    have c1 := hcell 1 (by omega)
    have c2 := hcell 2 (by omega)
    have c3 := hcell 3 (by omega)
    have c4 := hcell 4 (by omega)
    rw [add_plain] at c0 c1 c2 c3 c4
    simp at c0 c1 c2 c3 c4
    subst e0 e1 e2 e3 e4
    exact ⟨⟨⟨a, b', c⟩, d, t⟩, c0, c1, c2, c3, c4, ⟨wa, wb, wc⟩, wd⟩

set_option maxRecDepth 100000 in
theorem open_in {H : Type} {enc : TypeId × Value → H} {w : World} {a : Option Addr} {len cap fuel : Nat} {d : DataW H} {p : List MemPlace}
    (hf : DataW.trod enc Yba.prog w 0 (fun _ => true) true fuel 22 [.slice a len cap] = some (d, p)) : IsIn w a len cap ∧ ((d = .nil ∧ len = 0) ∨ ∃ el sp, d = .slice el sp ∧ len ≤ el.length) := by
  rcases Deep.open_slice Yba.underlying22 hf with ⟨hcs, hx⟩ | ⟨x, l, c, m, n, D, Pl, hcs, _, hl, hm, hmm, hx, hcell⟩
  · simp at hcs hx
    obtain ⟨rfl, rfl, rfl⟩ := hcs
    exact ⟨⟨fun _ => ⟨rfl, rfl⟩, fun h => by omega⟩, .inl ⟨hx.1, rfl⟩⟩
  · simp at hcs
    obtain ⟨rfl, rfl, rfl⟩ := hcs
    simp at hmm
    simp only [Prod.mk.injEq] at hx
    refine ⟨⟨fun h => by simp at h, fun hpos => ?_⟩, .inr ⟨_, _, hx.1, by simp⟩⟩
    obtain ⟨b, off, spot⟩ := x
    obtain ⟨cs0, hc0, _⟩ := hcell 0 (by omega)
    rw [cells95] at hc0
    obtain ⟨_, hlen0, hcell0⟩ := World.cells?_some hc0
    have g0 := hcell0 0 (by omega)
    obtain ⟨v, hv⟩ : ∃ v, cs0[0]? = some v := ⟨_, List.getElem?_eq_getElem (by omega)⟩
    rw [hv] at g0
    simp [Addr.add] at g0
    have hspot : spot = none := by simpa using World.cell?_spot g0
    subst hspot
    refine ⟨b, off, rfl, ?_, ?_⟩
    · have := World.block_lt_of_cell? _ _ g0
      simpa using this
    · intro i hi
      obtain ⟨cs, h1, h2⟩ := hcell i (by omega)
      rw [cells95, add_plain] at h1
      exact open_entry h1 h2

set_option maxRecDepth 100000 in
theorem lifted (os : Os) (started : os.Started) (H : Type) (enc : TypeId × Value → H) :
    ReturnsInHanded {} Yba.checked os 3 .any (Rows.lawS6426AWholeSpec.pre6 enc Yba.prog Yba.f3 Rows.lawS6426AWholeRow.domain false) (Rows.lawS6426AWholeSpec.post enc Yba.prog Yba.f3 false true false false) := by
  refine returnsInHanded_of_change_sized (C := Yba.checked) own started (by kernel_rfl) Yba.func3
    (ChangeSpec.witness6 (enc := enc) (C := Yba.checked) false ⟨#[], #[.slice none 0 0, .slice none 0 0, .int .i64 0], []⟩ 8 (by kernel_rfl) (by kernel_rfl) (by kernel_rfl) (by kernel_rfl)) ?_
  intro W base args ds gs before hval0 hW hcnd hsz0 _
  have hval : ∀ (j : Nat) t v, Yba.f3.params[j]? = some t → args[j]? = some v → Value.okWide Yba.prog W .any base t v := hval0
  have hsz : (DataW.weightsEach Yba.prog (Yba.f3.params.toList ++ Rows.lawS6426AWholeSpec.plain.varTypes Yba.prog) (ds ++ gs)).all (· ≤ reachBytes) = true := hsz0
  have hW' := hW
  obtain ⟨p, q, hA0, hV, rfl, hfz, hnd⟩ := hW
  have hA : DataW.TrodAll enc Yba.prog W 0 (fun _ => true) true Yba.f3.params.toList args.toList ds p := hA0
  rw [Yba.params3] at hA hval hsz
  obtain ⟨v0, vs0, d0, ds0, p0, q0, hargs, rfl, rfl, h0, r0⟩ := trodAll_cons hA
  obtain ⟨v1, vs1, d1, ds1, p1, q1, rfl, rfl, rfl, h1, r1⟩ := trodAll_cons r0
  obtain ⟨v2, vs2, d2, ds2, p2, q2, rfl, rfl, rfl, h2, r2⟩ := trodAll_cons r1
  obtain ⟨rfl, rfl, rfl⟩ := trodAll_nil r2
  obtain rfl : args = #[v0, v1, v2] := by cases args; simp_all
  obtain ⟨rfl, rfl⟩ := trodVars_none hV
  obtain ⟨a0, len0, cap0, rfl⟩ := okWide_slice Yba.underlying22 (hval 0 22 v0 rfl rfl)
  obtain ⟨a1, len1, cap1, rfl⟩ := okWide_slice Yba.underlying22 (hval 1 22 v1 rfl rfl)
  obtain ⟨a2, rfl, rfl, rfl, w2⟩ := open_int Yba.underlying3 (hval 2 3 v2 rfl rfl) h2
  have k0 := h0
  have lt0 : ∀ x ∈ p0, x.block < W.heap.size := by obtain ⟨m, hm⟩ := k0; exact DataW.trod_lt m _ _ _ hm
  have k1 := h1
  have lt1 : ∀ x ∈ p1, x.block < W.heap.size := by obtain ⟨m, hm⟩ := k1; exact DataW.trod_lt m _ _ _ hm
  obtain ⟨f0, hf0⟩ := h0
  obtain ⟨f1, hf1⟩ := h1
  obtain ⟨i0, s0⟩ := open_in (by simpa [Value.cells] using hf0)
  obtain ⟨i1, s1⟩ := open_in (by simpa [Value.cells] using hf1)
  have b0 : len0 ≤ 140737488355328 := by
    rcases s0 with ⟨_, h⟩ | ⟨el, sp, rfl, h⟩
    · omega
    · have := sized_slice hsz (j := 0) (t := 22) (e := 95) rfl rfl Yba.underlying22
      rw [bytes95] at this
      unfold reachBytes at this
      omega
  have b1 : len1 ≤ 140737488355328 := by
    rcases s1 with ⟨_, h⟩ | ⟨el, sp, rfl, h⟩
    · omega
    · have := sized_slice hsz (j := 1) (t := 22) (e := 95) rfl rfl Yba.underlying22
      rw [bytes95] at this
      unfold reachBytes at this
      omega
  clear hA0 hval0 hsz hsz0
  have walk : Calls Yba.prog 3 #[.slice a0 len0 cap0, .slice a1 len1 cap1, .int .i64 a2] W fun e w' => e = .returned (.bool true) ∧ Below W.heap.size W w' := by
    by_cases hl : 1048576 < len0 + len1
    · exact law_long a0 len0 cap0 a1 len1 cap1 a2 W b0 b1 hl
    · exact law_of a0 len0 cap0 a1 len1 cap1 a2 W i0 i1 (by omega) w2
  refine walk.mono fun e W' ⟨he, bel⟩ => ?_
  subst he
  exact ⟨_, rfl, _, _, _, [], _, [], hW', trodAll_mk1 (shut_bool Yba.underlying4 _), (trodAll_cons_mk (Below.trod laidOut (by kernel_rfl) (of_decide_eq_true (by kernel_rfl)) k0 bel lt0) (trodAll_cons_mk (Below.trod laidOut (by kernel_rfl) (of_decide_eq_true (by kernel_rfl)) k1 bel lt1) (trodAll_cons_mk (shut_int Yba.underlying3 w2) trodAll_mk0))), rfl, bel.frame _, fun h => by cases h⟩

theorem over : Rows.lawS6426AWholeRow.holds Yba.pinned (OpenSpec.ofChange Rows.lawS6426AWholeSpec) :=
  OpenClaim.holds_of_wide 3 Yba.f3 rfl rfl rfl rfl rfl rfl rfl ⟨rfl, rfl, rfl, rfl, rfl⟩ rfl rfl rfl rfl rfl (by kernel_rfl) Yba.func3 (by kernel_rfl)
    (of_decide_eq_true (by kernel_rfl)) (by unfold Func.isWrapper; first | (rw [if_pos (by decide +kernel)]; kernel_rfl) | (rw [if_neg (by decide +kernel)]; exact ⟨rfl, rfl⟩))
    (fun os started H enc _ => lifted os started H enc)
end Go.Proofs.Ybulkecbe.A

namespace Go.Proofs.Ybulkecbe
/-- THE STATEMENT. -/
theorem lawA_proved : Rows.LawS6426AWholeSaid := A.over
#print axioms lawA_proved
end Go.Proofs.Ybulkecbe
