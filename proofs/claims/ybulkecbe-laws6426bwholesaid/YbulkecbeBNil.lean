import Derived.Test.YbulkecbeBSort
import Derived.Test.YbulkecbeLocks
import Derived.Conc.RwLone
import Derived.Deep.RegionHeld3
import Derived.Deep.RegionWith
import Derived.LoopN
namespace Go.Proofs.Ybulkecbe.B
open Go.ChangeShapes Go.WideShapes Go.ChangeAt Go.RowKit Go.Maps

/-! ### sort.Strings of a nil slice -/
theorem insertion_nil (p : Option Addr) (cap : Nat) (w : World) : Calls Yba.prog 58 #[.slice p 0 cap, .int .i64 0, .int .i64 0] w fun e w' => e = .returned (.tuple #[]) ∧ w' = w := by
  go_enter Yba.func58, Yba.ntmps58
  go_wp2
  refine wp_loop_rounds 1 ?_
  rw [rounds_succ]
  go_wp2
  go_end0
  exact ⟨rfl, rfl⟩

set_option maxRecDepth 100000 in
theorem pdq_nil (p : Option Addr) (cap : Nat) (w : World) : Calls Yba.prog 49 #[.slice p 0 cap, .int .i64 0, .int .i64 0, .int .i64 0] w fun e w' => e = .returned (.tuple #[]) ∧ w' = w := by
  go_enter Yba.func49, Yba.ntmps49
  go_wp2
  refine wp_loop_rounds 1 ?_
  rw [rounds_succ]
  go_wp2_with (first | (go_at_call 58; refine (insertion_nil p cap _).mono ?_; rintro e w' ⟨rfl, rfl⟩))
  exact bodyPost_ret (results_none rfl _ _ _) rfl ⟨rfl, rfl⟩

set_option maxRecDepth 100000 in
theorem len64_zero (w : World) : Calls Yba.prog 68 #[.int .u64 0] w fun e w' => e = .returned (.int .i64 0) ∧ w' = w := by
  go_enter Yba.func68, Yba.ntmps68
  go_wp2
  go_ret
  refine ⟨?_, rfl⟩
  have e : wrap64 0 = 0 := by unfold wrap64; decide
  show Ending.returned (Value.int .i64 (wrap64 (wrap64 ((0 : Nat) : Int)))) = _
  simp [e]

set_option maxRecDepth 100000 in
theorem len_zero (w : World) : Calls Yba.prog 50 #[.int .u64 0] w fun e w' => e = .returned (.int .i64 0) ∧ w' = w := by
  go_enter Yba.func50, Yba.ntmps50
  go_wp2_with (go_at_call 68; refine (len64_zero _).mono ?_; rintro e w' ⟨rfl, rfl⟩)
  go_ret
  exact ⟨rfl, rfl⟩

set_option maxRecDepth 100000 in
theorem slicesSort_nil (p : Option Addr) (cap : Nat) (w : World) : Calls Yba.prog 40 #[.slice p 0 cap] w fun e w' => e = .returned (.tuple #[]) ∧ w' = w := by
  go_enter Yba.func40, Yba.ntmps40
  go_wp2_with (first | (go_at_call 50; refine (len_zero _).mono ?_; rintro e w' ⟨rfl, rfl⟩) | (go_at_call 49; refine (pdq_nil p cap _).mono ?_; rintro e w' ⟨rfl, rfl⟩))
  go_end0
  exact ⟨rfl, rfl⟩

theorem strings_nil (p : Option Addr) (cap : Nat) (w : World) : Calls Yba.prog 24 #[.slice p 0 cap] w fun e w' => e = .returned (.tuple #[]) ∧ w' = w := by
  go_enter Yba.func24, Yba.ntmps24
  go_wp2_with (go_at_call 40; refine (slicesSort_nil p cap _).mono ?_; rintro e w' ⟨rfl, rfl⟩)
  go_end0
  exact ⟨rfl, rfl⟩

/-! ### empty -/
theorem set_back {w : World} {g i : Nat} {u v : Value} (h : w.cell? ⟨g, i, none⟩ = some v) : (w.setCell ⟨g, i, none⟩ u).setCell ⟨g, i, none⟩ v = w := by
  have e : ((w.setCell ⟨g, i, none⟩ u).setCell ⟨g, i, none⟩ v).heap = w.heap := by
    apply Array.ext_getElem?
    intro k
    by_cases hk : g = k
    · subst hk
      simp only [World.cell?] at h
      cases ho : w.heap[g]? with
      | none => simp [ho] at h
      | some o =>
        cases o <;> simp [ho] at h
        rename_i cs e fr
        simp [World.setCell, Array.getElem?_modify, ho]
        apply Array.ext_getElem?
        intro t
        by_cases ht : i = t
        · subst ht
          rw [Array.getElem?_setIfInBounds]
          have hl := (Array.getElem?_eq_some_iff.1 h).1
          simp [hl, ← h]
        · simp [ht]
    · simp [World.setCell, Array.getElem?_modify, hk]
  show ({ w with heap := ((w.setCell ⟨g, i, none⟩ u).setCell ⟨g, i, none⟩ v).heap } : World) = w
  rw [e]

/-- RLock and RUnlock of a lock that nobody holds, at place 'off' of its block. -/
theorem rlock0 (b off : Nat) (x0 x3 : Value) (w : World) (c0 : w.cell? ⟨b, off, none⟩ = some x0) (c3 : w.cell? ⟨b, off + 3, none⟩ = some x3) (hc : w.cell? ⟨b, off + 4, none⟩ = some (.int .i32 0)) (hz : w.frozen? ⟨b, off + 4, none⟩ = false) :
    Calls Yba.prog 21 #[.pointer (some ⟨b, off, none⟩)] w fun e w' => e = .returned (.tuple #[]) ∧ w' = w.setCell ⟨b, off + 4, none⟩ (.int .i32 1) := by
  have e1 : wrap32 (0 + 1) = 1 := by unfold wrap32; decide
  have := Go.RwLone.rlock_open Yba.rwRLib b off 0 x0 x3 w c0 c3 hc hz (by rw [e1]; decide)
  rw [e1] at this
  exact this
theorem runlock1 (b off : Nat) (x0 x2 : Value) (u : FrameMode) (w : World) (c0 : w.cell? ⟨b, off, none⟩ = some x0) (c2 : w.cell? ⟨b, off + 2, none⟩ = some x2) (hc : w.cell? ⟨b, off + 4, none⟩ = some (.int .i32 1)) (hz : w.frozen? ⟨b, off + 4, none⟩ = false) :
    CallsD Yba.prog 22 #[.pointer (some ⟨b, off, none⟩)] u w fun e u' w' => u' = u ∧ (e = .returned (.tuple #[]) ∧ w' = w.setCell ⟨b, off + 4, none⟩ (.int .i32 0)) := by
  have e1 : wrap32 (1 + -1) = 0 := by unfold wrap32; decide
  have := Go.RwLone.runlock_deferred Yba.rwRLib b off 1 x0 x2 u w c0 c2 hc hz (by rw [e1]; decide)
  rw [e1] at this
  exact this

theorem ser_len {w : World} {B : Nat} {sv : Value} {d : Int} (h : Ser w B sv d) (ty : TypeId) : (Builtin.len_ #[50] ty #[sv]).run Yba.prog w = .ok (.int .i64 (held d)) w := by
  rcases h with ⟨rfl, hd⟩ | ⟨m, n, D, rfl, _, hm, hs⟩
  · rw [Maps.len_nil Yba.underlying50]
    simp [held, hd]
  · rw [hm.len Yba.underlying50, hs]

set_option maxRecDepth 100000 in
theorem empty_any (p B : Nat) (x : Str) (d : Int) (w : World) (hb : Buck w B p x d) : Calls Yba.prog 23 #[Pt p] w fun e w' => e = .returned (.bool (decide (d ≠ 2))) ∧ w' = w := by
  obtain ⟨sv, h1, h2⟩ := hb
  have c3 : w.cell? ⟨p, 3, none⟩ = some (.int .i32 0) := by simp [World.cell?, h1]
  have c5 : w.cell? ⟨p, 3 + 2, none⟩ = some (.int .u32 0) := by simp [World.cell?, h1]
  have c6 : w.cell? ⟨p, 3 + 3, none⟩ = some (.int .u32 0) := by simp [World.cell?, h1]
  have c7 : w.cell? ⟨p, 3 + 4, none⟩ = some (.int .i32 0) := by simp [World.cell?, h1]
  have c9 : w.cell? ⟨p, 9, none⟩ = some sv := by simp [World.cell?, h1]
  have z7 : w.frozen? ⟨p, 3 + 4, none⟩ = false := by simp [World.frozen?, h1]
  have R := hide (rlock0 p 3 _ _ w c3 c6 c7 z7)
  have U := hide (fun u => runlock1 p 3 (.int .i32 0) (.int .u32 0) u (w.setCell ⟨p, 7, none⟩ (.int .i32 1)) ((World.cell?_setCell_other _ ⟨p, 7, none⟩ ⟨p, 3, none⟩ _ (by simp)).trans c3) ((World.cell?_setCell_other _ ⟨p, 7, none⟩ ⟨p, 3 + 2, none⟩ _ (by simp)).trans c5) (World.cell?_setCell_same _ _ _ c7) (by simpa using z7))
  have hg := grown_setCell w p 7 (.int .i32 1)
  have h2' : Ser (w.setCell ⟨p, 7, none⟩ (.int .i32 1)) B sv d := by
    rcases h2 with h | ⟨m, n, D, e1, e2, hm, e4⟩
    · exact .inl h
    · refine .inr ⟨m, n, D, e1, e2, hm.kept hg ?_, e4⟩
      intro he
      have : m = p := by simpa using he
      subst this
      obtain ⟨es, clock, hb, _⟩ := hm
      rw [hb] at h1; cases h1
  have hl := ser_len h2'
  have hsb := hide (set_back (u := .int .i32 1) c7)
  clear h1 h2 h2' hg c3 c5 c6 c7 z7
  go_enter_defers Yba.func23, Yba.ntmps23
  go_wp2_with fail
  refine (unhide R).mono ?_
  rintro e w' ⟨rfl, rfl⟩
  go_wp2_with fail
  refine leaves_cons (f := 22) (args := #[.pointer (some ⟨p, 3, none⟩)]) (by simp) (by simp [go_sem]) ?_
  refine (unhide U .returning).mono ?_
  rintro e u' w'' ⟨rfl, rfl, rfl⟩
  refine ⟨.bool (decide (d ≠ 2)), ?_, rfl, unhide hsb⟩
  simp [results, Yba.results23, go_sem]
  unfold held; by_cases h : d = 2 <;> simp [h]
end Go.Proofs.Ybulkecbe.B
