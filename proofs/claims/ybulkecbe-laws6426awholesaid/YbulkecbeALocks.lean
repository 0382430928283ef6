import Derived.Test.YbulkecbeAForget
namespace Go.Proofs.Ybulkecbe.A
open Go.ChangeShapes Go.WideShapes Go.ChangeAt Go.RowKit Go.Maps Go.MuLone

set_option maxHeartbeats 1000000 in
set_option maxRecDepth 100000 in
/-- Forget, where there are no older layouts. -/
theorem forget_none (r : Nat) (sm : Value) (nm : Option Nat) (kept : Int) (w : World) (hr : w.heap[r]? = some (oReader (.int .i32 0) sm nm none kept)) :
    Calls Yba.prog 7 #[Pt r] w fun e w' => e = .returned (.tuple #[]) ∧ w'.heap[r]? = some (oReader (.int .i32 0) sm none nm kept) ∧ w.grownBy w' (some r) := by
  obtain ⟨h0, h1, h2, h3, h4, hz⟩ := reader_cells hr
  have f0 := hz 0
  have HL := hide (lock_free Yba.muLib ⟨r, 0, none⟩ w h0 f0)
  have HRR := hide ((reader_set hr).1 (.int .i32 1))
  have HG := hide (grown_setCell w r 0 (.int .i32 1))
  obtain ⟨q0, q1, q2, q3, q4, qz⟩ := reader_cells (unhide HRR)
  have hrn := fun (w : World) => run_range_nilMap (P := Yba.prog) w 23 43 44 Yba.underlying23
  go_enter_defers Yba.func7, Yba.ntmps7
  go_wp2_with fail
  refine (unhide HL).mono ?_
  rintro e w' ⟨rfl, rfl⟩
  generalize w.setCell ⟨r, 0, none⟩ (.int .i32 1) = w1 at *
  go_wp2_with fail
  have hnx := fun ty => run_next_nilMap (P := Yba.prog) w1 ty 0 0 #[]
  refine wp_loop_rounds 1 ?_
  rw [rounds_succ]
  have hrl : r < w1.heap.size := (Array.getElem?_eq_some_iff.1 (unhide HRR)).1
  have qz2 := qz 2
  have qz3 := qz 3
  have qz0 := qz 0
  go_wp2_with fail
  refine leaves_cons (f := 9) (args := #[.pointer (some ⟨r, 0, none⟩)]) (by simp) (by simp [go_sem]) ?_
  refine (unlock_deferred Yba.muLib ⟨r, 0, none⟩ .returning _ ?_ ?_).mono ?_
  · rw [World.cell?_alloc_past _ _ _ (by simp; exact hrl)]
    exact (World.cell?_setCell_other _ ⟨r, 2, none⟩ ⟨r, 0, none⟩ _ (by simp)).trans ((World.cell?_setCell_other _ ⟨r, 3, none⟩ ⟨r, 0, none⟩ _ (by simp)).trans q0)
  · rw [World.frozen?_alloc_past _ _ _ (by simp; exact hrl)]
    simp [qz0]
  rintro e u' w'' ⟨rfl, rfl, rfl⟩
  refine ⟨_, results_none rfl _ _ _, rfl, ?_, ?_⟩
  · refine (reader_set (st := .int .i32 1) ?_).1 (.int .i32 0)
    rw [(MapKept.heap_alloc _ _).2 r (by simp; exact hrl)]
    exact (reader_set ((reader_set (unhide HRR)).2.2.1 nm)).2.1 none
  · exact ((((unhide HG).trans (grown_setCell _ r 3 _)).trans (grown_setCell _ r 2 _)).trans (World.grownBy_alloc _ _ _)).trans (grown_setCell _ r 0 _)

/-- The conversion that the race marks are handed: the same address. -/
theorem conv116 {a : Addr} {v : Value} {w : World} (hc : w.cell? a = some v) : (convert 116 120 (.pointer (some a))).run Yba.prog w = .ok (.pointer (some a)) w := by
  obtain ⟨e, n, hsh, hlt, hsp⟩ := World.shape?_of_cell? hc
  obtain ⟨i, hi, hz0⟩ := Option.map_eq_some_iff.1 Yba.muLib.room_tIMutex
  have hz : i.size ≠ 0 := by simpa using hz0
  have hge : ¬ (n ≤ a.off) := by omega
  have hi' : Yba.prog.info? 34 = some i := hi
  have u1 := Yba.underlying116
  have u2 := Yba.underlying120
  unfold convert
  simp only [run_underlying Yba.underlying116, run_underlying Yba.underlying120, Sem.run_bind, Result.andThen]
  conv => lhs; arg 2; whnf
  have hb : ∀ (x : TypeDesc) (f : TypeDesc → Sem Value), Sem.bind (pure x) f = f x := fun _ _ => rfl
  have hb2 : ∀ (x : Program) (f : Program → Sem TypeDesc), Sem.bind (Sem.pure x) f = f x := fun _ _ => rfl
  simp only [Sem.run, hb2, u1, hb]
  simp [run_underlying u2, Conv.seenAt, viewAt, cellsIn, sizeOf, typeInfo, hi', hz, hsh, hge, Result.andThen]

set_option maxHeartbeats 1000000 in
set_option maxRecDepth 100000 in
theorem itry_free (a : Addr) (w : World) (hc : w.cell? a = some (.int .i32 0)) (hz : w.frozen? a = false) :
    Calls Yba.prog 19 #[.pointer (some a)] w fun e w' => e = .returned (.bool true) ∧ w' = w.setCell a (.int .i32 1) := by
  have hd : ∀ w : World, (callFunc 29 #[]).run Yba.prog w = .ok (.value (.tuple #[])) w := MuLone.disable Yba.muLib
  have he : ∀ w : World, (callFunc 30 #[]).run Yba.prog w = .ok (.value (.tuple #[])) w := MuLone.enable Yba.muLib
  have hr : ∀ (b : Addr) (w : World), (callFunc 32 #[.pointer (some b)]).run Yba.prog w = .ok (.value (.tuple #[])) w := MuLone.acquire Yba.muLib
  have hc' : (w.setCell a (.int .i32 1)).cell? a = some (.int .i32 1) := World.cell?_setCell_same _ _ _ hc
  have hcv := conv116 hc'
  have hcas := run_call_cas_hit (P := Yba.prog) Yba.func31 (by kernel_rfl) (by kernel_rfl) (by kernel_rfl) .i32 (by kernel_rfl) (y := 1) hc hz
  go_enter Yba.func19, Yba.ntmps19
  go_wp2
  go_ret
  exact ⟨rfl, rfl⟩

/-- (*sync.Mutex).TryLock, the lock free. -/
theorem try_free (r : Nat) (w : World) (hc : w.cell? ⟨r, 0, none⟩ = some (.int .i32 0)) (hz : w.frozen? ⟨r, 0, none⟩ = false) :
    Calls Yba.prog 8 #[Pt r] w fun e w' => e = .returned (.bool true) ∧ w' = w.setCell ⟨r, 0, none⟩ (.int .i32 1) := by
  have H := hide (itry_free ⟨r, 0, none⟩ w hc hz)
  go_enter Yba.func8, Yba.ntmps8
  go_wp2_with (go_at_call 19; refine (unhide H).mono ?_; rintro e w' ⟨rfl, rfl⟩)
  go_ret
  exact ⟨rfl, rfl⟩

/-! ### the build, where there is nothing to read -/
theorem build_nil (w : World) : Calls Yba.prog 6 #[.slice none 0 0] w fun f w' => f = .returned (.tuple #[.map none, .slice none 0 0, .slice none 0 0, .slice none 0 0]) ∧ w' = w := by
  have heq := fun (w : World) a n c => Lib.run_eql_slice_nil (P := Yba.prog) (w := w) 22 a n c
  go_enter Yba.func6, Yba.ntmps6
  go_wp2_with fail
  exact bodyPost_ret (v := .tuple #[.map none, .slice none 0 0, .slice none 0 0, .slice none 0 0]) (by simp [results, Yba.results6, go_sem]) rfl ⟨rfl, rfl⟩

set_option maxRecDepth 100000 in
theorem build_zero (a : Addr) (cap : Nat) (w : World) :
    Calls Yba.prog 6 #[.slice (some a) 0 cap] w fun f w' => ∃ kv lv fv ks ps fs, Inv w w.heap.size kv lv fv ks ps fs 0 w' ∧ f = .returned (.tuple #[.map (some w.heap.size), kv, lv, fv]) := by
  have hmm := @run_makeMap Yba.prog
  have heq := fun (w : World) a n c => Lib.run_eql_slice_nil (P := Yba.prog) (w := w) 22 a n c
  have HI := hide (Inv.start w)
  go_enter Yba.func6, Yba.ntmps6
  go_wp2_with fail
  refine wp_loop_rounds 1 ?_
  rw [rounds_succ]
  go_wp2_with fail
  exact bodyPost_ret (v := .tuple #[.map (some w.heap.size), .slice none 0 0, .slice none 0 0, .slice none 0 0]) (by simp [results, Yba.results6, go_sem]) rfl ⟨_, _, _, _, _, _, unhide HI, rfl⟩
end Go.Proofs.Ybulkecbe.A
