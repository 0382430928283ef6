import Derived.Test.YbulkecbeCBuild
import Derived.LoopN
import Derived.Deep.QuietTactic
import Derived.BigQuiet
import Derived.WalkSmall
namespace Go.Proofs.Ybulkecbe.C
open Go.ChangeShapes Go.WideShapes Go.ChangeAt Go.RowKit

/-- The same, where the script is empty (a nil slice too). -/
theorem build_zero (a : Option Addr) (cap : Nat) (n : Int) (w : World) :
    Calls Yba.prog 12 #[.int .i64 n, .slice a 0 cap] w fun f w' => ∃ ls, Inv w w.heap.size n ls 0 w' ∧ f = .returned (.tuple #[P (w.heap.size + 1) 0, .agg #[.int .i64 (ls 0).length, .int .i64 (ls 1).length, .int .i64 (ls 2).length]]) := by
  have hinv := Inv.start w n (thaw_size w)
  have w0 := hinv.want 0 (by omega)
  have w1 := hinv.want 1 (by omega)
  have w2 := hinv.want 2 (by omega)
  obtain ⟨r0, hr0⟩ := hinv.res 0 (by omega)
  obtain ⟨r1, hr1⟩ := hinv.res 1 (by omega)
  obtain ⟨r2, hr2⟩ := hinv.res 2 (by omega)
  have t0 := hinv.thaw w.heap.size 0 (Nat.le_refl _)
  have t1 := hinv.thaw w.heap.size 1 (Nat.le_refl _)
  have t2 := hinv.thaw w.heap.size 2 (Nat.le_refl _)
  have G := hide hinv
  clear hinv
  go_enter Yba.func12, Yba.ntmps12
  go_wp2_with (go_at_call 25; refine (new_any _ _).mono ?_; rintro e w' ⟨rfl, rfl⟩)
  generalize ((w.alloc new3).alloc (newL n)).alloc new3 = wr at *
  refine wp_loop_rounds 1 ?_
  rw [rounds_succ]
  go_wp2_with fail
  go_region
  go_wp2_with fail
  have fin := (((((unhide G).setB 0 (.int .i64 0)).setB 1 (.int .i64 0)).setB 2 (.int .i64 0)).drew)
  exact bodyPost_ret (v := .tuple #[P (w.heap.size + 1) 0, .agg #[.int .i64 0, .int .i64 0, .int .i64 0]])
    (by simp [results, Yba.results12, go_sem, World.cell?_setCell_same, hr0, hr1, hr2]) rfl ⟨fun _ => [], fin, rfl⟩

/-- What Front answers. -/
def fa : List Nat → Option Addr
  | [] => none
  | e :: _ => some ⟨e, 0, none⟩

theorem front_any (L o : Nat) (es : List Nat) (w : World) (q : Queue w L o es) : Calls Yba.prog 13 #[P L o] w fun f w' => f = .returned (.pointer (fa es)) ∧ w' = w := by
  cases es with
  | nil => exact front_nil _ _ _ q.len
  | cons e r =>
    have h0 : w.cell? ⟨L, o, none⟩ = some (P e 0) := by
      rcases q.ends with ⟨h, _, _⟩ | ⟨h, _⟩
      · simp at h
      · exact h
    exact front_some _ _ _ _ _ q.len (by simp; omega) h0

theorem count_any (L : Nat) (l0 l1 l2 : Nat) (w : World) (h0 : w.cell? ⟨L, 8, none⟩ = some (.int .i64 l0)) (h1 : w.cell? ⟨L, 13, none⟩ = some (.int .i64 l1)) (h2 : w.cell? ⟨L, 18, none⟩ = some (.int .i64 l2))
    (b0 : l0 ≤ 1048576) (b1 : l1 ≤ 1048576) (b2 : l2 ≤ 1048576) :
    Calls Yba.prog 14 #[P L 0] w fun f w' => f = .returned (.int .i64 ((l0 : Int) + l1 + l2)) ∧ w' = w := by
  have F0 := hide (len_any L 4 l0 w h0)
  have F1 := hide (len_any L 9 l1 w h1)
  have F2 := hide (len_any L 14 l2 w h2)
  clear h0 h1 h2
  go_enter Yba.func14, Yba.ntmps14
  go_wp2_with fail
  refine wp_loop_rounds 4 ?_
  rw [rounds_succ]
  go_wp2_with fail
  refine (unhide F0).mono ?_
  rintro f w' ⟨rfl, rfl⟩
  go_wp2_with fail
  rw [rounds_succ]
  go_wp2_with fail
  refine (unhide F1).mono ?_
  rintro f w' ⟨rfl, rfl⟩
  go_wp2_with fail
  rw [rounds_succ]
  go_wp2_with fail
  refine (unhide F2).mono ?_
  rintro f w' ⟨rfl, rfl⟩
  go_wp2_with fail
  rw [rounds_succ]
  go_wp2_with fail
  go_ret
  exact ⟨rfl, rfl⟩

/-- A callee that turns nothing, met in a region that draws its order. -/
theorem quiet_g {Q : Program} {f : FuncId} {args : Array Value} {wx : World} {v : Value} {g : Nat → World} (h : Calls Q f args wx fun e w' => e = .returned v ∧ w' = wx) (hx : ∃ m, wx = g m) :
    Calls Q f args wx fun e w'' => e = .returned v ∧ ∃ n, w'' = g n :=
  h.mono fun _ _ ⟨he, hm⟩ => ⟨he, by obtain ⟨m, rfl⟩ := hx; exact ⟨m, hm⟩⟩

theorem neq75 (x : Option Addr) (w : World) : (binOp .neq 75 (.pointer x) (.pointer x)).run Yba.prog w = .ok (.bool false) w := by
  obtain ⟨j, hj⟩ : ∃ j, Yba.prog.info? 79 = some j := Option.isSome_iff_exists.1 (by kernel_rfl)
  cases x with
  | none =>
    have h : ∀ d : Nat, (Op.equalIn (d + 1) 75 (.pointer none) (.pointer none)).run Yba.prog w = .ok true w := fun d => by
      simp [Op.equalIn, run_underlying Yba.underlying75]
    simp only [binOp]
    simp [Op.equal, Op.maxDepth, h 9999]
  | some a =>
    have h : ∀ d : Nat, (Op.equalIn (d + 1) 75 (.pointer (some a)) (.pointer (some a))).run Yba.prog w = .ok true w := fun d => by
      simp [Op.equalIn, run_underlying Yba.underlying75, sizeOf, typeInfo, hj, run_sameAddr_same]
    simp only [binOp]
    simp [Op.equal, Op.maxDepth, h 9999]

set_option maxHeartbeats 2000000 in
/-- THE LAW's WALK, out of what the build leaves. -/
theorem law_of (a : Option Addr) (len cap : Nat) (n : Int) (w : World) (hlen : len ≤ 1048576)
    (HB : Hid (Calls Yba.prog 12 #[.int .i64 n, .slice a len cap] w fun f w' => ∃ ls, Inv w w.heap.size n ls len w' ∧ f = .returned (.tuple #[P (w.heap.size + 1) 0, .agg #[.int .i64 (ls 0).length, .int .i64 (ls 1).length, .int .i64 (ls 2).length]]))) :
    Calls Yba.prog 5 #[.int .i64 n, .slice a len cap] w fun f w' => f = .returned (.bool true) ∧ Below w.heap.size w w' := by
  have hl : (len : Int) ≤ 1048576 := by omega
  go_enter Yba.func5, Yba.ntmps5
  go_wp2_with fail
  refine (unhide HB).mono ?_
  rintro f w1 ⟨ls, hinv, rfl⟩
  have hz := hinv.size
  have kept : ∀ (A F : Obj) (b i : Nat), b < w1.heap.size → ((w1.alloc A).alloc F).cell? ⟨b, i, none⟩ = w1.cell? ⟨b, i, none⟩ := fun A F b i hb => by
    rw [World.cell?_alloc_past _ _ _ (by simp; omega), World.cell?_alloc_past _ _ _ hb]
  have qx : ∀ wx : World, (∀ b i, b < w1.heap.size → wx.cell? ⟨b, i, none⟩ = w1.cell? ⟨b, i, none⟩) → ∀ s, s < 3 → Queue wx (w.heap.size + 1) (4 + s * 5) (ls s) := fun wx hx s hs =>
    (hinv.queue s hs).keep (fun i _ _ => hx _ _ (by omega)) (fun x hx' i => hx _ _ (hinv.own s hs x hx').2)
  have F0 := hide (fun wx hx => front_any _ _ _ _ (qx wx hx 0 (by omega)))
  have F1 := hide (fun wx hx => front_any _ _ _ _ (qx wx hx 1 (by omega)))
  have F2 := hide (fun wx hx => front_any _ _ _ _ (qx wx hx 2 (by omega)))
  have L0 := hide (fun wx hx => len_any _ _ _ _ (qx wx hx 0 (by omega)).len)
  have L1 := hide (fun wx hx => len_any _ _ _ _ (qx wx hx 1 (by omega)).len)
  have L2 := hide (fun wx hx => len_any _ _ _ _ (qx wx hx 2 (by omega)).len)
  have l0 := hinv.len 0 (by omega)
  have l1 := hinv.len 1 (by omega)
  have l2 := hinv.len 2 (by omega)
  have CN := hide (fun wx hx => count_any _ _ _ _ _ (qx wx hx 0 (by omega)).len (qx wx hx 1 (by omega)).len (qx wx hx 2 (by omega)).len (by omega) (by omega) (by omega))
  have hmax : ∀ (A F : Obj), ((w1.alloc A).alloc F).cell? ⟨w.heap.size + 1, 0, none⟩ = some (.int .i64 n) := fun A F => by rw [kept A F _ _ (by omega)]; exact hinv.max
  have BE := hide hinv.below
  have KP := hide kept
  have KQ := hide (fun (A F : Obj) (wx : World) (hx : wx.heap = ((w1.alloc A).alloc F).heap) (b i : Nat) (hb : b < w1.heap.size) =>
    show wx.cell? ⟨b, i, none⟩ = w1.cell? ⟨b, i, none⟩ by rw [← kept A F b i hb]; unfold World.cell?; rw [hx])
  have hne := neq75
  clear hinv HB qx kept
  generalize fa (ls 0) = f0 at *
  generalize fa (ls 1) = f1 at *
  generalize fa (ls 2) = f2 at *
  generalize (ls 0).length = m0 at *
  generalize (ls 1).length = m1 at *
  generalize (ls 2).length = m2 at *
  go_wp2_with fail
  refine wp_loop_rounds 4 ?_
  rw [rounds_succ]
  go_wp2_with fail
  refine (unhide F0 _ (unhide KP _ _)).mono ?_
  rintro f w' ⟨rfl, rfl⟩
  go_wp2_with fail
  rw [rounds_succ]
  go_wp2_with fail
  refine (unhide F1 _ (unhide KP _ _)).mono ?_
  rintro f w' ⟨rfl, rfl⟩
  go_wp2_with fail
  rw [rounds_succ]
  go_wp2_with fail
  refine (unhide F2 _ (unhide KP _ _)).mono ?_
  rintro f w' ⟨rfl, rfl⟩
  go_wp2_with fail
  rw [rounds_succ]
  go_wp2_with fail
  refine (unhide CN _ (unhide KP _ _)).mono ?_
  rintro f w' ⟨rfl, rfl⟩
  go_wp2_with fail
  refine wp_loop_rounds 4 ?_
  rw [rounds_succ]
  go_wp2_with fail
  go_quiet ((first | (go_at_call 15; exact quiet_g (unhide L0 _ (unhide KQ _ _ _ rfl)) ⟨_, rfl⟩) | (go_at_call 13; exact quiet_g (unhide F0 _ (unhide KQ _ _ _ rfl)) ⟨_, rfl⟩)))
  go_wp2_with fail
  rw [rounds_succ]
  go_wp2_with fail
  go_quiet ((first | (go_at_call 15; exact quiet_g (unhide L1 _ (unhide KQ _ _ _ rfl)) ⟨_, rfl⟩) | (go_at_call 13; exact quiet_g (unhide F1 _ (unhide KQ _ _ _ rfl)) ⟨_, rfl⟩)))
  go_wp2_with fail
  rw [rounds_succ]
  go_wp2_with fail
  go_quiet ((first | (go_at_call 15; exact quiet_g (unhide L2 _ (unhide KQ _ _ _ rfl)) ⟨_, rfl⟩) | (go_at_call 13; exact quiet_g (unhide F2 _ (unhide KQ _ _ _ rfl)) ⟨_, rfl⟩)))
  go_wp2_with fail
  rw [rounds_succ]
  go_wp2_with fail
  go_ret
  exact ⟨rfl, below_drewN (((unhide BE).alloc (by omega) _).alloc (by simp; omega) _) _⟩

/-- A script too long for the law: it answers true at once. -/
theorem law_long (a : Option Addr) (len cap : Nat) (n : Int) (w : World) (hlen : 1048576 < len) :
    Calls Yba.prog 5 #[.int .i64 n, .slice a len cap] w fun f w' => f = .returned (.bool true) ∧ Below w.heap.size w w' := by
  have hl : (1048576 : Int) < (len : Int) := by omega
  go_enter Yba.func5, Yba.ntmps5
  go_wp2_with fail
  go_ret
  exact ⟨rfl, Below.refl _ _⟩

/-- What the walk is told of the slice that came in. -/
def IsScript (w : World) (a : Option Addr) (len : Nat) : Prop :=
  0 < len → ∃ b off, a = some ⟨b, off, none⟩ ∧ b < w.heap.size ∧ Script w b off len

theorem law_walk (a : Option Addr) (len cap : Nat) (n : Int) (w : World) (hs : IsScript w a len) :
    Calls Yba.prog 5 #[.int .i64 n, .slice a len cap] w fun f w' => f = .returned (.bool true) ∧ Below w.heap.size w w' := by
  by_cases h : 1048576 < len
  · exact law_long a len cap n w h
  · refine law_of a len cap n w (by omega) ?_
    by_cases h0 : 0 < len
    · obtain ⟨b, off, rfl, hb, hsc⟩ := hs h0
      exact build_any b off len cap n w (by omega) hb hsc
    · have : len = 0 := by omega
      subst this
      exact build_zero a cap n w

end Go.Proofs.Ybulkecbe.C
