import Derived.Test.YbulkecbeCOps
namespace Go.Proofs.Ybulkecbe.C
open Go.ChangeShapes Go.WideShapes Go.ChangeAt Go.RowKit

/-- The block of a new Limiter. -/
abbrev newL (n : Int) : Obj := .cells #[.int .i64 n, .nilFunc, .int .i32 0, .int .u32 0, .pointer none, .pointer none, .pointer none, .nilIface, .int .i64 0,
  .pointer none, .pointer none, .pointer none, .nilIface, .int .i64 0, .pointer none, .pointer none, .pointer none, .nilIface, .int .i64 0, .int .u64 0, .int .i64 0, .pointer none] 88
/-- Three zeros. -/
abbrev new3 : Obj := .cells #[.int .i64 0, .int .i64 0, .int .i64 0] 72

theorem new_any (n : Int) (w : World) :
    Calls Yba.prog 25 #[.int .i64 n, .nilFunc] w fun f w' => f = .returned (P w.heap.size 0) ∧ w' = w.alloc (newL n) := by
  go_enter Yba.func25, Yba.ntmps25
  go_wp2
  go_ret
  exact ⟨rfl, rfl⟩

def upd (ls : Nat → List Nat) (s : Nat) (es : List Nat) : Nat → List Nat := fun t => if t = s then es else ls t
theorem upd_same (ls : Nat → List Nat) (s : Nat) (es : List Nat) : upd ls s es s = es := by simp [upd]
theorem upd_other (ls : Nat → List Nat) (s : Nat) (es : List Nat) (t : Nat) (h : t ≠ s) : upd ls s es t = ls t := by simp [upd, h]

/-- WHAT HOLDS behind k steps of the script: B: the first block of the call's own (what is handed back), B + 1: the Limiter, B + 2: 'want'. -/
structure Inv (w0 : World) (B : Nat) (n : Int) (ls : Nat → List Nat) (k : Nat) (w : World) : Prop where
  below : Below B w0 w
  thaw : Thaw B w
  res : ∀ s, s < 3 → Has w B s
  max : w.cell? ⟨B + 1, 0, none⟩ = some (.int .i64 n)
  want : ∀ s, s < 3 → w.cell? ⟨B + 1 + 1, s, none⟩ = some (.int .i64 (ls s).length)
  queue : ∀ s, s < 3 → Queue w (B + 1) (4 + s * 5) (ls s)
  own : ∀ s, s < 3 → ∀ x ∈ ls s, B + 3 ≤ x ∧ x < w.heap.size
  apart : ∀ s t, s < 3 → t < 3 → s ≠ t → ∀ x ∈ ls s, x ∉ ls t
  size : B + 3 ≤ w.heap.size
  len : ∀ s, s < 3 → (ls s).length ≤ k

theorem Inv.more {w0 : World} {B : Nat} {n : Int} {ls : Nat → List Nat} {k : Nat} {w : World} (h : Inv w0 B n ls k w) : Inv w0 B n ls (k + 1) w :=
  ⟨h.below, h.thaw, h.res, h.max, h.want, h.queue, h.own, h.apart, h.size, fun s hs => by have := h.len s hs; omega⟩

/-- A step that touches the list s alone, and then 'want'. -/
theorem Inv.step {w0 : World} {B : Nat} {n : Int} {ls : Nat → List Nat} {k : Nat} {w w' : World} (h : Inv w0 B n ls k w) {s : Nat} (hs : s < 3) (es : List Nat)
    (q : Queue w' (B + 1) (4 + s * 5) es) (t : Touch w w' (B + 1) (4 + s * 5) (ls s)) (hsz : w.heap.size ≤ w'.heap.size) (hes : ∀ x ∈ es, x ∈ ls s ∨ (x = w.heap.size ∧ x < w'.heap.size)) (hel : es.length ≤ k + 1) :
    Inv w0 B n (upd ls s es) (k + 1) (w'.setCell ⟨B + 1 + 1, s, none⟩ (.int .i64 es.length)) := by
  have hz := h.size
  have hlE : ∀ x ∈ ls s, B ≤ x := fun x hx => by have := h.own s hs x hx; omega
  have kept : ∀ b i, b < w.heap.size → b ∉ ls s → (b = B + 1 → i < 4 + s * 5 ∨ 4 + s * 5 + 5 ≤ i) → w'.cell? ⟨b, i, none⟩ = w.cell? ⟨b, i, none⟩ := t.cell
  have nB : B ∉ ls s := fun hx => by have := h.own s hs _ hx; omega
  have nB1 : B + 1 ∉ ls s := fun hx => by have := h.own s hs _ hx; omega
  have nB2 : B + 1 + 1 ∉ ls s := fun hx => by have := h.own s hs _ hx; omega
  have w2 : ∀ i, w'.cell? ⟨B + 1 + 1, i, none⟩ = w.cell? ⟨B + 1 + 1, i, none⟩ := fun i => kept _ _ (by omega) nB2 (by omega)
  have hw : Has w' (B + 1 + 1) s := by unfold Has; rw [w2]; exact ⟨_, h.want s hs⟩
  have key := cset hw (.int .i64 es.length)
  have key' : ∀ b i, b ≠ B + 1 + 1 → (w'.setCell ⟨B + 1 + 1, s, none⟩ (.int .i64 es.length)).cell? ⟨b, i, none⟩ = w'.cell? ⟨b, i, none⟩ := fun b i hb => by
    rw [key, if_neg (by omega)]
  have hes3 : ∀ x ∈ es, B + 3 ≤ x ∧ x < w'.heap.size := by
    intro x hx
    rcases hes x hx with h1 | ⟨h1, h2⟩
    · have := h.own s hs x h1; omega
    · omega
  constructor
  · exact (h.below.trans (t.below B (by omega) hlE (by omega))).setCell (by show B ≤ B + 1 + 1; omega) _
  · exact (t.thaw B h.thaw).set _ _
  · intro i hi
    exact Has.set (by unfold Has; rw [kept _ _ (by omega) nB (by omega)]; exact h.res i hi) _ _
  · rw [key' _ _ (by omega), kept _ _ (by omega) nB1 (by omega)]; exact h.max
  · intro i hi
    rw [key]
    by_cases e : i = s
    · subst e; rw [if_pos ⟨rfl, rfl⟩, upd_same]
    · rw [if_neg (by simp [e]), w2, upd_other _ _ _ _ e]; exact h.want i hi
  · intro i hi
    by_cases e : i = s
    · subst e
      rw [upd_same]
      exact q.keep (fun j _ _ => key' _ _ (by omega)) (fun x hx j => key' _ _ (by have := hes3 x hx; omega))
    · rw [upd_other _ _ _ _ e]
      refine (h.queue i hi).keep (fun j h1 h2 => ?_) (fun x hx j => ?_)
      · rw [key' _ _ (by omega), kept _ _ (by omega) nB1 (by omega)]
      · have := h.own i hi x hx
        rw [key' _ _ (by omega), kept _ _ (by omega) (h.apart i s hi hs e x hx) (by omega)]
  · intro i hi x hx
    simp only [World.size_setCell]
    by_cases e : i = s
    · subst e; rw [upd_same] at hx; exact hes3 x hx
    · rw [upd_other _ _ _ _ e] at hx
      have := h.own i hi x hx; omega
  · intro i j hi hj hij x hx hx'
    by_cases e : i = s
    · subst e
      rw [upd_same] at hx
      rw [upd_other _ _ _ _ (Ne.symm hij)] at hx'
      rcases hes x hx with h1 | ⟨h1, _⟩
      · exact h.apart i j hi hj hij x h1 hx'
      · have := h.own j hj x hx'; omega
    · rw [upd_other _ _ _ _ e] at hx
      by_cases e' : j = s
      · subst e'
        rw [upd_same] at hx'
        rcases hes x hx' with h1 | ⟨h1, _⟩
        · exact h.apart i j hi hj hij x hx h1
        · have := h.own i hi x hx; omega
      · rw [upd_other _ _ _ _ e'] at hx'
        exact h.apart i j hi hj hij x hx hx'
  · simp only [World.size_setCell]; omega
  · intro i hi
    by_cases e : i = s
    · subst e; rw [upd_same]; exact hel
    · rw [upd_other _ _ _ _ e]; have := h.len i hi; omega

/-- At the loop's head for the first time. -/
theorem Inv.start (w0 : World) (n : Int) (hf : ∀ b i, w0.heap.size ≤ b → w0.frozen? ⟨b, i, none⟩ = false) : Inv w0 w0.heap.size n (fun _ => []) 0 (((w0.alloc new3).alloc (newL n)).alloc new3) := by
  have c0 : ∀ i, (((w0.alloc new3).alloc (newL n)).alloc new3).cell? ⟨w0.heap.size, i, none⟩ = (#[.int .i64 0, .int .i64 0, .int .i64 0] : Array Value)[i]? := fun i => by
    rw [World.cell?_alloc_past _ _ _ (by simp; omega), World.cell?_alloc_past _ _ _ (by simp), World.cell?_alloc_at _ _ _ _ rfl]
  have c1 : ∀ i, (((w0.alloc new3).alloc (newL n)).alloc new3).cell? ⟨w0.heap.size + 1, i, none⟩ = (#[.int .i64 n, .nilFunc, .int .i32 0, .int .u32 0, .pointer none, .pointer none, .pointer none, .nilIface, .int .i64 0,
      .pointer none, .pointer none, .pointer none, .nilIface, .int .i64 0, .pointer none, .pointer none, .pointer none, .nilIface, .int .i64 0, .int .u64 0, .int .i64 0, .pointer none] : Array Value)[i]? := fun i => by
    rw [World.cell?_alloc_past _ _ _ (by simp), World.cell?_alloc_at _ _ _ _ (by simp)]
  have c2 : ∀ i, (((w0.alloc new3).alloc (newL n)).alloc new3).cell? ⟨w0.heap.size + 1 + 1, i, none⟩ = (#[.int .i64 0, .int .i64 0, .int .i64 0] : Array Value)[i]? := fun i => by
    rw [World.cell?_alloc_at _ _ _ _ (by simp)]
  have s3 : ∀ s, s < 3 → s = 0 ∨ s = 1 ∨ s = 2 := by omega
  constructor
  · exact (((Below.refl _ _).alloc (Nat.le_refl _) _).alloc (by simp) _).alloc (by simp; omega) _
  · exact ((Thaw.alloc (fun b i h => hf b i h) _ _).alloc _ _).alloc _ _
  · intro s hs; unfold Has; rw [c0]; rcases s3 s hs with rfl | rfl | rfl <;> simp
  · rw [c1]; rfl
  · intro s hs; rw [c2]; rcases s3 s hs with rfl | rfl | rfl <;> simp
  · intro s hs
    refine ⟨?_, by simp, .inl ⟨rfl, ?_, ?_⟩, by simp, by simp, by simp⟩
    · rw [c1]; rcases s3 s hs with rfl | rfl | rfl <;> simp
    · rw [c1]; rcases s3 s hs with rfl | rfl | rfl <;> simp
    · rw [c1]; rcases s3 s hs with rfl | rfl | rfl <;> simp
  · simp
  · simp
  · simp
  · simp

end Go.Proofs.Ybulkecbe.C
