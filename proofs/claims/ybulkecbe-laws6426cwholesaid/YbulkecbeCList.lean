import Derived.Test.YbulkecbeRows
import Derived.WalkKit
import Derived.ProofKit
import Derived.Below
import Derived.RegionTactic
import Derived.ChangeAlike
import Derived.WalkLawsBesides
namespace Go.Proofs.Ybulkecbe.C
open Go.ChangeShapes Go.WideShapes Go.ChangeAt Go.RowKit

/-! ### container/list, method by method: what each does to memory. A list lies at (b, o): next, prev, list, Value, len in five cells; an element is a block of four cells. -/
abbrev P (b o : Nat) : Value := .pointer (some ⟨b, o, none⟩)

theorem front_nil (b o : Nat) (w : World) (hl : w.cell? ⟨b, o + 4, none⟩ = some (.int .i64 0)) :
    Calls Yba.prog 13 #[P b o] w fun e w' => e = .returned (.pointer none) ∧ w' = w := by
  go_enter Yba.func13, Yba.ntmps13
  go_wp2
  go_ret
  exact ⟨rfl, rfl⟩

theorem front_some (b o : Nat) (n : Int) (v : Value) (w : World) (hl : w.cell? ⟨b, o + 4, none⟩ = some (.int .i64 n)) (hn : (n == 0) = false) (h0 : w.cell? ⟨b, o, none⟩ = some v) :
    Calls Yba.prog 13 #[P b o] w fun e w' => e = .returned v ∧ w' = w := by
  go_enter Yba.func13, Yba.ntmps13
  go_wp2
  go_ret
  exact ⟨rfl, rfl⟩

theorem len_any (b o : Nat) (n : Int) (w : World) (hl : w.cell? ⟨b, o + 4, none⟩ = some (.int .i64 n)) :
    Calls Yba.prog 15 #[P b o] w fun e w' => e = .returned (.int .i64 n) ∧ w' = w := by
  go_enter Yba.func15, Yba.ntmps15
  go_wp2
  go_ret
  exact ⟨rfl, rfl⟩

theorem lazy_some (b o : Nat) (d : Addr) (w : World) (h0 : w.cell? ⟨b, o, none⟩ = some (.pointer (some d))) :
    Calls Yba.prog 42 #[P b o] w fun e w' => e = .returned (.tuple #[]) ∧ w' = w := by
  go_enter Yba.func42, Yba.ntmps42
  go_wp2
  go_end0
  exact ⟨rfl, rfl⟩

/-- What Init leaves. -/
abbrev initW (w : World) (b o : Nat) : World :=
  ((w.setCell ⟨b, o, none⟩ (P b o)).setCell ⟨b, o + 1, none⟩ (P b o)).setCell ⟨b, o + 4, none⟩ (.int .i64 0)

theorem init_any (b o : Nat) (w : World) (v0 v1 v4 : Value) (h0 : w.cell? ⟨b, o, none⟩ = some v0) (h1 : w.cell? ⟨b, o + 1, none⟩ = some v1) (h4 : w.cell? ⟨b, o + 4, none⟩ = some v4)
    (f0 : w.frozen? ⟨b, o, none⟩ = false) (f1 : w.frozen? ⟨b, o + 1, none⟩ = false) (f4 : w.frozen? ⟨b, o + 4, none⟩ = false) :
    Calls Yba.prog 51 #[P b o] w fun e w' => e = .returned (P b o) ∧ w' = initW w b o := by
  go_enter Yba.func51, Yba.ntmps51
  go_wp2
  go_ret
  exact ⟨rfl, rfl⟩

theorem lazy_nil (b o : Nat) (w : World) (v1 v4 : Value) (h0 : w.cell? ⟨b, o, none⟩ = some (.pointer none)) (h1 : w.cell? ⟨b, o + 1, none⟩ = some v1) (h4 : w.cell? ⟨b, o + 4, none⟩ = some v4)
    (f0 : w.frozen? ⟨b, o, none⟩ = false) (f1 : w.frozen? ⟨b, o + 1, none⟩ = false) (f4 : w.frozen? ⟨b, o + 4, none⟩ = false) :
    Calls Yba.prog 42 #[P b o] w fun e w' => e = .returned (.tuple #[]) ∧ w' = initW w b o := by
  go_enter Yba.func42, Yba.ntmps42
  go_wp2_with (go_at_call 51; refine (init_any _ _ _ _ _ _ h0 h1 h4 f0 f1 f4).mono ?_; rintro e w' ⟨rfl, rfl⟩)
  go_end0
  exact ⟨rfl, rfl⟩

/-- What insert leaves: the element (e, 0) behind the element (c, p) of the list (b, o), whose front is the root. -/
def insW (w : World) (b o c p e : Nat) (n : Int) : World :=
  (((((w.setCell ⟨e, 1, none⟩ (P c p)).setCell ⟨e, 0, none⟩ (P b o)).setCell ⟨c, p, none⟩ (P e 0)).setCell ⟨b, o + 1, none⟩ (P e 0)).setCell ⟨e, 2, none⟩ (P b o)).setCell ⟨b, o + 4, none⟩ (.int .i64 (n + 1))

/-- insert, behind an element. -/
theorem insert_elem (b o c e : Nat) (n : Int) (v1 : Value) (w : World) (hcb : ¬ c = b) (heb : ¬ e = b) (hec : ¬ e = c)
    (h1 : w.cell? ⟨b, o + 1, none⟩ = some v1) (h4 : w.cell? ⟨b, o + 4, none⟩ = some (.int .i64 n))
    (hn1 : 0 ≤ n) (hn2 : n ≤ 1048576)
    (f1 : w.frozen? ⟨b, o + 1, none⟩ = false) (f4 : w.frozen? ⟨b, o + 4, none⟩ = false)
    (g0 : w.cell? ⟨c, 0, none⟩ = some (P b o)) (gf : w.frozen? ⟨c, 0, none⟩ = false)
    (e0 : w.cell? ⟨e, 0, none⟩ = some (.pointer none)) (e1 : w.cell? ⟨e, 1, none⟩ = some (.pointer none)) (e2 : w.cell? ⟨e, 2, none⟩ = some (.pointer none))
    (ef0 : w.frozen? ⟨e, 0, none⟩ = false) (ef1 : w.frozen? ⟨e, 1, none⟩ = false) (ef2 : w.frozen? ⟨e, 2, none⟩ = false) :
    Calls Yba.prog 52 #[P b o, P e 0, P c 0] w fun r w' => r = .returned (P e 0) ∧ w' = insW w b o c 0 e n := by
  have x1 : ¬ b = c := fun h => hcb h.symm
  have x2 : ¬ b = e := fun h => heb h.symm
  have x3 : ¬ c = e := fun h => hec h.symm
  go_enter Yba.func52, Yba.ntmps52
  go_wp2
  go_ret
  exact ⟨rfl, rfl⟩

/-- insert, behind the root. -/
theorem insert_root (b o e : Nat) (n : Int) (v1 : Value) (w : World) (heb : ¬ e = b)
    (h1 : w.cell? ⟨b, o + 1, none⟩ = some v1) (h4 : w.cell? ⟨b, o + 4, none⟩ = some (.int .i64 n))
    (hn1 : 0 ≤ n) (hn2 : n ≤ 1048576)
    (f1 : w.frozen? ⟨b, o + 1, none⟩ = false) (f4 : w.frozen? ⟨b, o + 4, none⟩ = false)
    (g0 : w.cell? ⟨b, o, none⟩ = some (P b o)) (gf : w.frozen? ⟨b, o, none⟩ = false)
    (e0 : w.cell? ⟨e, 0, none⟩ = some (.pointer none)) (e1 : w.cell? ⟨e, 1, none⟩ = some (.pointer none)) (e2 : w.cell? ⟨e, 2, none⟩ = some (.pointer none))
    (ef0 : w.frozen? ⟨e, 0, none⟩ = false) (ef1 : w.frozen? ⟨e, 1, none⟩ = false) (ef2 : w.frozen? ⟨e, 2, none⟩ = false) :
    Calls Yba.prog 52 #[P b o, P e 0, P b o] w fun r w' => r = .returned (P e 0) ∧ w' = insW w b o b o e n := by
  have x2 : ¬ b = e := fun h => heb h.symm
  go_enter Yba.func52, Yba.ntmps52
  go_wp2
  go_ret
  exact ⟨rfl, rfl⟩

/-- The block of a new element. -/
abbrev newE (k : Int) : Obj := .cells #[.pointer none, .pointer none, .pointer none, .iface 3 (.int .i64 k)] 79

theorem value_elem (b o c : Nat) (n k : Int) (v1 : Value) (w : World) (hcb : ¬ c = b)
    (h1 : w.cell? ⟨b, o + 1, none⟩ = some v1) (h4 : w.cell? ⟨b, o + 4, none⟩ = some (.int .i64 n))
    (hn1 : 0 ≤ n) (hn2 : n ≤ 1048576)
    (f1 : w.frozen? ⟨b, o + 1, none⟩ = false) (f4 : w.frozen? ⟨b, o + 4, none⟩ = false)
    (g0 : w.cell? ⟨c, 0, none⟩ = some (P b o)) (gf : w.frozen? ⟨c, 0, none⟩ = false) :
    Calls Yba.prog 43 #[P b o, .iface 3 (.int .i64 k), P c 0] w fun r w' => r = .returned (P w.heap.size 0) ∧ w' = insW (w.alloc (newE k)) b o c 0 w.heap.size n := by
  have hb : b < w.heap.size := World.block_lt_of_cell? _ _ h1
  have hc : c < w.heap.size := World.block_lt_of_cell? _ _ g0
  go_enter Yba.func43, Yba.ntmps43
  go_wp2_with fail
  refine (insert_elem b o c w.heap.size n v1 (w.alloc (newE k)) hcb (by omega) (by omega) ?_ ?_ hn1 hn2 ?_ ?_ ?_ ?_ ?_ ?_ ?_ ?_ ?_ ?_).mono ?_
  · rw [World.cell?_alloc_past _ _ _ hb]; exact h1
  · rw [World.cell?_alloc_past _ _ _ hb]; exact h4
  · rw [World.frozen?_alloc_past _ _ _ hb]; exact f1
  · rw [World.frozen?_alloc_past _ _ _ hb]; exact f4
  · rw [World.cell?_alloc_past _ _ _ hc]; exact g0
  · rw [World.frozen?_alloc_past _ _ _ hc]; exact gf
  · simp
  · simp
  · simp
  · simp
  · simp
  · simp
  rintro e w' ⟨rfl, rfl⟩
  go_wp2_with fail
  go_ret
  exact ⟨rfl, rfl⟩

theorem value_root (b o : Nat) (n k : Int) (v1 : Value) (w : World)
    (h1 : w.cell? ⟨b, o + 1, none⟩ = some v1) (h4 : w.cell? ⟨b, o + 4, none⟩ = some (.int .i64 n))
    (hn1 : 0 ≤ n) (hn2 : n ≤ 1048576)
    (f1 : w.frozen? ⟨b, o + 1, none⟩ = false) (f4 : w.frozen? ⟨b, o + 4, none⟩ = false)
    (g0 : w.cell? ⟨b, o, none⟩ = some (P b o)) (gf : w.frozen? ⟨b, o, none⟩ = false) :
    Calls Yba.prog 43 #[P b o, .iface 3 (.int .i64 k), P b o] w fun r w' => r = .returned (P w.heap.size 0) ∧ w' = insW (w.alloc (newE k)) b o b o w.heap.size n := by
  have hb : b < w.heap.size := World.block_lt_of_cell? _ _ h1
  go_enter Yba.func43, Yba.ntmps43
  go_wp2_with fail
  refine (insert_root b o w.heap.size n v1 (w.alloc (newE k)) (by omega) ?_ ?_ hn1 hn2 ?_ ?_ ?_ ?_ ?_ ?_ ?_ ?_ ?_ ?_).mono ?_
  · rw [World.cell?_alloc_past _ _ _ hb]; exact h1
  · rw [World.cell?_alloc_past _ _ _ hb]; exact h4
  · rw [World.frozen?_alloc_past _ _ _ hb]; exact f1
  · rw [World.frozen?_alloc_past _ _ _ hb]; exact f4
  · rw [World.cell?_alloc_past _ _ _ hb]; exact g0
  · rw [World.frozen?_alloc_past _ _ _ hb]; exact gf
  · simp
  · simp
  · simp
  · simp
  · simp
  · simp
  rintro e w' ⟨rfl, rfl⟩
  go_wp2_with fail
  go_ret
  exact ⟨rfl, rfl⟩

/-- What remove leaves, the element (e, 0) being the front and (c, p) what comes behind it. -/
def remW (w : World) (b o c p e : Nat) (n : Int) : World :=
  (((((w.setCell ⟨b, o, none⟩ (P c p)).setCell ⟨c, p + 1, none⟩ (P b o)).setCell ⟨e, 0, none⟩ (.pointer none)).setCell ⟨e, 1, none⟩ (.pointer none)).setCell ⟨e, 2, none⟩ (.pointer none)).setCell ⟨b, o + 4, none⟩ (.int .i64 (n - 1))

theorem remove_elem (b o c e : Nat) (n : Int) (v0 c1 : Value) (w : World) (hcb : ¬ c = b) (heb : ¬ e = b) (hec : ¬ e = c)
    (h0 : w.cell? ⟨b, o, none⟩ = some v0) (h4 : w.cell? ⟨b, o + 4, none⟩ = some (.int .i64 n)) (hn1 : 0 ≤ n) (hn2 : n ≤ 1048576)
    (f0 : w.frozen? ⟨b, o, none⟩ = false) (f4 : w.frozen? ⟨b, o + 4, none⟩ = false)
    (e0 : w.cell? ⟨e, 0, none⟩ = some (P c 0)) (e1 : w.cell? ⟨e, 1, none⟩ = some (P b o)) (e2 : w.cell? ⟨e, 2, none⟩ = some (P b o))
    (ef0 : w.frozen? ⟨e, 0, none⟩ = false) (ef1 : w.frozen? ⟨e, 1, none⟩ = false) (ef2 : w.frozen? ⟨e, 2, none⟩ = false)
    (g1 : w.cell? ⟨c, 1, none⟩ = some c1) (gf1 : w.frozen? ⟨c, 1, none⟩ = false) :
    Calls Yba.prog 41 #[P b o, P e 0] w fun r w' => r = .returned (.tuple #[]) ∧ w' = (remW w b o c 0 e n).drew.drew := by
  have x1 : ¬ b = c := fun h => hcb h.symm
  have x2 : ¬ b = e := fun h => heb h.symm
  have x3 : ¬ c = e := fun h => hec h.symm
  go_enter Yba.func41, Yba.ntmps41
  go_wp2
  go_region
  go_wp2
  go_region
  go_wp2
  go_end0
  exact ⟨rfl, rfl⟩

theorem remove_last (b o e : Nat) (n : Int) (v0 v1 : Value) (w : World) (heb : ¬ e = b)
    (h0 : w.cell? ⟨b, o, none⟩ = some v0) (h1 : w.cell? ⟨b, o + 1, none⟩ = some v1) (h4 : w.cell? ⟨b, o + 4, none⟩ = some (.int .i64 n)) (hn1 : 0 ≤ n) (hn2 : n ≤ 1048576)
    (f0 : w.frozen? ⟨b, o, none⟩ = false) (f1 : w.frozen? ⟨b, o + 1, none⟩ = false) (f4 : w.frozen? ⟨b, o + 4, none⟩ = false)
    (e0 : w.cell? ⟨e, 0, none⟩ = some (P b o)) (e1 : w.cell? ⟨e, 1, none⟩ = some (P b o)) (e2 : w.cell? ⟨e, 2, none⟩ = some (P b o))
    (ef0 : w.frozen? ⟨e, 0, none⟩ = false) (ef1 : w.frozen? ⟨e, 1, none⟩ = false) (ef2 : w.frozen? ⟨e, 2, none⟩ = false) :
    Calls Yba.prog 41 #[P b o, P e 0] w fun r w' => r = .returned (.tuple #[]) ∧ w' = (remW w b o b o e n).drew.drew := by
  have x2 : ¬ b = e := fun h => heb h.symm
  go_enter Yba.func41, Yba.ntmps41
  go_wp2
  go_region
  go_wp2
  go_region
  go_wp2
  go_end0
  exact ⟨rfl, rfl⟩

end Go.Proofs.Ybulkecbe.C
