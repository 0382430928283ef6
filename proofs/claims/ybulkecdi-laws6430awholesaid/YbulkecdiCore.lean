import Derived.Test.YbulkecdiRows
import Derived.WalkKit
import Derived.ProofKit
import Derived.Below
import Derived.OwnWalk
import Derived.Maps.Range
import Derived.Deep.Draws
import Derived.LaidEqlPtr
namespace Go.Proofs.Ybulkecdi
open Go.ChangeShapes Go.WideShapes Go.ChangeAt Go.RowKit

theorem hide {p : Prop} (h : p) : Hid p := h
theorem unhide {p : Prop} (h : Hid p) : p := h
abbrev Pt (b : Nat) : Value := .pointer (some ⟨b, 0, none⟩)
abbrev Nl : Value := .pointer none
/-- The queue; a waiter. -/
abbrev oQ (hd tl : Value) : Obj := .cells #[hd, tl] 26
abbrev oW (s : Value) (i : Int) (c : Value) (v : Int) (ok : Bool) (q pv nx : Value) : Obj := .cells #[s, .int .i64 i, c, .int .i64 v, .bool ok, q, pv, nx] 31

theorem set_other {w : World} {b b' i : Nat} {v : Value} (h : b ≠ b') : (w.setCell ⟨b', i, none⟩ v).heap[b]? = w.heap[b]? := by
  exact Below.heap_setCell _ _ _ _ h
theorem q_cells {w : World} {Q : Nat} {hd tl : Value} (h : w.heap[Q]? = some (oQ hd tl)) : w.cell? ⟨Q, 0, none⟩ = some hd ∧ w.cell? ⟨Q, 1, none⟩ = some tl ∧ (∀ i, w.frozen? ⟨Q, i, none⟩ = false) := by
  refine ⟨?_, ?_, ?_⟩
  · simp [World.cell?, h]
  · simp [World.cell?, h]
  · intro i; simp [World.frozen?, h]
theorem w_cells {w : World} {b : Nat} {s c q pv nx : Value} {i v : Int} {ok : Bool} (h : w.heap[b]? = some (oW s i c v ok q pv nx)) : w.cell? ⟨b, 0, none⟩ = some s ∧ w.cell? ⟨b, 1, none⟩ = some (.int .i64 i) ∧ w.cell? ⟨b, 2, none⟩ = some c ∧ w.cell? ⟨b, 3, none⟩ = some (.int .i64 v) ∧
    w.cell? ⟨b, 4, none⟩ = some (.bool ok) ∧ w.cell? ⟨b, 5, none⟩ = some q ∧ w.cell? ⟨b, 6, none⟩ = some pv ∧ w.cell? ⟨b, 7, none⟩ = some nx ∧ ∀ i, w.frozen? ⟨b, i, none⟩ = false := by
  refine ⟨?_, ?_, ?_, ?_, ?_, ?_, ?_, ?_, ?_⟩
  · simp [World.cell?, h]
  · simp [World.cell?, h]
  · simp [World.cell?, h]
  · simp [World.cell?, h]
  · simp [World.cell?, h]
  · simp [World.cell?, h]
  · simp [World.cell?, h]
  · simp [World.cell?, h]
  · intro i; simp [World.frozen?, h]
theorem q_set0 {w : World} {Q : Nat} {hd tl : Value} (h : w.heap[Q]? = some (oQ hd tl)) (x : Value) : (w.setCell ⟨Q, 0, none⟩ x).heap[Q]? = some (oQ x tl) := by simp [World.setCell, Array.getElem?_modify, h]
theorem q_set1 {w : World} {Q : Nat} {hd tl : Value} (h : w.heap[Q]? = some (oQ hd tl)) (x : Value) : (w.setCell ⟨Q, 1, none⟩ x).heap[Q]? = some (oQ hd x) := by simp [World.setCell, Array.getElem?_modify, h]
section
variable {w : World} {b : Nat} {s c q pv nx : Value} {i v : Int} {ok : Bool}
theorem w_set5 (h : w.heap[b]? = some (oW s i c v ok q pv nx)) (x : Value) : (w.setCell ⟨b, 5, none⟩ x).heap[b]? = some (oW s i c v ok x pv nx) := by simp [World.setCell, Array.getElem?_modify, h]
theorem w_set6 (h : w.heap[b]? = some (oW s i c v ok q pv nx)) (x : Value) : (w.setCell ⟨b, 6, none⟩ x).heap[b]? = some (oW s i c v ok q x nx) := by simp [World.setCell, Array.getElem?_modify, h]
theorem w_set7 (h : w.heap[b]? = some (oW s i c v ok q pv nx)) (x : Value) : (w.setCell ⟨b, 7, none⟩ x).heap[b]? = some (oW s i c v ok q pv x) := by simp [World.setCell, Array.getElem?_modify, h]
end

/-! ### comparing a pointer with itself -/
theorem neq_same {t e : TypeId} (ht : Yba.prog.underlying t = some (.pointer e)) (he : (Yba.prog.info? e).isSome = true) (x : Option Addr) (w : World) : (binOp .neq t (.pointer x) (.pointer x)).run Yba.prog w = .ok (.bool false) w := by
  obtain ⟨j, hj⟩ : ∃ j, Yba.prog.info? e = some j := Option.isSome_iff_exists.1 he
  have h : ∀ d : Nat, (Op.equalIn (d + 1) t (.pointer x) (.pointer x)).run Yba.prog w = .ok true w := fun d => by
    cases x <;> simp [Op.equalIn, run_underlying ht, sizeOf, typeInfo, hj, run_sameAddr_same]
  simp only [binOp]
  simp [Op.equal, Op.maxDepth, h 9999]
theorem neq23 (x : Option Addr) (w : World) : (binOp .neq 23 (.pointer x) (.pointer x)).run Yba.prog w = .ok (.bool false) w := neq_same Yba.underlying23 (by kernel_rfl) x w
theorem neq24 (x : Option Addr) (w : World) : (binOp .neq 24 (.pointer x) (.pointer x)).run Yba.prog w = .ok (.bool false) w := neq_same Yba.underlying24 (by kernel_rfl) x w
theorem neq28 (x : Option Addr) (w : World) : (binOp .neq 28 (.pointer x) (.pointer x)).run Yba.prog w = .ok (.bool false) w := neq_same Yba.underlying28 (by kernel_rfl) x w
theorem neq29 (x : Option Addr) (w : World) : (binOp .neq 29 (.pointer x) (.pointer x)).run Yba.prog w = .ok (.bool false) w := neq_same Yba.underlying29 (by kernel_rfl) x w

/-! ### push -/
theorem push_nil (Q W : Nat) (w : World) (hne : ¬ Q = W) {s c q pv nx : Value} {i v : Int} {ok : Bool} (hq : w.heap[Q]? = some (oQ Nl Nl)) (hw : w.heap[W]? = some (oW s i c v ok q pv nx)) :
    Calls Yba.prog 5 #[Pt Q, Pt W] w fun e w' => e = .returned (.tuple #[]) ∧ w' = (((w.setCell ⟨W, 5, none⟩ (Pt Q)).setCell ⟨W, 6, none⟩ Nl).setCell ⟨Q, 0, none⟩ (Pt W)).setCell ⟨Q, 1, none⟩ (Pt W) := by
  obtain ⟨q0, q1, qz⟩ := q_cells hq
  obtain ⟨w0, w1, w2, w3, w4, w5, w6, w7, wz⟩ := w_cells hw
  have z0 := qz 0
  have z1 := qz 1
  have z5 := wz 5
  have z6 := wz 6
  have hne' : ¬ W = Q := fun e => hne e.symm
  clear hq hw qz wz
  go_enter Yba.func5, Yba.ntmps5
  go_wp2
  go_end0
  exact ⟨rfl, rfl⟩

theorem push_some (Q W T : Nat) (w : World) (hne : ¬ Q = W) (hTQ : ¬ T = Q) (hTW : ¬ T = W) {s c q pv nx : Value} {i v : Int} {ok : Bool} {hd : Value} {s' c' q' pv' nx' : Value} {i' v' : Int} {ok' : Bool} (hq : w.heap[Q]? = some (oQ hd (Pt T))) (hw : w.heap[W]? = some (oW s i c v ok q pv nx))
    (ht : w.heap[T]? = some (oW s' i' c' v' ok' q' pv' nx')) :
    Calls Yba.prog 5 #[Pt Q, Pt W] w fun e w' => e = .returned (.tuple #[]) ∧ w' = (((w.setCell ⟨W, 5, none⟩ (Pt Q)).setCell ⟨W, 6, none⟩ (Pt T)).setCell ⟨T, 7, none⟩ (Pt W)).setCell ⟨Q, 1, none⟩ (Pt W) := by
  obtain ⟨q0, q1, qz⟩ := q_cells hq
  obtain ⟨w0, w1, w2, w3, w4, w5, w6, w7, wz⟩ := w_cells hw
  obtain ⟨t0, t1, t2, t3, t4, t5, t6, t7, tz⟩ := w_cells ht
  have z0 := qz 0
  have z1 := qz 1
  have z5 := wz 5
  have z6 := wz 6
  have z7 := tz 7
  have hne' : ¬ W = Q := fun e => hne e.symm
  have hTQ' : ¬ Q = T := fun e => hTQ e.symm
  have hTW' : ¬ W = T := fun e => hTW e.symm
  clear hq hw ht qz wz tz
  go_enter Yba.func5, Yba.ntmps5
  go_wp2
  go_end0
  exact ⟨rfl, rfl⟩

/-! ### the list of nodes -/
def Vals (w : World) (a : Option Addr) (n : Nat) (v : Nat → Int) : Prop := 0 < n → ∃ b off, a = some ⟨b, off, none⟩ ∧ b < w.heap.size ∧ ∀ i, i < n → w.cell? ⟨b, off + i, none⟩ = some (.int .i64 (v i))

/-- The row of pointers, filled as far as m. -/
def Filled (w : World) (G n m base : Nat) : Prop := ∃ zs, w.ownsRow G 24 1 (.slice (some ⟨G, 0, none⟩) n n) n zs ∧ ∀ t, t < m → zs[t]? = some (Pt (base + t))
theorem info24 : (Yba.prog.info? 24).map (fun i => (i.zero, i.size, i.bytes)) = some (some (.pointer none), 1, 8) := by kernel_rfl
theorem made (w : World) (n : Nat) (hn : n ≤ 65536) (base : Nat) : ∃ w1, (Instr.makeSlice 27 (.int .i64 n) (.int .i64 n)).run Yba.prog w = .ok (.slice (some ⟨w.heap.size, 0, none⟩) n n) w1 ∧ Filled w1 w.heap.size n 0 base ∧ w.grownBy w1 none ∧ w1.heap.size = w.heap.size + 1 := by
  obtain ⟨i0, hi, hz0, hz1, hz2⟩ := info_parts info24
  obtain ⟨w1, h1, h2, h3⟩ := run_make_full (P := Yba.prog) w w.heap.size 27 24 i0 _ 1 Yba.underlying27 hi hz0 hz1 .i64 .i64 n (by rw [hz2]; omega) (by unfold maxLen; omega) (Nat.le_refl _)
  have hb : (i0.bytes : Int) * (n : Int) ≤ 281474976710656 := by rw [hz2]; omega
  have hr := run_make (P := Yba.prog) w 27 24 i0 _ Yba.underlying27 hi hz0 .i64 .i64 n n (by omega) (Int.le_refl _) hb (by omega)
  have hw : w1.heap.size = w.heap.size + 1 := by
    rw [h1] at hr
    injection hr with _ e
    rw [e]; simp
  exact ⟨w1, h1, ⟨_, h2, fun t ht => by omega⟩, h3, hw⟩
theorem Filled.step {w : World} {G n m base : Nat} (h : Filled w G n m base) (hm : m < n) : Filled (w.setCell ⟨G, m, none⟩ (Pt (base + m))) G n (m + 1) base := by
  obtain ⟨zs, h1, h2⟩ := h
  refine ⟨zs.set m (Pt (base + m)), (h1.stored m (Pt (base + m))).1, fun t ht => ?_⟩
  by_cases e : m = t
  · subst e
    rw [List.getElem?_set_self (by have := h1.1; omega)]
  · rw [List.getElem?_set_ne e]
    exact h2 t (by omega)
theorem Filled.kept {w w' : World} {G n m base : Nat} (h : Filled w G n m base) (hb : w'.heap[G]? = w.heap[G]?) : Filled w' G n m base := by
  obtain ⟨zs, ⟨h0, h1⟩, h2⟩ := h
  refine ⟨zs, ⟨h0, ?_⟩, h2⟩
  rcases h1 with h | ⟨g, cap, cur, e, hb', hg, h⟩
  · exact .inl h
  · have : g = G := by injection e with e1 e2 e3; injection e1 with e1; injection e1 with e1 _ _; exact e1.symm
    subst this
    exact .inr ⟨g, cap, cur, e, hb', by rw [hb]; exact hg, h⟩
theorem Filled.cell {w : World} {G n m base : Nat} (h : Filled w G n m base) {i : Nat} (hi : i < n) : (∃ v, w.cell? ⟨G, i, none⟩ = some v) ∧ w.frozen? ⟨G, i, none⟩ = false := by
  obtain ⟨zs, h1, _⟩ := h
  refine ⟨?_, h1.frozenAt i⟩
  rw [h1.cellAt i (by omega)]
  exact ⟨_, List.getElem?_eq_getElem (by have := h1.1; omega)⟩
theorem Filled.at {w : World} {G n m base : Nat} (h : Filled w G n m base) {i : Nat} (hi : i < n) (him : i < m) : w.cell? ⟨G, i, none⟩ = some (Pt (base + i)) := by
  obtain ⟨zs, h1, h2⟩ := h
  rw [h1.cellAt i (by omega), h2 i him]
theorem Filled.lt {w : World} {G n m base : Nat} (h : Filled w G n m base) : G < w.heap.size := by
  obtain ⟨zs, ⟨_, h1⟩, _⟩ := h
  rcases h1 with ⟨h, _⟩ | ⟨g, cap, cur, e, _, hg, _⟩
  · cases h
  · have : g = G := by injection e with e1 e2 e3; injection e1 with e1; injection e1 with e1 _ _; exact e1.symm
    subst this
    exact (Array.getElem?_eq_some_iff.1 hg).1

/-- WHAT STANDS: the queue in block Q, the row of pointers in block G, the node t in block base + t. -/
structure St (w0 w : World) (Q G base n m k : Nat) (v : Nat → Int) (hd tl : Value) (pv nx : Nat → Value) : Prop where
  below : Below w0.heap.size w0 w
  q : w.heap[Q]? = some (oQ hd tl)
  row : Filled w G n m base
  node : ∀ t, t < k → w.heap[base + t]? = some (oW Nl t Nl (v t) false (Pt Q) (pv t) (nx t))

section
variable {w0 w w' : World} {Q G base n m k : Nat} {v : Nat → Int} {hd tl : Value} {pv nx : Nat → Value}
theorem St.same (h : St w0 w Q G base n m k v hd tl pv nx) (hb : Below w0.heap.size w0 w') (hk : ∀ j, j < w.heap.size → w'.heap[j]? = w.heap[j]?) : St w0 w' Q G base n m k v hd tl pv nx :=
  ⟨hb, by rw [hk Q (Array.getElem?_eq_some_iff.1 h.q).1]; exact h.q, h.row.kept (hk G h.row.lt), fun t ht => by rw [hk _ (Array.getElem?_eq_some_iff.1 (h.node t ht)).1]; exact h.node t ht⟩
theorem St.drewN (h : St w0 w Q G base n m k v hd tl pv nx) (d : Nat) : St w0 (w.drewN d) Q G base n m k v hd tl pv nx :=
  ⟨h.below.grown (show w.grownBy (w.drewN d) none from ⟨rfl, rfl, rfl, Nat.le_refl _, fun _ _ _ => rfl⟩) h.below.size (by simp), h.q, h.row.kept rfl, h.node⟩
theorem St.prev (h : St w0 w Q G base n m k v hd tl pv nx) {i : Nat} (hi : i < k) (hQ : Q < base) (hG : G < base) (h0 : w0.heap.size ≤ Q) (x : Value) {pv' : Nat → Value} (hp : ∀ t, t < k → pv' t = if t = i then x else pv t) :
    St w0 (w.setCell ⟨base + i, 6, none⟩ x) Q G base n m k v hd tl pv' nx := by
  refine ⟨h.below.setCell (by simp; omega) _, by rw [set_other (by omega)]; exact h.q, h.row.kept (set_other (by omega)), fun t ht => ?_⟩
  rw [hp t ht]
  by_cases e : t = i
  · subst e
    rw [if_pos rfl]
    exact w_set6 (h.node t ht) x
  · rw [if_neg e, set_other (by omega)]
    exact h.node t ht
theorem St.next (h : St w0 w Q G base n m k v hd tl pv nx) {i : Nat} (hi : i < k) (hQ : Q < base) (hG : G < base) (h0 : w0.heap.size ≤ Q) (x : Value) {nx' : Nat → Value} (hp : ∀ t, t < k → nx' t = if t = i then x else nx t) :
    St w0 (w.setCell ⟨base + i, 7, none⟩ x) Q G base n m k v hd tl pv nx' := by
  refine ⟨h.below.setCell (by simp; omega) _, by rw [set_other (by omega)]; exact h.q, h.row.kept (set_other (by omega)), fun t ht => ?_⟩
  rw [hp t ht]
  by_cases e : t = i
  · subst e
    rw [if_pos rfl]
    exact w_set7 (h.node t ht) x
  · rw [if_neg e, set_other (by omega)]
    exact h.node t ht
theorem St.head (h : St w0 w Q G base n m k v hd tl pv nx) (hQ : Q < base) (hQG : Q ≠ G) (h0 : w0.heap.size ≤ Q) (x : Value) : St w0 (w.setCell ⟨Q, 0, none⟩ x) Q G base n m k v x tl pv nx :=
  ⟨h.below.setCell (by simp; omega) _, q_set0 h.q x, h.row.kept (set_other (fun e => hQG e.symm)), fun t ht => by rw [set_other (by omega)]; exact h.node t ht⟩
theorem St.tail (h : St w0 w Q G base n m k v hd tl pv nx) (hQ : Q < base) (hQG : Q ≠ G) (h0 : w0.heap.size ≤ Q) (x : Value) : St w0 (w.setCell ⟨Q, 1, none⟩ x) Q G base n m k v hd x pv nx :=
  ⟨h.below.setCell (by simp; omega) _, q_set1 h.q x, h.row.kept (set_other (fun e => hQG e.symm)), fun t ht => by rw [set_other (by omega)]; exact h.node t ht⟩
theorem St.alloc (h : St w0 w Q G base n m k v hd tl pv nx) (o : Obj) : St w0 (w.alloc o) Q G base n m k v hd tl pv nx :=
  h.same (h.below.alloc h.below.size o) (fun j hj => (MapKept.heap_alloc w o).2 j hj)
/-- A write into another block, behind the nodes. -/
theorem St.other (h : St w0 w Q G base n m k v hd tl pv nx) {b i : Nat} {x : Value} (hb : base + k ≤ b) (hQ : Q < base) (hG : G < base) (h0 : w0.heap.size ≤ Q) : St w0 (w.setCell ⟨b, i, none⟩ x) Q G base n m k v hd tl pv nx :=
  ⟨h.below.setCell (by simp; omega) _, by rw [set_other (by omega)]; exact h.q, h.row.kept (set_other (by omega)), fun t ht => by rw [set_other (by omega)]; exact h.node t ht⟩
end
end Go.Proofs.Ybulkecdi
