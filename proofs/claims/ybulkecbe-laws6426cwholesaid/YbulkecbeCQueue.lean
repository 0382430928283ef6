import Derived.Test.YbulkecbeCList
namespace Go.Proofs.Ybulkecbe.C
open Go.ChangeShapes Go.WideShapes Go.ChangeAt Go.RowKit

/-! ### Memory, cell by cell -/
def Has (w : World) (b i : Nat) : Prop := ∃ u, w.cell? ⟨b, i, none⟩ = some u
theorem Has.of {w : World} {b i : Nat} {u : Value} (h : w.cell? ⟨b, i, none⟩ = some u) : Has w b i := ⟨u, h⟩
theorem Has.set {w : World} {b i : Nat} (h : Has w b i) (a : Addr) (v : Value) : Has (w.setCell a v) b i := by
  obtain ⟨u, h⟩ := h; exact cell?_setCell_some h
theorem cset {w : World} {b i : Nat} (h : Has w b i) (v : Value) (b' i' : Nat) :
    (w.setCell ⟨b, i, none⟩ v).cell? ⟨b', i', none⟩ = if b' = b ∧ i' = i then some v else w.cell? ⟨b', i', none⟩ := by
  obtain ⟨u, h⟩ := h
  by_cases e : b' = b ∧ i' = i
  · obtain ⟨rfl, rfl⟩ := e
    rw [World.cell?_setCell_same _ _ _ h]; simp
  · rw [if_neg e, World.cell?_setCell_other]
    intro h; apply e; simp at h; exact ⟨h.1.symm, h.2.symm⟩

theorem insW_cell {w : World} {b o c p e : Nat} {n : Int} (h1 : Has w b (o + 1)) (h4 : Has w b (o + 4)) (g0 : Has w c p) (e0 : Has w e 0) (e1 : Has w e 1) (e2 : Has w e 2) (x i : Nat) :
    (insW w b o c p e n).cell? ⟨x, i, none⟩ = if x = b ∧ i = o + 4 then some (.int .i64 (n + 1)) else if x = e ∧ i = 2 then some (P b o) else if x = b ∧ i = o + 1 then some (P e 0) else if x = c ∧ i = p then some (P e 0)
      else if x = e ∧ i = 0 then some (P b o) else if x = e ∧ i = 1 then some (P c p) else w.cell? ⟨x, i, none⟩ := by
  unfold insW
  rw [cset (((((h4.set _ _).set _ _).set _ _).set _ _).set _ _), cset ((((e2.set _ _).set _ _).set _ _).set _ _), cset (((h1.set _ _).set _ _).set _ _), cset ((g0.set _ _).set _ _), cset (e0.set _ _), cset e1]

theorem remW_cell {w : World} {b o c p e : Nat} {n : Int} (h0 : Has w b o) (h4 : Has w b (o + 4)) (g1 : Has w c (p + 1)) (e0 : Has w e 0) (e1 : Has w e 1) (e2 : Has w e 2) (x i : Nat) :
    (remW w b o c p e n).cell? ⟨x, i, none⟩ = if x = b ∧ i = o + 4 then some (.int .i64 (n - 1)) else if x = e ∧ i = 2 then some (.pointer none) else if x = e ∧ i = 1 then some (.pointer none) else if x = e ∧ i = 0 then some (.pointer none)
      else if x = c ∧ i = p + 1 then some (P b o) else if x = b ∧ i = o then some (P c p) else w.cell? ⟨x, i, none⟩ := by
  unfold remW
  rw [cset (((((h4.set _ _).set _ _).set _ _).set _ _).set _ _), cset ((((e2.set _ _).set _ _).set _ _).set _ _), cset (((e1.set _ _).set _ _).set _ _), cset ((e0.set _ _).set _ _), cset (g1.set _ _), cset h0]

/-- Nothing from block B on is frozen. -/
def Thaw (B : Nat) (w : World) : Prop := ∀ b i, B ≤ b → w.frozen? ⟨b, i, none⟩ = false
theorem Thaw.set {B : Nat} {w : World} (h : Thaw B w) (a : Addr) (v : Value) : Thaw B (w.setCell a v) := by
  intro b i hb; rw [World.frozen?_setCell]; exact h b i hb
theorem Thaw.drew {B : Nat} {w : World} (h : Thaw B w) : Thaw B w.drew := h
theorem Thaw.alloc {B : Nat} {w : World} (h : Thaw B w) (c : Array Value) (t : TypeId) : Thaw B (w.alloc (.cells c t)) := by
  intro b i hb; rw [frozen?_alloc_cells]; exact h b i hb

/-! ### A queue: the list at (L, o) holds the elements es -/
def nxt (L o : Nat) : Option Nat → Value
  | none => P L o
  | some x => P x 0

structure Queue (w : World) (L o : Nat) (es : List Nat) : Prop where
  len : w.cell? ⟨L, o + 4, none⟩ = some (.int .i64 es.length)
  link : ∀ i x, es[i]? = some x → w.cell? ⟨x, 0, none⟩ = some (nxt L o es[i + 1]?) ∧ w.cell? ⟨x, 2, none⟩ = some (P L o) ∧ Has w x 1 ∧ Has w x 3
  ends : (es = [] ∧ w.cell? ⟨L, o, none⟩ = some (.pointer none) ∧ w.cell? ⟨L, o + 1, none⟩ = some (.pointer none)) ∨
    (w.cell? ⟨L, o, none⟩ = some (nxt L o es[0]?) ∧ w.cell? ⟨L, o + 1, none⟩ = some (nxt L o es.getLast?))
  front : ∀ x, es[0]? = some x → w.cell? ⟨x, 1, none⟩ = some (P L o)
  out : ∀ x ∈ es, x ≠ L
  nodup : es.Nodup

/-- The queue's own memory unchanged: the queue stands. -/
theorem Queue.keep {w w' : World} {L o : Nat} {es : List Nat} (h : Queue w L o es) (hL : ∀ i, o ≤ i → i < o + 5 → w'.cell? ⟨L, i, none⟩ = w.cell? ⟨L, i, none⟩)
    (hE : ∀ x ∈ es, ∀ i, w'.cell? ⟨x, i, none⟩ = w.cell? ⟨x, i, none⟩) : Queue w' L o es where
  len := by rw [hL _ (by omega) (by omega)]; exact h.len
  link := by
    intro i x hx
    have hm : x ∈ es := List.mem_of_getElem? hx
    obtain ⟨a, b, c, d⟩ := h.link i x hx
    unfold Has
    rw [hE x hm, hE x hm, hE x hm, hE x hm]
    exact ⟨a, b, c, d⟩
  ends := by
    rw [hL _ (by omega) (by omega), hL _ (by omega) (by omega)]; exact h.ends
  front := by
    intro x hx
    rw [hE x (List.mem_of_getElem? hx)]; exact h.front x hx
  out := h.out
  nodup := h.nodup

/-- What a push or a pop at the list (L, o) of es may touch. -/
structure Touch (w w' : World) (L o : Nat) (es : List Nat) : Prop where
  below : ∀ B, B ≤ L → (∀ x ∈ es, B ≤ x) → B ≤ w.heap.size → Below B w w'
  cell : ∀ b i, b < w.heap.size → b ∉ es → (b = L → i < o ∨ o + 5 ≤ i) → w'.cell? ⟨b, i, none⟩ = w.cell? ⟨b, i, none⟩
  thaw : ∀ B, Thaw B w → Thaw B w'

theorem getLast_some {es : List Nat} {c : Nat} (h : es.getLast? = some c) : es[es.length - 1]? = some c := by
  rw [List.getLast?_eq_getElem?] at h; exact h

theorem ins_queue {w : World} {L o c p n : Nat} {es : List Nat} {k : Int} (q : Queue (w.alloc (newE k)) L o es)
    (hc : P c p = nxt L o es.getLast?) (hcp : es = [] → c = L ∧ p = o) (hn : n = es.length) (hL : L < w.heap.size) (hlt : ∀ x ∈ es, x < w.heap.size)
    (h0 : es = [] → (w.alloc (newE k)).cell? ⟨L, o, none⟩ = some (P L o)) :
    Queue (insW (w.alloc (newE k)) L o c p w.heap.size n) L o (es ++ [w.heap.size]) := by
  subst hn
  have n0 : (w.alloc (newE k)).cell? ⟨w.heap.size, 0, none⟩ = some (.pointer none) := by simp
  have n1 : (w.alloc (newE k)).cell? ⟨w.heap.size, 1, none⟩ = some (.pointer none) := by simp
  have n2 : (w.alloc (newE k)).cell? ⟨w.heap.size, 2, none⟩ = some (.pointer none) := by simp
  have n3 : (w.alloc (newE k)).cell? ⟨w.heap.size, 3, none⟩ = some (.iface 3 (.int .i64 k)) := by simp
  have hE : ∀ x ∈ es, x ≠ w.heap.size := fun x hx => by have := hlt x hx; omega
  have hL0 : Has (w.alloc (newE k)) L o := by
    rcases q.ends with ⟨_, h, _⟩ | ⟨h, _⟩ <;> exact ⟨_, h⟩
  have hL1 : Has (w.alloc (newE k)) L (o + 1) := by
    rcases q.ends with ⟨_, _, h⟩ | ⟨_, h⟩ <;> exact ⟨_, h⟩
  have hcc : (es = [] ∧ c = L ∧ p = o) ∨ (es.getLast? = some c ∧ p = 0) := by
    cases hg : es.getLast? with
    | none => rw [List.getLast?_eq_none_iff] at hg; exact .inl ⟨hg, hcp hg⟩
    | some x => rw [hg] at hc; simp [nxt, P] at hc; obtain ⟨rfl, rfl⟩ := hc; exact .inr ⟨rfl, rfl⟩
  have hcm : es.getLast? = some c → c ∈ es := fun h => List.mem_of_getLast? h
  have hc0 : Has (w.alloc (newE k)) c p := by
    rcases hcc with ⟨_, rfl, rfl⟩ | ⟨h, rfl⟩
    · exact hL0
    · exact ⟨_, (q.link _ _ (getLast_some h)).1⟩
  have key := insW_cell (n := es.length) hL1 ⟨_, q.len⟩ hc0 ⟨_, n0⟩ ⟨_, n1⟩ ⟨_, n2⟩
  have hLs : L ≠ w.heap.size := by omega
  have hne : c ≠ w.heap.size := by
    rcases hcc with ⟨_, rfl, rfl⟩ | ⟨h, rfl⟩
    · exact hLs
    · exact hE _ (hcm h)
  constructor
  · rw [key]; simp
  · intro i x hx
    by_cases hi : i < es.length
    · have hx' : es[i]? = some x := by rw [List.getElem?_append_left hi] at hx; exact hx
      have hm : x ∈ es := List.mem_of_getElem? hx'
      obtain ⟨a, b, c1, d⟩ := q.link i x hx'
      have hxL := q.out x hm
      have hxs := hE x hm
      have hlast : es.getLast? = some c ∧ p = 0 := by
        rcases hcc with ⟨rfl, _, _⟩ | h
        · simp at hi
        · exact h
      obtain ⟨hl, rfl⟩ := hlast
      refine ⟨?_, ?_, ?_, ?_⟩
      · rw [key]
        by_cases hl' : i + 1 < es.length
        · have hxc : x ≠ c := by
            intro h; subst h
            have h2 := getLast_some hl
            have := (List.getElem?_inj (by omega) q.nodup).1 (hx'.trans h2.symm)
            omega
          simp [hxL, hxs, hxc]
          rw [List.getElem?_append_left hl']; simpa using a
        · have e1 : i = es.length - 1 := by omega
          subst e1
          have hxc : x = c := by rw [getLast_some hl] at hx'; simpa using hx'.symm
          subst hxc
          simp [hxL, hxs]
          rw [List.getElem?_append_right (by omega)]
          have : es.length - 1 + 1 - es.length = 0 := by omega
          rw [this]; simp [nxt]
      · rw [key]; simp [hxL, hxs]; simpa using b
      · unfold Has; rw [key]; simp [hxL, hxs]; simpa [Has] using c1
      · unfold Has; rw [key]; simp [hxL, hxs]; simpa [Has] using d
    · have e1 : i = es.length := by
        have := (List.getElem?_eq_some_iff.1 hx).1; simp at this; omega
      subst e1
      have hxs : x = w.heap.size := by simpa using hx.symm
      subst hxs
      refine ⟨?_, ?_, ?_, ?_⟩
      · rw [key]; simp [hLs.symm, hne.symm, nxt]
      · rw [key]; simp [hLs.symm]
      · unfold Has; rw [key]; simp [hLs.symm, hne.symm]
      · unfold Has; rw [key]; simp [hLs.symm, hne.symm]
  · right
    refine ⟨?_, ?_⟩
    · rw [key]
      rcases hcc with ⟨rfl, rfl, rfl⟩ | ⟨hl, rfl⟩
      · simp [hLs, nxt]
      · have hcL : L ≠ c := (q.out c (hcm hl)).symm
        simp [hLs, hcL]
        rcases q.ends with ⟨rfl, _, _⟩ | ⟨h, _⟩
        · simp at hl
        · cases es with
          | nil => simp at hl
          | cons y r => simpa [nxt] using h
    · rw [key]; simp [hLs, nxt]
  · intro x hx
    rw [key]
    cases es with
    | nil =>
      simp at hx; subst hx
      obtain ⟨rfl, rfl⟩ := hcp rfl
      simp [hLs.symm]
    | cons y r =>
      simp at hx; subst hx
      have hm : y ∈ y :: r := by simp
      have hxL := q.out y hm
      have hxs := hE y hm
      have hp : p = 0 := by
        rcases hcc with ⟨h, _, _⟩ | h
        · simp at h
        · exact h.2
      subst hp
      simp [hxL, hxs]
      simpa using q.front y (by simp)
  · intro x hx
    simp at hx
    rcases hx with hx | rfl
    · exact q.out x hx
    · exact hLs.symm
  · rw [List.nodup_append]
    refine ⟨q.nodup, by simp, ?_⟩
    intro a ha b hb
    simp at hb; subst hb
    exact hE a ha

end Go.Proofs.Ybulkecbe.C
