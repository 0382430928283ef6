import Derived.Test.YbulkecbeBNil
import Derived.Test.YbulkecbeBLay
import Derived.Sort.OwnSorted
namespace Go.Proofs.Ybulkecbe.B
open Go.ChangeShapes Go.WideShapes Go.ChangeAt Go.RowKit Go.Maps

/-! ### the names of the buckets that hold a point -/
def sel : List Str → List Int → List Str
  | k :: ks, d :: ds => if d = 2 then k :: sel ks ds else sel ks ds
  | _, _ => []
theorem mem_sel : ∀ (ks : List Str) (ds : List Int) (x : Str), x ∈ sel ks ds ↔ ∃ j : Nat, ks[j]? = some x ∧ ds[j]? = some 2
  | [], ds, x => by simp [sel]
  | k :: ks, [], x => by simp [sel]
  | k :: ks, d :: ds, x => by
    have ih := mem_sel ks ds x
    constructor
    · intro h
      unfold sel at h
      split at h
      · rename_i hd
        rcases List.mem_cons.1 h with rfl | h
        · exact ⟨0, by simp, by simp [hd]⟩
        · obtain ⟨j, h1, h2⟩ := ih.1 h
          exact ⟨j + 1, by simpa using h1, by simpa using h2⟩
      · obtain ⟨j, h1, h2⟩ := ih.1 h
        exact ⟨j + 1, by simpa using h1, by simpa using h2⟩
    · rintro ⟨j, h1, h2⟩
      unfold sel
      cases j with
      | zero =>
        have e1 : k = x := by simpa using h1
        have e2 : d = 2 := by simpa using h2
        simp [e1, e2]
      | succ j =>
        have := ih.2 ⟨j, by simpa using h1, by simpa using h2⟩
        split <;> simp [this]
theorem nodup_sel : ∀ (ks : List Str) (ds : List Int), ks.Nodup → (sel ks ds).Nodup
  | [], ds, _ => by simp [sel]
  | k :: ks, [], _ => by simp [sel]
  | k :: ks, d :: ds, h => by
    have h' := List.nodup_cons.1 h
    have ih := nodup_sel ks ds h'.2
    unfold sel
    split
    · refine List.nodup_cons.2 ⟨fun hm => ?_, ih⟩
      obtain ⟨j, h1, _⟩ := (mem_sel ks ds k).1 hm
      exact h'.1 (List.mem_of_getElem? h1)
    · exact ih

/-- What the range has collected. -/
def Coll (ks : List Str) (ds : List Int) (left : Lit → Bool) (ss : List Str) : Prop := ss.Nodup ∧ ∀ x, x ∈ ss ↔ (left (slit x) = false ∧ ∃ j : Nat, ks[j]? = some x ∧ ds[j]? = some 2)
theorem Coll.start (ks : List Str) (ds : List Int) (left : Lit → Bool) (h : ∀ x ∈ ks, left (slit x) = true) : Coll ks ds left [] :=
  ⟨by simp, fun x => by
    constructor
    · intro h'; simp at h'
    · rintro ⟨h1, j, h2, _⟩
      rw [h x (List.mem_of_getElem? h2)] at h1; cases h1⟩
theorem Coll.skip {ks : List Str} {ds : List Int} {left : Lit → Bool} {ss : List Str} (h : Coll ks ds left ss) (hn : ks.Nodup) {j : Nat} {x : Str} {d : Int} (hx : ks[j]? = some x) (hd : ds[j]? = some d) (hne : d ≠ 2) (hl : left (slit x) = true) : Coll ks ds (fun z => left z && !z.sameKey (slit x)) ss := by
  refine ⟨h.1, fun y => ?_⟩
  rw [h.2 y]
  by_cases hy : y = x
  · subst hy
    constructor
    · rintro ⟨h1, _⟩; rw [hl] at h1; cases h1
    · rintro ⟨_, i, h2, h3⟩
      have : i = j := (List.getElem?_inj (List.getElem?_eq_some_iff.1 h2).1 hn).1 (h2.trans hx.symm)
      subst this
      rw [hd] at h3
      exact absurd (Option.some.inj h3) hne
  · simp [hy, Lit.sameKey]
theorem Coll.take {ks : List Str} {ds : List Int} {left : Lit → Bool} {ss : List Str} (h : Coll ks ds left ss) {j : Nat} {x : Str} (hx : ks[j]? = some x) (hd : ds[j]? = some 2) (hl : left (slit x) = true) : Coll ks ds (fun z => left z && !z.sameKey (slit x)) (ss ++ [x]) := by
  have hnew : x ∉ ss := fun hm => by have := ((h.2 x).1 hm).1; rw [hl] at this; cases this
  refine ⟨List.nodup_append.2 ⟨h.1, by simp, fun a ha b hb => by simp at hb; subst hb; exact fun e => hnew (e ▸ ha)⟩, fun y => ?_⟩
  by_cases hy : y = x
  · subst hy
    constructor
    · intro _; exact ⟨by simp [Lit.sameKey], j, hx, hd⟩
    · intro _; simp
  · simp [h.2 y, hy, Lit.sameKey]
theorem Coll.perm {ks : List Str} {ds : List Int} {left : Lit → Bool} {ss : List Str} (h : Coll ks ds left ss) (hn : ks.Nodup) (hl : ∀ kl, left kl = false) : ss.Perm (sel ks ds) := by
  refine (List.perm_ext_iff_of_nodup h.1 (nodup_sel ks ds hn)).2 fun x => ?_
  rw [h.2 x, mem_sel]
  simp [hl]

/-! ### Buckets -/
abbrev oS (c : Int) (B : Nat) : Obj := .cells #[.int .i32 0, .int .u32 0, .int .u32 0, .int .u32 0, .int .i32 c, .int .i32 0, .map (some B), .pointer none] 66
theorem store_cells {w : World} {s B : Nat} {c : Int} (h : w.heap[s]? = some (oS c B)) : w.cell? ⟨s, 0, none⟩ = some (.int .i32 0) ∧ w.cell? ⟨s, 0 + 2, none⟩ = some (.int .u32 0) ∧ w.cell? ⟨s, 0 + 3, none⟩ = some (.int .u32 0) ∧ w.cell? ⟨s, 0 + 4, none⟩ = some (.int .i32 c) ∧
    w.cell? ⟨s, 6, none⟩ = some (.map (some B)) ∧ w.cell? ⟨s, 7, none⟩ = some (.pointer none) ∧ w.frozen? ⟨s, 0 + 4, none⟩ = false := by
  refine ⟨?_, ?_, ?_, ?_, ?_, ?_, ?_⟩
  · simp [World.cell?, h]
  · simp [World.cell?, h]
  · simp [World.cell?, h]
  · simp [World.cell?, h]
  · simp [World.cell?, h]
  · simp [World.cell?, h]
  · simp [World.frozen?, h]
theorem store_set {w : World} {s B : Nat} {c : Int} (h : w.heap[s]? = some (oS c B)) (c' : Int) : (w.setCell ⟨s, 4, none⟩ (.int .i32 c')).heap[s]? = some (oS c' B) := by
  simp [World.setCell, Array.getElem?_modify, h]

structure BInv (w : World) (s B r n : Nat) (D : DataW Unit) (ks : List Str) (ds : List Int) (v : Value) (left : Lit → Bool) (cnt : Nat) (ss : List Str) (wr : World) : Prop where
  rg : wr.ranges Yba.prog 9 ptrElem B r n D left cnt
  st : wr.heap[s]? = some (oS 1 B)
  gr : w.grownBy wr (some s)
  col : Coll ks ds left ss
  row : wr.ownsRow w.heap.size 9 1 v ss.length (scells ss)
  nil : ss = [] → v = .slice none 0 0

section
variable {w : World} {s B r n : Nat} {D : DataW Unit} {ks : List Str} {ds : List Int} {v : Value} {left : Lit → Bool} {cnt : Nat} {ss : List Str} {wr : World}
theorem BInv.app (h : BInv w s B r n D ks ds v left cnt ss wr) (hsl : s < w.heap.size) (hn : ss.length ≤ 1048576) {left' : Lit → Bool} {x : Str} (hc : Coll ks ds left' (ss ++ [x])) {w3 : World} {cnt3 : Nat} (hr3 : w3.ranges Yba.prog 9 ptrElem B r n D left' cnt3) (hg3 : wr.grownBy w3 (some r)) (hrw : w.heap.size ≤ r) :
    ∃ g cap w', (Builtin.append_ #[47, 47] 47 #[v, .slice (some ⟨w3.heap.size, 0, none⟩) 1 1]).run Yba.prog (w3.alloc (.cells #[encStr x] 9)) = .ok (.slice (some ⟨g, 0, none⟩) (ss.length + 1) cap) w' ∧
      BInv w s B r n D ks ds (.slice (some ⟨g, 0, none⟩) (ss.length + 1) cap) left' cnt3 (ss ++ [x]) w' ∧ w'.rangeLeft B r = cnt3 := by
  obtain ⟨i0, hi, hz0, hz1, hz2⟩ := info_parts info9
  have hrow3 := (h.row.kept hg3 (ne_sym (row_ne_iter h.row h.rg))).kept (World.grownBy_alloc w3 (.cells #[encStr x] 9) none) (by cases v.ownBlock <;> simp)
  have hra := hr3.alloc (.cells #[encStr x] 9)
  have hsz : w.heap.size ≤ w3.heap.size := Nat.le_trans h.gr.size hg3.size
  obtain ⟨g, cap, w', hrun, hown, hg, _, _⟩ := run_append_lies (w3.alloc (.cells #[encStr x] 9)) 47 47 w.heap.size 9 i0 _ 1 16 Yba.underlying47 hi hz0 hz1 hz2 rfl (by decide) v ss.length (scells ss) hrow3 ⟨w3.heap.size, 0, none⟩ 1 1 [encStr x] rfl
    (World.news_of_block (cs := #[encStr x]) (t := 9) (fr := (0, 0)) (MapKept.heap_alloc w3 _).1) (by simp [Value.oneCell']) (by decide) (by unfold maxLen; omega) (by omega) (by simp; omega) _ rfl
  have hra' := hra.kept hg (map_ne_row hra.owns hrow3) (row_ne_iter hrow3 hra)
  have hsr : s ≠ r := by omega
  have hge := row_ge h.row
  refine ⟨g, cap, w', hrun, ⟨hra', ?_, ?_, hc, ?_, by simp⟩, hra'.left_eq⟩
  · rw [hg.block s (by simp; omega) ?_, (MapKept.heap_alloc w3 _).2 s (by omega), hg3.block s (Nat.lt_of_lt_of_le hsl h.gr.size) (by simp; exact hsr)]
    · exact h.st
    · intro e
      have := hge s e.symm
      omega
  · refine ((h.gr.andThen hg3 (fun j hj => by cases hj; exact .inl hrw)).trans ((World.grownBy_alloc w3 _ none).but _)).andThen hg (fun j hj => .inl (hge j hj))
  · have e : scells (ss ++ [x]) = scells ss ++ [encStr x] := by simp [scells]
    rw [e, show (ss ++ [x]).length = ss.length + 1 by simp]
    exact hown

theorem BInv.skip (h : BInv w s B r n D ks ds v left cnt ss wr) (hsl : s < w.heap.size) {left' : Lit → Bool} (hc : Coll ks ds left' ss) {w3 : World} {cnt3 : Nat} (hr3 : w3.ranges Yba.prog 9 ptrElem B r n D left' cnt3) (hg3 : wr.grownBy w3 (some r)) (hrw : w.heap.size ≤ r) :
    BInv w s B r n D ks ds v left' cnt3 ss w3 := by
  refine ⟨hr3, ?_, h.gr.andThen hg3 (fun j hj => by cases hj; exact .inl hrw), hc, h.row.kept hg3 (ne_sym (row_ne_iter h.row h.rg)), h.nil⟩
  rw [hg3.block s (Nat.lt_of_lt_of_le hsl h.gr.size) (by simp; omega)]
  exact h.st
end
end Go.Proofs.Ybulkecbe.B
