import Derived.Test.YbulkecbeRows
import Derived.WalkKit
import Derived.ProofKit
import Derived.Below
import Derived.Maps.OwnOps
import Derived.Maps.OwnSet
import Derived.Maps.RangeWalk
import Derived.Deep.AppendLies
import Derived.Deep.Draws
namespace Go.Proofs.Ybulkecbe
open Go.ChangeShapes Go.WideShapes Go.ChangeAt Go.RowKit Go.Maps

theorem hide {p : Prop} (h : p) : Hid p := h
theorem unhide {p : Prop} (h : Hid p) : p := h

/-! ### Maps whose elements are pointers to whole blocks: what such an element reads as is the block's number -/
abbrev Pt (b : Nat) : Value := .pointer (some ⟨b, 0, none⟩)
abbrev blk (b : Nat) : DataW Unit := .lit (.int .i64 b)
def ptrElem : Value → Option (DataW Unit × List MemPlace)
  | .pointer none => some (.nil, [])
  | .pointer (some a) => if a = ⟨a.block, 0, none⟩ then some (blk a.block, []) else none
  | _ => none
theorem ptrElem_nil : ptrElem (.pointer none) = some (.nil, []) := rfl
theorem ptrElem_mk (b : Nat) : ptrElem (Pt b) = some (blk b, []) := by simp [ptrElem]
theorem ptrElem_inv {v : Value} {b : Nat} {ps : List MemPlace} (h : ptrElem v = some (blk b, ps)) : v = Pt b := by
  unfold ptrElem at h
  split at h
  · simp at h
  · rename_i a
    split at h
    · rename_i ha
      simp at h
      obtain ⟨h1, _⟩ := h
      have : a.block = b := by omega
      rw [ha, this]
    · cases h
  · cases h

/-! ### A map, as the list of its keys and of what lies at each -/
structure View (D : DataW Unit) (ks : List Lit) (ds : List (DataW Unit)) : Prop where
  tidy : Tidy D
  look : ∀ (j : Nat) kl d, ks[j]? = some kl → ds[j]? = some d → ∀ z, D.atKey kl z = d
  has : ∀ kl, Maps.has D kl = true ↔ kl ∈ ks
  size : Maps.size D = ks.length
  len : ds.length = ks.length
  nodup : ks.Nodup
  keys : ∀ kl ∈ ks, WideAt.IsKeyLit kl

theorem View.empty : View (.map []) [] [] :=
  ⟨tidy_empty, by simp, by intro kl; rw [has_eq]; simp, rfl, rfl, by simp, by simp⟩

/-- A key that was not there. -/
theorem View.new {D : DataW Unit} {ks : List Lit} {ds : List (DataW Unit)} (h : View D ks ds) {kl : Lit} (hk : WideAt.IsKeyLit kl) (hn : kl ∉ ks) (d : DataW Unit) : View (D.put kl d) (ks ++ [kl]) (ds ++ [d]) where
  tidy := h.tidy.put hk d
  look := by
    intro j x y hx hy z
    by_cases hj : j < ks.length
    · rw [List.getElem?_append_left hj] at hx
      rw [List.getElem?_append_left (by rw [h.len]; exact hj)] at hy
      have hne : x ≠ kl := fun e => hn (e ▸ List.mem_of_getElem? hx)
      rw [atKey_put_other hne]
      exact h.look j x y hx hy z
    · have hj' : j = ks.length := by
        have := (List.getElem?_eq_some_iff.1 hx).1
        simp at this; omega
      subst hj'
      have e1 : x = kl := by simpa using hx.symm
      have e2 : y = d := by
        rw [← h.len] at hy
        simpa using hy.symm
      rw [e1, e2]
      exact atKey_put_same h.tidy.isMap hk d z
  has := by
    intro x
    by_cases e : x = kl
    · subst e
      rw [has_put_same h.tidy.isMap hk]; simp
    · rw [has_put_other e, h.has]; simp [e]
  size := by
    have : Maps.has D kl = false := by
      cases hh : Maps.has D kl with
      | false => rfl
      | true => exact absurd ((h.has kl).1 hh) hn
    rw [size_put h.tidy, this]; simp [h.size]
  len := by simp [h.len]
  nodup := by
    rw [List.nodup_append]
    refine ⟨h.nodup, by simp, ?_⟩
    intro a ha b hb
    simp at hb; subst hb
    intro e; subst e; exact hn ha
  keys := by
    intro x hx
    simp at hx
    rcases hx with hx | rfl
    · exact h.keys x hx
    · exact hk

/-- A key that was there. -/
theorem View.old {D : DataW Unit} {ks : List Lit} {ds : List (DataW Unit)} (h : View D ks ds) {kl : Lit} {j : Nat} (hj : ks[j]? = some kl) (d : DataW Unit) : View (D.put kl d) ks (ds.set j d) := by
  have hm : kl ∈ ks := List.mem_of_getElem? hj
  have hk := h.keys kl hm
  have hlt : j < ks.length := (List.getElem?_eq_some_iff.1 hj).1
  exact {
  tidy := h.tidy.put hk d
  look := by
    intro i x y hx hy z
    by_cases e : i = j
    · subst e
      have e1 : x = kl := by rw [hj] at hx; exact (Option.some.inj hx).symm
      have e2 : y = d := by
        rw [List.getElem?_set_self (by rw [h.len]; exact hlt)] at hy
        exact (Option.some.inj hy).symm
      rw [e1, e2]
      exact atKey_put_same h.tidy.isMap hk d z
    · rw [List.getElem?_set_ne (fun he => e he.symm)] at hy
      have hne : x ≠ kl := by
        intro he; subst he
        exact e ((List.getElem?_inj (by exact (List.getElem?_eq_some_iff.1 hx).1) h.nodup).1 (hx.trans hj.symm))
      rw [atKey_put_other hne]
      exact h.look i x y hx hy z
  has := by
    intro x
    by_cases e : x = kl
    · subst e
      rw [has_put_same h.tidy.isMap hk]; simp [hm]
    · rw [has_put_other e, h.has]
  size := by
    rw [size_put h.tidy, (h.has kl).2 hm]; simp [h.size]
  len := by simp [h.len]
  nodup := h.nodup
  keys := h.keys }

theorem View.not_has {D : DataW Unit} {ks : List Lit} {ds : List (DataW Unit)} (h : View D ks ds) {kl : Lit} (hn : Maps.has D kl = false) : kl ∉ ks := by
  intro hm; rw [(h.has kl).2 hm] at hn; cases hn

/-! ### Rows and maps of different make never lie in one block -/
theorem map_ne_row {w : World} {P : Program} {k : TypeId} {R : Value → Option (DataW Unit × List MemPlace)} {b n : Nat} {D : DataW Unit} (h : w.ownsMap P k R b n D) {base : Nat} {e : TypeId} {size : Nat} {v : Value} {m : Nat} {xs : List Value}
    (r : w.ownsRow base e size v m xs) : some b ≠ v.ownBlock := by
  obtain ⟨es, clock, hb, _⟩ := h
  rcases r.2 with ⟨rfl, _⟩ | ⟨g, cap, cur, rfl, _, hg, _⟩
  · simp [Value.ownBlock]
  · simp only [Value.ownBlock]
    intro he
    have : b = g := by simpa using he
    subst this
    rw [hb] at hg; cases hg

theorem row_ne_row {w : World} {base base' : Nat} {e e' : TypeId} {size size' : Nat} {v v' : Value} {m m' : Nat} {xs xs' : List Value}
    (r : w.ownsRow base e size v m xs) (r' : w.ownsRow base' e' size' v' m' xs') (hne : e ≠ e') : v.ownBlock = none ∨ v.ownBlock ≠ v'.ownBlock := by
  rcases r.2 with ⟨rfl, _⟩ | ⟨g, cap, cur, rfl, _, hg, _⟩
  · exact .inl rfl
  rcases r'.2 with ⟨rfl, _⟩ | ⟨g', cap', cur', rfl, _, hg', _⟩
  · exact .inr (by simp [Value.ownBlock])
  · right
    simp only [Value.ownBlock]
    intro he
    have : g = g' := by simpa using he
    subst this
    rw [hg] at hg'
    injection hg' with h1
    injection h1 with h2 h3
    exact hne h3

/-- Blocks of cells whose element type is among T stand as they were. -/
def Keeps (T : TypeId → Prop) (w w' : World) : Prop := ∀ (k : Nat) cs e fr, w.heap[k]? = some (Obj.cells cs e fr) → T e → w'.heap[k]? = some (Obj.cells cs e fr)
theorem Keeps.refl (T : TypeId → Prop) (w : World) : Keeps T w w := fun _ _ _ _ h _ => h
theorem Keeps.trans {T : TypeId → Prop} {a b c : World} (h : Keeps T a b) (h' : Keeps T b c) : Keeps T a c := fun k cs e fr h1 h2 => h' k cs e fr (h k cs e fr h1 h2) h2
theorem Keeps.of_none {T : TypeId → Prop} {w w' : World} (h : w.grownBy w' none) : Keeps T w w' := fun k cs e fr h1 _ => by
  rw [h.block k (Array.getElem?_eq_some_iff.1 h1).1 (by simp)]; exact h1
theorem Keeps.of_map {T : TypeId → Prop} {w w' : World} {P : Program} {k : TypeId} {R : Value → Option (DataW Unit × List MemPlace)} {b n : Nat} {D : DataW Unit} (hm : w.ownsMap P k R b n D) (h : w.grownBy w' (some b)) : Keeps T w w' := fun i cs e fr h1 _ => by
  rw [h.block i (Array.getElem?_eq_some_iff.1 h1).1 ?_]
  · exact h1
  · intro he
    have : i = b := by simpa using he
    subst this
    obtain ⟨es, clock, hb, _⟩ := hm
    rw [hb] at h1; cases h1
theorem Keeps.of_row {T : TypeId → Prop} {w w' : World} {base : Nat} {e : TypeId} {size : Nat} {v : Value} {m : Nat} {xs : List Value} (r : w.ownsRow base e size v m xs) (hT : ¬ T e) (h : w.grownBy w' v.ownBlock) : Keeps T w w' := fun i cs e' fr h1 h2 => by
  rw [h.block i (Array.getElem?_eq_some_iff.1 h1).1 ?_]
  · exact h1
  · intro he
    rcases r.2 with ⟨rfl, _⟩ | ⟨g, cap, cur, rfl, _, hg, _⟩
    · simp [Value.ownBlock] at he
    · have : i = g := by simpa [Value.ownBlock] using he
      subst this
      rw [hg] at h1
      injection h1 with h3
      injection h3 with h4 h5
      exact hT (h5 ▸ h2)

/-- A store into a row is a growth of that row alone. -/
theorem grown_setCell (w : World) (g i : Nat) (u : Value) : w.grownBy (w.setCell ⟨g, i, none⟩ u) (some g) :=
  ⟨rfl, rfl, rfl, by simp, fun k _ hne => Below.heap_setCell _ _ _ _ (fun e => hne (by rw [e]))⟩
theorem grown_drewN (w : World) (n : Nat) : w.grownBy (w.drewN n) none := ⟨rfl, rfl, rfl, Nat.le_refl _, fun _ _ _ => rfl⟩
end Go.Proofs.Ybulkecbe
