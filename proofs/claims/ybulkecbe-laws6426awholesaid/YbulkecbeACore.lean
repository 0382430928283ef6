import Derived.Test.YbulkecbeAKeys
namespace Go.Proofs.Ybulkecbe.A
open Go.ChangeShapes Go.WideShapes Go.ChangeAt Go.RowKit Go.Maps

/-- What a layout counts for: nothing where its meta is nil, else what the meta's fourth field says. -/
def Foot (w : World) (p : Nat) (f : Int) : Prop :=
  (∃ x, w.heap[p]? = some (.cells #[.pointer none, x] 100 (0, 0)) ∧ f = 0) ∨
  ∃ x q cs, w.heap[p]? = some (.cells #[Pt q, x] 100 (0, 0)) ∧ w.heap[q]? = some (.cells cs 104 (0, 0)) ∧ cs[3]? = some (.int .i64 f)

def IsLay (e : TypeId) : Prop := e = 100 ∨ e = 104
theorem Foot.keep {w w' : World} {p : Nat} {f : Int} (h : Foot w p f) (k : Keeps IsLay w w') : Foot w' p f := by
  rcases h with ⟨x, h1, h2⟩ | ⟨x, q, cs, h1, h2, h3⟩
  · exact .inl ⟨x, k _ _ _ _ h1 (.inl rfl), h2⟩
  · exact .inr ⟨x, q, cs, k _ _ _ _ h1 (.inl rfl), k _ _ _ _ h2 (.inr rfl), h3⟩

/-- An entry of the input. -/
structure Entry where
  key : Key
  foot : Int
  ref : Bool
structure Entry.At (e : Entry) (w : World) (b o : Nat) : Prop where
  c0 : w.cell? ⟨b, o, none⟩ = some (.int .u64 e.key.dev)
  c1 : w.cell? ⟨b, o + 1, none⟩ = some (.int .u64 e.key.ino)
  c2 : w.cell? ⟨b, o + 2, none⟩ = some (.int .i64 e.key.siz)
  c3 : w.cell? ⟨b, o + 3, none⟩ = some (.int .i64 e.foot)
  c4 : w.cell? ⟨b, o + 4, none⟩ = some (.bool e.ref)
  ok : e.key.Ok
  fok : (Lit.int .i64 e.foot).wf = true
def Input (w : World) (b off len : Nat) : Prop := ∀ i, i < len → ∃ e : Entry, e.At w b (off + i * 5)

def kcells (ks : List Key) : List Value := ks.flatMap Key.cells
def pcells (ps : List Nat) : List Value := ps.map Pt
def fcells (fs : List Int) : List Value := fs.map (.int .i64)

/-- WHAT THE BUILD OWNS, piece by piece: the map 'm' in block B, 'idx' in block B + 1, the three rows, and what the layouts count for. -/
structure Core (w0 : World) (B k k' : Nat) (Dm Di : DataW Unit) (kv lv fv : Value) (nk nl nf : Nat) (kx lx fx : List Value) (ps : List Nat) (fs : List Int) (w : World) : Prop where
  below : Below B w0 w
  size : B + 2 ≤ w.heap.size
  m : w.ownsMap Yba.prog 43 ptrElem B k Dm
  i : w.ownsMap Yba.prog 43 (plainElem Yba.prog 3) (B + 1) k' Di
  kr : w.ownsRow (B + 2) 43 5 kv nk kx
  lr : w.ownsRow (B + 2) 44 1 lv nl lx
  fr : w.ownsRow (B + 2) 3 1 fv nf fx
  foot : ∀ (j : Nat) p f, ps[j]? = some p → fs[j]? = some f → Foot w p f

section
variable {w0 : World} {B k k' : Nat} {Dm Di : DataW Unit} {kv lv fv : Value} {nk nl nf : Nat} {kx lx fx : List Value} {ps : List Nat} {fs : List Int} {w w' : World}

theorem Core.none (c : Core w0 B k k' Dm Di kv lv fv nk nl nf kx lx fx ps fs w) (hg : w.grownBy w' none) : Core w0 B k k' Dm Di kv lv fv nk nl nf kx lx fx ps fs w' where
  below := c.below.grown hg (by have := c.size; omega) (by simp)
  size := Nat.le_trans c.size hg.size
  m := c.m.kept hg (by simp)
  i := c.i.kept hg (by simp)
  kr := c.kr.kept hg (by cases kv.ownBlock <;> simp)
  lr := c.lr.kept hg (by cases lv.ownBlock <;> simp)
  fr := c.fr.kept hg (by cases fv.ownBlock <;> simp)
  foot := fun j p f h1 h2 => (c.foot j p f h1 h2).keep (Keeps.of_none hg)

theorem ne_sym {v : Value} {b : Nat} (h : some b ≠ v.ownBlock) : v.ownBlock = Option.none ∨ v.ownBlock ≠ some b := by
  right; exact fun e => h e.symm

theorem Core.upM (c : Core w0 B k k' Dm Di kv lv fv nk nl nf kx lx fx ps fs w) (hg : w.grownBy w' (some B)) {k2 : Nat} {D2 : DataW Unit} (hm : w'.ownsMap Yba.prog 43 ptrElem B k2 D2) : Core w0 B k2 k' D2 Di kv lv fv nk nl nf kx lx fx ps fs w' where
  below := c.below.grown hg (by have := c.size; omega) (by simp)
  size := Nat.le_trans c.size hg.size
  m := hm
  i := c.i.kept hg (by simp)
  kr := c.kr.kept hg (ne_sym (map_ne_row c.m c.kr))
  lr := c.lr.kept hg (ne_sym (map_ne_row c.m c.lr))
  fr := c.fr.kept hg (ne_sym (map_ne_row c.m c.fr))
  foot := fun j p f h1 h2 => (c.foot j p f h1 h2).keep (Keeps.of_map c.m hg)

theorem Core.upI (c : Core w0 B k k' Dm Di kv lv fv nk nl nf kx lx fx ps fs w) (hg : w.grownBy w' (some (B + 1))) {k2 : Nat} {D2 : DataW Unit} (hi : w'.ownsMap Yba.prog 43 (plainElem Yba.prog 3) (B + 1) k2 D2) : Core w0 B k k2 Dm D2 kv lv fv nk nl nf kx lx fx ps fs w' where
  below := c.below.grown hg (by have := c.size; omega) (by simp)
  size := Nat.le_trans c.size hg.size
  m := c.m.kept hg (by simp)
  i := hi
  kr := c.kr.kept hg (ne_sym (map_ne_row c.i c.kr))
  lr := c.lr.kept hg (ne_sym (map_ne_row c.i c.lr))
  fr := c.fr.kept hg (ne_sym (map_ne_row c.i c.fr))
  foot := fun j p f h1 h2 => (c.foot j p f h1 h2).keep (Keeps.of_map c.i hg)

theorem row_ge {w : World} {base : Nat} {e : TypeId} {size : Nat} {v : Value} {n : Nat} {xs : List Value} (h : w.ownsRow base e size v n xs) : ∀ j, v.ownBlock = some j → base ≤ j := fun j hj => (h.lt j hj).1

theorem Core.upK (c : Core w0 B k k' Dm Di kv lv fv nk nl nf kx lx fx ps fs w) (hg : w.grownBy w' kv.ownBlock) {v2 : Value} {n2 : Nat} {x2 : List Value} (hr : w'.ownsRow (B + 2) 43 5 v2 n2 x2) : Core w0 B k k' Dm Di v2 lv fv n2 nl nf x2 lx fx ps fs w' where
  below := c.below.grown hg (by have := c.size; omega) (fun j hj => by have := row_ge c.kr j hj; omega)
  size := Nat.le_trans c.size hg.size
  m := c.m.kept hg (map_ne_row c.m c.kr)
  i := c.i.kept hg (map_ne_row c.i c.kr)
  kr := hr
  lr := c.lr.kept hg (row_ne_row c.lr c.kr (by decide))
  fr := c.fr.kept hg (row_ne_row c.fr c.kr (by decide))
  foot := fun j p f h1 h2 => (c.foot j p f h1 h2).keep (Keeps.of_row c.kr (by simp [IsLay]) hg)

theorem Core.upL (c : Core w0 B k k' Dm Di kv lv fv nk nl nf kx lx fx ps fs w) (hg : w.grownBy w' lv.ownBlock) {v2 : Value} {n2 : Nat} {x2 : List Value} (hr : w'.ownsRow (B + 2) 44 1 v2 n2 x2) : Core w0 B k k' Dm Di kv v2 fv nk n2 nf kx x2 fx ps fs w' where
  below := c.below.grown hg (by have := c.size; omega) (fun j hj => by have := row_ge c.lr j hj; omega)
  size := Nat.le_trans c.size hg.size
  m := c.m.kept hg (map_ne_row c.m c.lr)
  i := c.i.kept hg (map_ne_row c.i c.lr)
  kr := c.kr.kept hg (row_ne_row c.kr c.lr (by decide))
  lr := hr
  fr := c.fr.kept hg (row_ne_row c.fr c.lr (by decide))
  foot := fun j p f h1 h2 => (c.foot j p f h1 h2).keep (Keeps.of_row c.lr (by simp [IsLay]) hg)

theorem Core.upF (c : Core w0 B k k' Dm Di kv lv fv nk nl nf kx lx fx ps fs w) (hg : w.grownBy w' fv.ownBlock) {v2 : Value} {n2 : Nat} {x2 : List Value} (hr : w'.ownsRow (B + 2) 3 1 v2 n2 x2) : Core w0 B k k' Dm Di kv lv v2 nk nl n2 kx lx x2 ps fs w' where
  below := c.below.grown hg (by have := c.size; omega) (fun j hj => by have := row_ge c.fr j hj; omega)
  size := Nat.le_trans c.size hg.size
  m := c.m.kept hg (map_ne_row c.m c.fr)
  i := c.i.kept hg (map_ne_row c.i c.fr)
  kr := c.kr.kept hg (row_ne_row c.kr c.fr (by decide))
  lr := c.lr.kept hg (row_ne_row c.lr c.fr (by decide))
  fr := hr
  foot := fun j p f h1 h2 => (c.foot j p f h1 h2).keep (Keeps.of_row c.fr (by simp [IsLay]) hg)

theorem Core.foots (c : Core w0 B k k' Dm Di kv lv fv nk nl nf kx lx fx ps fs w) {ps2 : List Nat} {fs2 : List Int} (h : ∀ (j : Nat) p f, ps2[j]? = some p → fs2[j]? = some f → Foot w p f) : Core w0 B k k' Dm Di kv lv fv nk nl nf kx lx fx ps2 fs2 w :=
  ⟨c.below, c.size, c.m, c.i, c.kr, c.lr, c.fr, h⟩
end

/-- WHAT HOLDS behind k entries: the keys in first-seen order, the layout each ends with and its footprint. -/
structure Inv (w0 : World) (B : Nat) (kv lv fv : Value) (ks : List Key) (ps : List Nat) (fs : List Int) (k : Nat) (w : World) : Prop where
  core : ∃ Dm Di, Core w0 B k k Dm Di kv lv fv ks.length ks.length ks.length (kcells ks) (pcells ps) (fcells fs) ps fs w ∧
    View Dm (ks.map Key.lit) (ps.map blk) ∧ View Di (ks.map Key.lit) ((List.range ks.length).map blk)
  plen : ps.length = ks.length
  flen : fs.length = ks.length
  ok : ∀ x ∈ ks, x.Ok
  fok : ∀ f ∈ fs, (Lit.int .i64 f).wf = true
  len : ks.length ≤ k

theorem Inv.start (w0 : World) : Inv w0 w0.heap.size (.slice none 0 0) (.slice none 0 0) (.slice none 0 0) [] [] [] 0 ((w0.alloc (.map #[] 0)).alloc (.map #[] 0)) where
  core := ⟨.map [], .map [], ⟨((Below.refl _ _).alloc (Nat.le_refl _) _).alloc (by simp) _, by simp, (World.ownsMap_made _ _ _ _).alloc _, by
      have := World.ownsMap_made (w0.alloc (.map #[] 0)) Yba.prog 43 (plainElem (H := Unit) Yba.prog 3)
      simpa using this, World.ownsRow_nil _ _ _ _, World.ownsRow_nil _ _ _ _, World.ownsRow_nil _ _ _ _, by simp⟩, View.empty, View.empty⟩
  plen := rfl
  flen := rfl
  ok := by simp
  fok := by simp
  len := Nat.le_refl _

/-- The key is among those seen. -/
theorem View.index {D : DataW Unit} {ks : List Key} {ds : List (DataW Unit)} (h : View D (ks.map Key.lit) ds) {x : Key} (hx : x.Ok) (hok : ∀ y ∈ ks, y.Ok) : Maps.has D x.lit = true ↔ x ∈ ks := by
  rw [h.has]
  constructor
  · intro hm
    obtain ⟨y, hy, e⟩ := List.mem_map.1 hm
    exact key_inj (hok y hy) hx e ▸ hy
  · exact fun hm => List.mem_map_of_mem hm
end Go.Proofs.Ybulkecbe.A
