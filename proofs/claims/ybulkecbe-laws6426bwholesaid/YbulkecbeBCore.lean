import Derived.Test.YbulkecbeMaps
import Derived.OwnWalk
import Derived.Sort.KeysCollected
namespace Go.Proofs.Ybulkecbe.B
open Go.ChangeShapes Go.WideShapes Go.ChangeAt Go.RowKit Go.Maps

abbrev Str := List UInt8
abbrev slit (x : Str) : Lit := .string x
/-- What a series map's element reads as: nothing is asked of it. -/
def anyE (_ : Value) : Option (DataW Unit × List MemPlace) := some (.nil, [])
theorem law9 : Keyed Yba.prog 9 := string_keyed Yba.underlying9
theorem law51 : Keyed Yba.prog 51 := string_keyed Yba.underlying51
theorem key9 {x : Str} (h : x.length ≤ maxLen) : keyOf Yba.prog 9 (encStr x) = some (slit x) := by
  simp [keyOf, Yba.underlying9, mapKey, ByteArray.size, h]
theorem slit_key {x : Str} (h : x.length ≤ maxLen) : WideAt.IsKeyLit (slit x) := law9.key (key9 h)
theorem slit_inj {x y : Str} (h : slit x = slit y) : x = y := by simpa using h

/-- How many entries a bucket of kind d has. -/
def held (d : Int) : Nat := if d = 2 then 1 else 0
/-- A bucket's series map. -/
def Ser (w : World) (B : Nat) (sv : Value) (d : Int) : Prop :=
  (sv = .map none ∧ d ≠ 2) ∨ ∃ m n D, sv = .map (some m) ∧ m ≠ B ∧ w.ownsMap Yba.prog 51 anyE m n D ∧ Maps.size D = held d
abbrev oB (x : Str) (sv : Value) : Obj := .cells #[encStr x, .int .u64 1, .pointer none, .int .i32 0, .int .u32 0, .int .u32 0, .int .u32 0, .int .i32 0, .int .i32 0, sv, .map none] 61
def Buck (w : World) (B p : Nat) (x : Str) (d : Int) : Prop := ∃ sv, w.heap[p]? = some (oB x sv) ∧ Ser w B sv d

/-- Blocks of buckets and maps other than B stand as they were. -/
def Stands (B : Nat) (w w' : World) : Prop := (∀ (k : Nat) cs fr, w.heap[k]? = some (Obj.cells cs 61 fr) → w'.heap[k]? = some (Obj.cells cs 61 fr)) ∧
  ∀ (k : Nat) es c, k ≠ B → w.heap[k]? = some (Obj.map es c) → w'.heap[k]? = some (Obj.map es c)
theorem Ser.keep {w w' : World} {B : Nat} {sv : Value} {d : Int} (h : Ser w B sv d) (s : Stands B w w') : Ser w' B sv d := by
  rcases h with h | ⟨m, n, D, h1, h2, ⟨es, c, hb, h3⟩, h4⟩
  · exact .inl h
  · exact .inr ⟨m, n, D, h1, h2, ⟨es, c, s.2 m es c h2 hb, h3⟩, h4⟩
theorem Buck.keep {w w' : World} {B p : Nat} {x : Str} {d : Int} (h : Buck w B p x d) (s : Stands B w w') : Buck w' B p x d := by
  obtain ⟨sv, h1, h2⟩ := h
  exact ⟨sv, s.1 _ _ _ h1, h2.keep s⟩
theorem Stands.of_none {B : Nat} {w w' : World} (h : w.grownBy w' none) : Stands B w w' :=
  ⟨fun k cs fr h1 => by rw [h.block k (Array.getElem?_eq_some_iff.1 h1).1 (by simp)]; exact h1, fun k es c _ h1 => by rw [h.block k (Array.getElem?_eq_some_iff.1 h1).1 (by simp)]; exact h1⟩
theorem Stands.of_map {w w' : World} {P : Program} {k : TypeId} {R : Value → Option (DataW Unit × List MemPlace)} {B n : Nat} {D : DataW Unit} (hm : w.ownsMap P k R B n D) (h : w.grownBy w' (some B)) : Stands B w w' := by
  obtain ⟨es', clock, hb, _⟩ := hm
  refine ⟨fun k cs fr h1 => ?_, fun k es c hk h1 => ?_⟩
  · rw [h.block k (Array.getElem?_eq_some_iff.1 h1).1 ?_]
    · exact h1
    · intro he
      have : k = B := by simpa using he
      subst this
      rw [hb] at h1; cases h1
  · rw [h.block k (Array.getElem?_eq_some_iff.1 h1).1 (by simpa using hk)]; exact h1
theorem Stands.of_cells {B : Nat} {w w' : World} {g : Nat} {cs0 : Array Value} {e : TypeId} {fr0 : Nat × Nat} (hg : w.heap[g]? = some (.cells cs0 e fr0)) (hT : e ≠ 61) (h : w.grownBy w' (some g)) : Stands B w w' := by
  refine ⟨fun k cs fr h1 => ?_, fun k es c hk h1 => ?_⟩
  · rw [h.block k (Array.getElem?_eq_some_iff.1 h1).1 ?_]
    · exact h1
    · intro he
      have : k = g := by simpa using he
      subst this
      rw [hg] at h1
      injection h1 with h3
      injection h3 with h4 h5
      exact hT h5
  · rw [h.block k (Array.getElem?_eq_some_iff.1 h1).1 ?_]
    · exact h1
    · intro he
      have : k = g := by simpa using he
      subst this
      rw [hg] at h1; cases h1
theorem Stands.of_row {B : Nat} {w w' : World} {base : Nat} {e : TypeId} {size : Nat} {v : Value} {m : Nat} {xs : List Value} (r : w.ownsRow base e size v m xs) (hT : e ≠ 61) (h : w.grownBy w' v.ownBlock) : Stands B w w' := by
  rcases r.2 with ⟨rfl, _⟩ | ⟨g, cap, cur, rfl, _, hg, _⟩
  · exact Stands.of_none (by simpa [Value.ownBlock] using h)
  · exact Stands.of_cells hg hT (by simpa [Value.ownBlock] using h)

def scells (ks : List Str) : List Value := ks.map encStr
def dcells (ds : List Int) : List Value := ds.map (.int .u8)

/-- WHAT THE LAW OWNS: the map of buckets in block B, the two rows. -/
structure Core (w0 : World) (B k : Nat) (D : DataW Unit) (kv dv : Value) (nk nd : Nat) (kx dx : List Value) (ks : List Str) (ds : List Int) (ps : List Nat) (w : World) : Prop where
  below : Below B w0 w
  size : B + 1 ≤ w.heap.size
  m : w.ownsMap Yba.prog 9 ptrElem B k D
  kr : w.ownsRow (B + 1) 9 1 kv nk kx
  dr : w.ownsRow (B + 1) 5 1 dv nd dx
  buck : ∀ (j : Nat) x d p, ks[j]? = some x → ds[j]? = some d → ps[j]? = some p → Buck w B p x d

section
variable {w0 : World} {B k : Nat} {D : DataW Unit} {kv dv : Value} {nk nd : Nat} {kx dx : List Value} {ks : List Str} {ds : List Int} {ps : List Nat} {w w' : World}

theorem ne_sym {v : Value} {b : Nat} (h : some b ≠ v.ownBlock) : v.ownBlock = Option.none ∨ v.ownBlock ≠ some b := by
  right; exact fun e => h e.symm
theorem row_ge {w : World} {base : Nat} {e : TypeId} {size : Nat} {v : Value} {n : Nat} {xs : List Value} (h : w.ownsRow base e size v n xs) : ∀ j, v.ownBlock = some j → base ≤ j := fun j hj => (h.lt j hj).1
theorem row_shape {w : World} {base : Nat} {e : TypeId} {size : Nat} {v : Value} {n : Nat} {xs : List Value} (h : w.ownsRow base e size v n xs) : ∃ a c, v = .slice a n c := by
  rcases h.2 with ⟨rfl, rfl⟩ | ⟨g, cap, cur, rfl, _⟩
  · exact ⟨none, 0, rfl⟩
  · exact ⟨_, _, rfl⟩

theorem Core.none (c : Core w0 B k D kv dv nk nd kx dx ks ds ps w) (hg : w.grownBy w' none) : Core w0 B k D kv dv nk nd kx dx ks ds ps w' where
  below := c.below.grown hg (by have := c.size; omega) (by simp)
  size := Nat.le_trans c.size hg.size
  m := c.m.kept hg (by simp)
  kr := c.kr.kept hg (by cases kv.ownBlock <;> simp)
  dr := c.dr.kept hg (by cases dv.ownBlock <;> simp)
  buck := fun j x d p h1 h2 h3 => (c.buck j x d p h1 h2 h3).keep (Stands.of_none hg)

theorem Core.upM (c : Core w0 B k D kv dv nk nd kx dx ks ds ps w) (hg : w.grownBy w' (some B)) {k2 : Nat} {D2 : DataW Unit} (hm : w'.ownsMap Yba.prog 9 ptrElem B k2 D2) : Core w0 B k2 D2 kv dv nk nd kx dx ks ds ps w' where
  below := c.below.grown hg (by have := c.size; omega) (by simp)
  size := Nat.le_trans c.size hg.size
  m := hm
  kr := c.kr.kept hg (ne_sym (map_ne_row c.m c.kr))
  dr := c.dr.kept hg (ne_sym (map_ne_row c.m c.dr))
  buck := fun j x d p h1 h2 h3 => (c.buck j x d p h1 h2 h3).keep (Stands.of_map c.m hg)

theorem Core.upK (c : Core w0 B k D kv dv nk nd kx dx ks ds ps w) (hg : w.grownBy w' kv.ownBlock) {v2 : Value} {n2 : Nat} {x2 : List Value} (hr : w'.ownsRow (B + 1) 9 1 v2 n2 x2) : Core w0 B k D v2 dv n2 nd x2 dx ks ds ps w' where
  below := c.below.grown hg (by have := c.size; omega) (fun j hj => by have := row_ge c.kr j hj; omega)
  size := Nat.le_trans c.size hg.size
  m := c.m.kept hg (map_ne_row c.m c.kr)
  kr := hr
  dr := c.dr.kept hg (row_ne_row c.dr c.kr (by decide))
  buck := fun j x d p h1 h2 h3 => (c.buck j x d p h1 h2 h3).keep (Stands.of_row c.kr (by decide) hg)

theorem Core.upD (c : Core w0 B k D kv dv nk nd kx dx ks ds ps w) (hg : w.grownBy w' dv.ownBlock) {v2 : Value} {n2 : Nat} {x2 : List Value} (hr : w'.ownsRow (B + 1) 5 1 v2 n2 x2) : Core w0 B k D kv v2 nk n2 kx x2 ks ds ps w' where
  below := c.below.grown hg (by have := c.size; omega) (fun j hj => by have := row_ge c.dr j hj; omega)
  size := Nat.le_trans c.size hg.size
  m := c.m.kept hg (map_ne_row c.m c.dr)
  kr := c.kr.kept hg (row_ne_row c.kr c.dr (by decide))
  dr := hr
  buck := fun j x d p h1 h2 h3 => (c.buck j x d p h1 h2 h3).keep (Stands.of_row c.dr (by decide) hg)

theorem Core.bucks (c : Core w0 B k D kv dv nk nd kx dx ks ds ps w) {ks2 : List Str} {ds2 : List Int} {ps2 : List Nat} (h : ∀ (j : Nat) x d p, ks2[j]? = some x → ds2[j]? = some d → ps2[j]? = some p → Buck w B p x d) : Core w0 B k D kv dv nk nd kx dx ks2 ds2 ps2 w :=
  ⟨c.below, c.size, c.m, c.kr, c.dr, h⟩
end

/-- WHAT HOLDS behind k names. -/
structure Inv (w0 : World) (B : Nat) (kv dv : Value) (ks : List Str) (ds : List Int) (ps : List Nat) (k : Nat) (w : World) : Prop where
  core : ∃ D, Core w0 B k D kv dv ks.length ks.length (scells ks) (dcells ds) ks ds ps w ∧ View D (ks.map slit) (ps.map blk)
  plen : ps.length = ks.length
  dlen : ds.length = ks.length
  ok : ∀ x ∈ ks, x.length ≤ maxLen
  dok : ∀ d ∈ ds, 0 ≤ d ∧ d < 3
  len : ks.length ≤ k
  nodup : ks.Nodup

theorem Inv.start (w0 : World) : Inv w0 w0.heap.size (.slice none 0 0) (.slice none 0 0) [] [] [] 0 (w0.alloc (.map #[] 0)) where
  core := ⟨.map [], ⟨(Below.refl _ _).alloc (Nat.le_refl _) _, by simp, World.ownsMap_made _ _ _ _, World.ownsRow_nil _ _ _ _, World.ownsRow_nil _ _ _ _, by simp⟩, View.empty⟩
  plen := rfl
  dlen := rfl
  ok := by simp
  dok := by simp
  len := Nat.le_refl _
  nodup := by simp

theorem info9 : (Yba.prog.info? 9).map (fun i => (i.zero, i.size, i.bytes)) = some (some (.string ⟨#[]⟩), 1, 16) := by kernel_rfl
theorem info5 : (Yba.prog.info? 5).map (fun i => (i.zero, i.size, i.bytes)) = some (some (.int .u8 0), 1, 1) := by kernel_rfl
theorem info52 : (Yba.prog.info? 52).map (fun i => (i.zero, i.size, i.bytes)) = some (some (.pointer none), 1, 8) := by kernel_rfl

/-- Between the store into the map and the round's end. -/
structure Mid (w0 : World) (B : Nat) (kv dv : Value) (nk nd : Nat) (kx dx : List Value) (ks : List Str) (ds : List Int) (ps : List Nat) (k : Nat) (x : Str) (d : Int) (p : Nat) (w : World) : Prop where
  core : ∃ D, Core w0 B (k + 1) (D.put (slit x) (blk p)) kv dv nk nd kx dx ks ds ps w ∧ View D (ks.map slit) (ps.map blk)
  buck : Buck w B p x d

section
variable {w0 : World} {B : Nat} {kv dv : Value} {nk nd : Nat} {kx dx : List Value} {ks : List Str} {ds : List Int} {ps : List Nat} {k : Nat} {x : Str} {d : Int} {p : Nat} {w : World}

theorem step1 {wr W : World} (hinv : Inv w0 B kv dv ks ds ps k wr) (hx : x.length ≤ maxLen) (hg : wr.grownBy W none) (hB : Buck W B p x d) (hk : k < maxLen) :
    ∃ w5, (Instr.mapUpdate 49 (.map (some B)) (encStr x) (Pt p)).run Yba.prog W = .ok () w5 ∧ Mid w0 B kv dv ks.length ks.length (scells ks) (dcells ds) ks ds ps k x d p w5 := by
  obtain ⟨D, c, vm⟩ := hinv.core
  have c4 := c.none hg
  obtain ⟨w5, hrun, hm5, hg5⟩ := c4.m.update law9 Yba.underlying49 hk (key9 hx) (ptrElem_mk p)
  exact ⟨w5, hrun, ⟨D, c4.upM hg5 hm5, vm⟩, hB.keep (Stands.of_map c4.m hg5)⟩

theorem Mid.size (h : Mid w0 B kv dv nk nd kx dx ks ds ps k x d p w) : B + 1 ≤ w.heap.size := by obtain ⟨_, c, _⟩ := h.core; exact c.size

/-- The round's end where the name was there. -/
theorem Mid.found {gd cd : Nat} (h : Mid w0 B kv (.slice (some ⟨gd, 0, none⟩) ks.length cd) ks.length ks.length (scells ks) (dcells ds) ks ds ps k x d p w) (hpl : ps.length = ks.length) (hdl : ds.length = ks.length) (hok : ∀ y ∈ ks, y.length ≤ maxLen)
    (hdo : ∀ d ∈ ds, 0 ≤ d ∧ d < 3) (hlen : ks.length ≤ k) (hnd : ks.Nodup) {j : Nat} (hj : ks[j]? = some x) (hdw : 0 ≤ d ∧ d < 3) :
    Inv w0 B kv (.slice (some ⟨gd, 0, none⟩) ks.length cd) ks (ds.set j d) (ps.set j p) (k + 1) (w.setCell ⟨gd, j, none⟩ (.int .u8 d)) := by
  obtain ⟨D, c, vm⟩ := h.core
  have hlt : j < ks.length := (List.getElem?_eq_some_iff.1 hj).1
  have hl : (ks.map slit)[j]? = some (slit x) := by rw [List.getElem?_map, hj]; rfl
  have d6 := (c.dr.stored j (.int .u8 d)).1
  have c6 := c.upD (grown_setCell w gd j (.int .u8 d)) d6
  have F6 := h.buck.keep (Stands.of_row c.dr (by decide) (grown_setCell w gd j (.int .u8 d)))
  refine ⟨⟨D.put (slit x) (blk p), ?_, ?_⟩, by simp [hpl], by simp [hdl], hok, ?_, by omega, hnd⟩
  · have c8 := c6.bucks (ks2 := ks) (ds2 := ds.set j d) (ps2 := ps.set j p) (fun i x' d' p' h1 h2 h3 => by
      by_cases e : j = i
      · subst e
        rw [List.getElem?_set_self (by omega)] at h2 h3
        rw [hj] at h1
        cases h1; cases h2; cases h3
        exact F6
      · rw [List.getElem?_set_ne e] at h2 h3
        exact c6.buck i x' d' p' h1 h2 h3)
    have e2 : dcells (ds.set j d) = (dcells ds).set j (.int .u8 d) := by simp [dcells, List.map_set]
    rw [e2]
    exact c8
  · have := vm.old hl (blk p)
    rw [← List.map_set] at this
    exact this
  · intro f' hf'
    rcases List.mem_or_eq_of_mem_set hf' with h1 | rfl
    · exact hdo f' h1
    · exact hdw

theorem Mid.appK (h : Mid w0 B kv dv nk nd kx dx ks ds ps k x d p w) (hn : nk ≤ 1048576) :
    ∃ g cap w', (Builtin.append_ #[47, 47] 47 #[kv, .slice (some ⟨w.heap.size, 0, none⟩) 1 1]).run Yba.prog (w.alloc (.cells #[encStr x] 9)) = .ok (.slice (some ⟨g, 0, none⟩) (nk + 1) cap) w' ∧
      Mid w0 B (.slice (some ⟨g, 0, none⟩) (nk + 1) cap) dv (nk + 1) nd (kx ++ [encStr x]) dx ks ds ps k x d p w' := by
  obtain ⟨D, c, vm⟩ := h.core
  obtain ⟨i0, hi, hz0, hz1, hz2⟩ := info_parts info9
  have hB := c.size
  have c1 := c.none (World.grownBy_alloc w (.cells #[encStr x] 9) none)
  obtain ⟨g, cap, w', hrun, hown, hg, _, _⟩ := run_append_lies (w.alloc (.cells #[encStr x] 9)) 47 47 (B + 1) 9 i0 _ 1 16 Yba.underlying47 hi hz0 hz1 hz2 rfl (by decide) kv nk kx c1.kr ⟨w.heap.size, 0, none⟩ 1 1 [encStr x] rfl
    (World.news_of_block (cs := #[encStr x]) (t := 9) (fr := (0, 0)) (MapKept.heap_alloc w _).1) (by simp [Value.oneCell']) (by decide) (by unfold maxLen; omega) (by omega) (by simp; omega) _ rfl
  exact ⟨g, cap, w', hrun, ⟨⟨D, c1.upK hg hown, vm⟩, (h.buck.keep (Stands.of_none (World.grownBy_alloc w (.cells #[encStr x] 9) none))).keep (Stands.of_row c1.kr (by decide) hg)⟩⟩

theorem Mid.appD (h : Mid w0 B kv dv nk nd kx dx ks ds ps k x d p w) (hn : nd ≤ 1048576) :
    ∃ g cap w', (Builtin.append_ #[48, 48] 48 #[dv, .slice (some ⟨w.heap.size, 0, none⟩) 1 1]).run Yba.prog (w.alloc (.cells #[.int .u8 d] 5)) = .ok (.slice (some ⟨g, 0, none⟩) (nd + 1) cap) w' ∧
      Mid w0 B kv (.slice (some ⟨g, 0, none⟩) (nd + 1) cap) nk (nd + 1) kx (dx ++ [.int .u8 d]) ks ds ps k x d p w' := by
  obtain ⟨D, c, vm⟩ := h.core
  obtain ⟨i0, hi, hz0, hz1, hz2⟩ := info_parts info5
  have hB := c.size
  have c1 := c.none (World.grownBy_alloc w (.cells #[.int .u8 d] 5) none)
  obtain ⟨g, cap, w', hrun, hown, hg, _, _⟩ := run_append_lies (w.alloc (.cells #[.int .u8 d] 5)) 48 48 (B + 1) 5 i0 _ 1 1 Yba.underlying48 hi hz0 hz1 hz2 rfl (by decide) dv nd dx c1.dr ⟨w.heap.size, 0, none⟩ 1 1 [.int .u8 d] rfl
    (World.news_of_block (cs := #[.int .u8 d]) (t := 5) (fr := (0, 0)) (MapKept.heap_alloc w _).1) (by simp [Value.oneCell']) (by decide) (by unfold maxLen; omega) (by omega) (by simp; omega) _ rfl
  exact ⟨g, cap, w', hrun, ⟨⟨D, c1.upD hg hown, vm⟩, (h.buck.keep (Stands.of_none (World.grownBy_alloc w (.cells #[.int .u8 d] 5) none))).keep (Stands.of_row c1.dr (by decide) hg)⟩⟩

theorem Mid.fin (h : Mid w0 B kv dv (ks.length + 1) (ks.length + 1) (scells ks ++ [encStr x]) (dcells ds ++ [.int .u8 d]) ks ds ps k x d p w) (hx : x.length ≤ maxLen) (hn : x ∉ ks) (hpl : ps.length = ks.length) (hdl : ds.length = ks.length)
    (hok : ∀ y ∈ ks, y.length ≤ maxLen) (hdo : ∀ d ∈ ds, 0 ≤ d ∧ d < 3) (hlen : ks.length ≤ k) (hnd : ks.Nodup) (hdw : 0 ≤ d ∧ d < 3) : Inv w0 B kv dv (ks ++ [x]) (ds ++ [d]) (ps ++ [p]) (k + 1) w := by
  obtain ⟨D, c, vm⟩ := h.core
  have hnl : slit x ∉ ks.map slit := fun hm => by
    obtain ⟨y, hy, e⟩ := List.mem_map.1 hm
    exact hn (slit_inj e ▸ hy)
  refine ⟨⟨D.put (slit x) (blk p), ?_, ?_⟩, by simp [hpl], by simp [hdl], ?_, ?_, by simp; omega, ?_⟩
  · have c8 := c.bucks (ks2 := ks ++ [x]) (ds2 := ds ++ [d]) (ps2 := ps ++ [p]) (fun i x' d' p' h1 h2 h3 => by
      by_cases e : i < ks.length
      · rw [List.getElem?_append_left (by omega)] at h1 h2 h3
        exact c.buck i x' d' p' h1 h2 h3
      · have hi : i = ks.length := by
          have := (List.getElem?_eq_some_iff.1 h1).1
          simp at this; omega
        have e0 : x' = x := by rw [hi] at h1; simpa using h1.symm
        have e1 : p' = p := by rw [hi, ← hpl] at h3; simpa using h3.symm
        have e2 : d' = d := by rw [hi, ← hdl] at h2; simpa using h2.symm
        rw [e0, e1, e2]; exact h.buck)
    have e0 : scells (ks ++ [x]) = scells ks ++ [encStr x] := by simp [scells]
    have e2 : dcells (ds ++ [d]) = dcells ds ++ [.int .u8 d] := by simp [dcells]
    rw [e0, e2, show (ks ++ [x]).length = ks.length + 1 by simp]
    exact c8
  · have := vm.new (slit_key hx) hnl (blk p)
    simpa using this
  · intro y hy
    simp at hy
    rcases hy with hy | rfl
    · exact hok y hy
    · exact hx
  · intro y hy
    simp at hy
    rcases hy with hy | rfl
    · exact hdo y hy
    · exact hdw
  · rw [List.nodup_append]
    refine ⟨hnd, by simp, ?_⟩
    intro a ha b hb
    simp at hb; subst hb
    intro e; subst e; exact hn ha
end

/-! ### The three kinds of bucket, made -/
theorem buck0 (wr : World) (B : Nat) (x : Str) (d : Int) (hd : d ≠ 2) : wr.grownBy (wr.alloc (oB x (.map none))) none ∧ Buck (wr.alloc (oB x (.map none))) B wr.heap.size x d :=
  ⟨World.grownBy_alloc wr _ none, .map none, (MapKept.heap_alloc wr _).1, .inl ⟨rfl, hd⟩⟩
theorem buck1 (wr : World) (B : Nat) (hB : B < wr.heap.size) (x : Str) : wr.grownBy ((wr.alloc (.map #[] 0)).alloc (oB x (.map (some wr.heap.size)))) none ∧ Buck ((wr.alloc (.map #[] 0)).alloc (oB x (.map (some wr.heap.size)))) B (wr.heap.size + 1) x 1 := by
  refine ⟨(World.grownBy_alloc wr _ none).trans (World.grownBy_alloc _ _ none), .map (some wr.heap.size), ?_, .inr ⟨wr.heap.size, 0, .map [], rfl, by omega, (World.ownsMap_made wr Yba.prog 51 anyE).alloc _, rfl⟩⟩
  have := (MapKept.heap_alloc (wr.alloc (.map #[] 0)) (oB x (.map (some wr.heap.size)))).1
  simpa using this
theorem buck2 (wr : World) (B : Nat) (hB : B < wr.heap.size) : ∃ w2, (Instr.mapUpdate 50 (.map (some wr.heap.size)) (.string ⟨#[109]⟩) (.map none)).run Yba.prog (wr.alloc (.map #[] 0)) = .ok () w2 ∧ wr.grownBy w2 none ∧ wr.heap.size < w2.heap.size ∧
    ∀ x, Buck (w2.alloc (oB x (.map (some wr.heap.size)))) B w2.heap.size x 2 := by
  have hm := World.ownsMap_made wr Yba.prog 51 anyE
  have hkey : keyOf Yba.prog 51 (.string ⟨#[109]⟩) = some (.string [109]) := by simp [keyOf, Yba.underlying51, mapKey, ByteArray.size, maxLen]
  obtain ⟨w2, hrun, hm2, hg2⟩ := hm.update law51 Yba.underlying50 (by decide) (key := .string ⟨#[109]⟩) (val := .map none) hkey (show anyE (.map none) = some (.nil, []) from rfl)
  have hg : wr.grownBy w2 none := (World.grownBy_alloc wr (.map #[] 0) none).andThen hg2 (fun j hj => by cases hj; exact .inl (Nat.le_refl _))
  have hs : wr.heap.size < w2.heap.size := by have := hg2.size; simp at this; omega
  refine ⟨w2, hrun, hg, hs, fun x => ⟨_, (MapKept.heap_alloc w2 _).1, .inr ⟨wr.heap.size, _, _, rfl, by omega, hm2.alloc _, ?_⟩⟩⟩
  rw [size_put tidy_empty]
  rfl
end Go.Proofs.Ybulkecbe.B
