import Derived.Test.YbulkecbeBRange
namespace Go.Proofs.Ybulkecbe.B
open Go.ChangeShapes Go.WideShapes Go.ChangeAt Go.RowKit Go.Maps

theorem grown_drew (w : World) : w.grownBy w.drew none := ⟨rfl, rfl, rfl, Nat.le_refl _, fun _ _ _ => rfl⟩
theorem row_base {w : World} {base base' : Nat} {e : TypeId} {size : Nat} {v : Value} {n : Nat} {xs : List Value} (h : w.ownsRow base e size v n xs) (hb : base' ≤ base) : w.ownsRow base' e size v n xs := by
  refine ⟨h.1, ?_⟩
  rcases h.2 with h' | ⟨g, cap, cur, h1, h2, h3⟩
  · exact .inl h'
  · exact .inr ⟨g, cap, cur, h1, Nat.le_trans hb h2, h3⟩
theorem row_none {w w' : World} {base : Nat} {e : TypeId} {size : Nat} {v : Value} {n : Nat} {xs : List Value} (h : w.ownsRow base e size v n xs) (hg : w.grownBy w' none) : w'.ownsRow base e size v n xs := h.kept hg (by cases v.ownBlock <;> simp)

/-- A write into a row of another make. -/
theorem Inv.other {w0 : World} {B : Nat} {kv dv : Value} {ks : List Str} {ds : List Int} {ps : List Nat} {k : Nat} {w w' : World} (h : Inv w0 B kv dv ks ds ps k w) {base : Nat} {e : TypeId} {size : Nat} {v : Value} {m : Nat} {xs : List Value} (r : w.ownsRow base e size v m xs) (hb : B ≤ base) (h1 : 9 ≠ e) (h2 : 5 ≠ e) (h3 : e ≠ 61) (hg : w.grownBy w' v.ownBlock) :
    Inv w0 B kv dv ks ds ps k w' := by
  obtain ⟨D, c, vm⟩ := h.core
  refine ⟨⟨D, ⟨c.below.grown hg (by have := c.size; omega) (fun j hj => by have := row_ge r j hj; omega), Nat.le_trans c.size hg.size, c.m.kept hg (map_ne_row c.m r), c.kr.kept hg (row_ne_row c.kr r h1), c.dr.kept hg (row_ne_row c.dr r h2), fun j x d p a1 a2 a3 => (c.buck j x d p a1 a2 a3).keep (Stands.of_row r h3 hg)⟩, vm⟩, h.plen, h.dlen, h.ok, h.dok, h.len, h.nodup⟩
theorem Inv.none {w0 : World} {B : Nat} {kv dv : Value} {ks : List Str} {ds : List Int} {ps : List Nat} {k : Nat} {w w' : World} (h : Inv w0 B kv dv ks ds ps k w) (hg : w.grownBy w' none) : Inv w0 B kv dv ks ds ps k w' := by
  obtain ⟨D, c, vm⟩ := h.core
  exact ⟨⟨D, c.none hg, vm⟩, h.plen, h.dlen, h.ok, h.dok, h.len, h.nodup⟩

/-- m[x], for a name that is there. -/
theorem at_name {w : World} {B n : Nat} {D : DataW Unit} {ks : List Str} {ps : List Nat} (hm : w.ownsMap Yba.prog 9 ptrElem B n D) (hv : View D (ks.map slit) (ps.map blk)) {i : Nat} {x : Str} {p : Nat} (hx : ks[i]? = some x) (hp : ps[i]? = some p) (hl : x.length ≤ maxLen) :
    (Instr.lookup 49 (.map (some B)) (encStr x) false).run Yba.prog w = .ok (Pt p) w := by
  obtain ⟨v, qs, hrun, hvv⟩ := hm.lookup law9 Yba.underlying49 (Yba.zeroValue52 w) ptrElem_nil (key9 hl)
  rw [hv.look i (slit x) (blk p) (by rw [List.getElem?_map, hx]; rfl) (by rw [List.getElem?_map, hp]; rfl)] at hvv
  rw [hrun, ptrElem_inv hvv]

theorem neq52 (x : Addr) (w : World) : (binOp .neq 52 (.pointer (some x)) (.pointer (some x))).run Yba.prog w = .ok (.bool false) w := by
  obtain ⟨j, hj⟩ : ∃ j, Yba.prog.info? 61 = some j := Option.isSome_iff_exists.1 (by kernel_rfl)
  have h : ∀ d : Nat, (Op.equalIn (d + 1) 52 (.pointer (some x)) (.pointer (some x))).run Yba.prog w = .ok true w := fun d => by
    simp [Op.equalIn, run_underlying Yba.underlying52, sizeOf, typeInfo, hj, run_sameAddr_same]
  simp only [binOp]
  simp [Op.equal, Op.maxDepth, h 9999]

/-! ### the pointers -/
/-- The row of pointers, filled as far as m. -/
def Filled (w : World) (base gp n m : Nat) (ps : List Nat) : Prop := ∃ zs, w.ownsRow base 52 1 (.slice (some ⟨gp, 0, none⟩) n n) n zs ∧ ∀ t, t < m → zs[t]? = (ps[t]?).map Pt
theorem made52 (w : World) (n : Nat) (hn : n ≤ 1048576) : ∃ w1, (Instr.makeSlice 62 (.int .i64 n) (.int .i64 n)).run Yba.prog w = .ok (.slice (some ⟨w.heap.size, 0, none⟩) n n) w1 ∧ (∀ ps, Filled w1 w.heap.size w.heap.size n 0 ps) ∧ w.grownBy w1 none := by
  obtain ⟨i0, hi, hz0, hz1, hz2⟩ := info_parts info52
  obtain ⟨w1, h1, h2, h3⟩ := run_make_full (P := Yba.prog) w w.heap.size 62 52 i0 _ 1 Yba.underlying62 hi hz0 hz1 .i64 .i64 n (by rw [hz2]; omega) (by unfold maxLen; omega) (Nat.le_refl _)
  exact ⟨w1, h1, fun ps => ⟨_, h2, fun t ht => by omega⟩, h3⟩
theorem Filled.step {w : World} {base gp n m : Nat} {ps : List Nat} (h : Filled w base gp n m ps) {p : Nat} (hm : m < n) (hp : ps[m]? = some p) : Filled (w.setCell ⟨gp, m, none⟩ (Pt p)) base gp n (m + 1) ps := by
  obtain ⟨zs, h1, h2⟩ := h
  refine ⟨zs.set m (Pt p), (h1.stored m (Pt p)).1, fun t ht => ?_⟩
  by_cases e : m = t
  · subst e
    rw [List.getElem?_set_self (by have := h1.1; omega), hp]; rfl
  · rw [List.getElem?_set_ne e]
    exact h2 t (by omega)
theorem Filled.all {w : World} {base gp n : Nat} {ps : List Nat} (h : Filled w base gp n n ps) (hl : ps.length = n) : w.ownsRow base 52 1 (.slice (some ⟨gp, 0, none⟩) n n) n (ps.map Pt) := by
  obtain ⟨zs, h1, h2⟩ := h
  have : zs = ps.map Pt := by
    apply List.ext_getElem?
    intro t
    by_cases ht : t < n
    · rw [h2 t ht, List.getElem?_map]
    · rw [List.getElem?_eq_none (by have := h1.1; omega), List.getElem?_eq_none (by simp; omega)]
  rw [← this]; exact h1
theorem Filled.cell {w : World} {base gp n m : Nat} {ps : List Nat} (h : Filled w base gp n m ps) {i : Nat} (hi : i < n) : (∃ v, w.cell? ⟨gp, i, none⟩ = some v) ∧ w.frozen? ⟨gp, i, none⟩ = false := by
  obtain ⟨zs, h1, _⟩ := h
  refine ⟨?_, h1.frozenAt i⟩
  rw [h1.cellAt i (by omega)]
  exact ⟨_, List.getElem?_eq_getElem (by have := h1.1; omega)⟩

/-! ### what is known once Buckets has answered -/
structure Facts (w : World) (s B : Nat) (kv dv pv gv : Value) (ks : List Str) (ds : List Int) (ps : List Nat) (ss : List Str) : Prop where
  map : ∃ n D, w.ownsMap Yba.prog 9 ptrElem B n D ∧ View D (ks.map slit) (ps.map blk)
  kr : w.ownsRow 0 9 1 kv ks.length (scells ks)
  dr : w.ownsRow 0 5 1 dv ks.length (dcells ds)
  pr : w.ownsRow 0 52 1 pv ks.length (ps.map Pt)
  gr : w.ownsRow 0 9 1 gv ss.length (scells ss)
  st : w.heap[s]? = some (oS 0 B)
  buck : ∀ (j : Nat) x d p, ks[j]? = some x → ds[j]? = some d → ps[j]? = some p → Buck w B p x d
  plen : ps.length = ks.length
  dlen : ds.length = ks.length
  ok : ∀ x ∈ ks, x.length ≤ maxLen

theorem Facts.later {w w' : World} {s B : Nat} {kv dv pv gv : Value} {ks : List Str} {ds : List Int} {ps : List Nat} {ss : List Str} (h : Facts w s B kv dv pv gv ks ds ps ss) (hg : w.grownBy w' none) : Facts w' s B kv dv pv gv ks ds ps ss where
  map := by
    obtain ⟨n, D, h1, h2⟩ := h.map
    exact ⟨n, D, h1.kept hg (by simp), h2⟩
  kr := row_none h.kr hg
  dr := row_none h.dr hg
  pr := row_none h.pr hg
  gr := row_none h.gr hg
  st := by rw [hg.block s (Array.getElem?_eq_some_iff.1 h.st).1 (by simp)]; exact h.st
  buck := fun j x d p h1 h2 h3 => (h.buck j x d p h1 h2 h3).keep (Stands.of_none hg)
  plen := h.plen
  dlen := h.dlen
  ok := h.ok

theorem Facts.maplen {w : World} {s B : Nat} {kv dv pv gv : Value} {ks : List Str} {ds : List Int} {ps : List Nat} {ss : List Str} (h : Facts w s B kv dv pv gv ks ds ps ss) (ty : TypeId) : (Builtin.len_ #[49] ty #[.map (some B)]).run Yba.prog w = .ok (.int .i64 ks.length) w := by
  obtain ⟨n, D, h2, h3⟩ := h.map
  rw [h2.len Yba.underlying49, h3.size]; simp
theorem Facts.at {w : World} {s B : Nat} {kv dv pv gv : Value} {ks : List Str} {ds : List Int} {ps : List Nat} {ss : List Str} (h : Facts w s B kv dv pv gv ks ds ps ss) {i : Nat} {x : Str} {p : Nat} (hx : ks[i]? = some x) (hp : ps[i]? = some p) :
    (Instr.lookup 49 (.map (some B)) (.string ⟨x.toArray⟩) false).run Yba.prog w = .ok (Pt p) w := by
  obtain ⟨n, D, h2, h3⟩ := h.map
  exact at_name h2 h3 hx hp (h.ok x (List.mem_of_getElem? hx))

theorem Facts.got {w w' : World} {s B : Nat} {kv dv pv gv : Value} {ks : List Str} {ds : List Int} {ps : List Nat} {ss : List Str} (h : Facts w s B kv dv pv gv ks ds ps ss) (hg : w.grownBy w' none) {base : Nat} {gv' : Value} {ss' : List Str} (hr : w'.ownsRow base 9 1 gv' ss'.length (scells ss')) : Facts w' s B kv dv pv gv' ks ds ps ss' :=
  have h' := h.later hg
  ⟨h'.map, h'.kr, h'.dr, h'.pr, row_base hr (Nat.zero_le _), h'.st, h'.buck, h'.plen, h'.dlen, h'.ok⟩
/-- The two sorted lists are one. -/
theorem same_sorted {a b c : List Str} (h1 : a.Perm c) (h2 : b.Perm c) (p1 : a.Pairwise (· ≤ ·)) (p2 : b.Pairwise (· ≤ ·)) : a = b :=
  List.Perm.eq_of_pairwise (le := fun x y => x ≤ y) (fun _ _ _ _ h h' => List.le_antisymm h h') p1 p2 (h1.trans h2.symm)

/-! ### want -/
theorem sel_succ : ∀ (ks : List Str) (ds : List Int) (m : Nat) (x : Str) (d : Int), ks[m]? = some x → ds[m]? = some d → sel (ks.take (m + 1)) (ds.take (m + 1)) = sel (ks.take m) (ds.take m) ++ (if d = 2 then [x] else [])
  | [], ds, m, x, d, h, _ => by simp at h
  | k :: ks, [], m, x, d, _, h => by simp at h
  | k :: ks, e :: ds, 0, x, d, h1, h2 => by
    have e1 : k = x := by simpa using h1
    have e2 : e = d := by simpa using h2
    subst e1 e2
    simp [sel]
  | k :: ks, e :: ds, m + 1, x, d, h1, h2 => by
    have ih := sel_succ ks ds m x d (by simpa using h1) (by simpa using h2)
    simp only [List.take_succ_cons]
    by_cases he : e = 2
    · simp [sel, he]; exact ih
    · simp [sel, he]; exact ih
theorem neq47 (w : World) (l c : Nat) : (binOp .neq 47 (.slice none l c) (.slice none 0 0)).run Yba.prog w = .ok (.bool false) w := by
  have h : ∀ d : Nat, (Op.equalIn (d + 1) 47 (.slice none l c) (.slice none 0 0)).run Yba.prog w = .ok true w := fun d => by
    simp [Op.equalIn, run_underlying Yba.underlying47]
  simp only [binOp]
  simp [Op.equal, Op.maxDepth, h 9999]
theorem sel_len : ∀ (ks : List Str) (ds : List Int), (sel ks ds).length ≤ ks.length
  | [], ds => by simp [sel]
  | k :: ks, [] => by simp [sel]
  | k :: ks, d :: ds => by
    have := sel_len ks ds
    unfold sel
    split <;> simp <;> omega

theorem want_app {w4 wz : World} {v : Value} {xs : List Str} (hrow : wz.ownsRow w4.heap.size 9 1 v xs.length (scells xs)) (hgr : w4.grownBy wz none) (hn : xs.length ≤ 1048576) (x : Str) :
    ∃ g cap w', (Builtin.append_ #[47, 47] 47 #[v, .slice (some ⟨wz.heap.size, 0, none⟩) 1 1]).run Yba.prog (wz.alloc (.cells #[encStr x] 9)) = .ok (.slice (some ⟨g, 0, none⟩) (xs.length + 1) cap) w' ∧ w4.grownBy w' none ∧ w'.ownsRow w4.heap.size 9 1 (.slice (some ⟨g, 0, none⟩) (xs.length + 1) cap) (xs ++ [x]).length (scells (xs ++ [x])) := by
  obtain ⟨i0, hi, hz0, hz1, hz2⟩ := info_parts info9
  have hga := World.grownBy_alloc wz (.cells #[encStr x] 9) none
  have hrow3 := row_none hrow hga
  have hsz := hgr.size
  obtain ⟨g, cap, w', hrun, hown, hg, _, _⟩ := run_append_lies (wz.alloc (.cells #[encStr x] 9)) 47 47 w4.heap.size 9 i0 _ 1 16 Yba.underlying47 hi hz0 hz1 hz2 rfl (by decide) v xs.length (scells xs) hrow3 ⟨wz.heap.size, 0, none⟩ 1 1 [encStr x] rfl
    (World.news_of_block (cs := #[encStr x]) (t := 9) (fr := (0, 0)) (MapKept.heap_alloc wz _).1) (by simp [Value.oneCell']) (by decide) (by unfold maxLen; omega) (by omega) (by simp; omega) _ rfl
  refine ⟨g, cap, w', hrun, (hgr.trans hga).andThen hg (fun j hj => .inl (row_ge hrow3 j hj)), ?_⟩
  have e : scells (xs ++ [x]) = scells xs ++ [encStr x] := by simp [scells]
  rw [e, show (xs ++ [x]).length = xs.length + 1 by simp]
  exact hown

theorem drow_at {w : World} {base g n c : Nat} {ds : List Int} (h : w.ownsRow base 5 1 (.slice (some ⟨g, 0, none⟩) n c) n (dcells ds)) {i : Nat} {d : Int} (hd : ds[i]? = some d) : w.cell? ⟨g, i, none⟩ = some (.int .u8 d) := by
  have hl : n = ds.length := by have := h.1; simpa [dcells] using this.symm
  have hi : i < ds.length := (List.getElem?_eq_some_iff.1 hd).1
  rw [h.cellAt i (by omega)]
  simp [dcells, hd]
theorem prow_at {w : World} {base g n c : Nat} {ps : List Nat} (h : w.ownsRow base 52 1 (.slice (some ⟨g, 0, none⟩) n c) n (ps.map Pt)) {i : Nat} {p : Nat} (hp : ps[i]? = some p) : w.cell? ⟨g, i, none⟩ = some (Pt p) := by
  have hl : n = ps.length := by have := h.1; simpa using this.symm
  have hi : i < ps.length := (List.getElem?_eq_some_iff.1 hp).1
  rw [h.cellAt i (by omega)]
  simp [hp]
/-- A row's slice, where something lies at an index. -/
theorem srow_form {w : World} {base n c : Nat} {a : Option Addr} {xs : List Str} (h : w.ownsRow base 9 1 (.slice a n c) n (scells xs)) {i : Nat} {x : Str} (hx : xs[i]? = some x) : ∃ g, a = some ⟨g, 0, none⟩ ∧ w.cell? ⟨g, i, none⟩ = some (.string ⟨x.toArray⟩) := by
  have hl : n = xs.length := by have := h.1; simpa [scells] using this.symm
  have hi : i < xs.length := (List.getElem?_eq_some_iff.1 hx).1
  obtain ⟨g, c', h1, _⟩ := h.form (by omega)
  injection h1 with e1 e2 e3
  subst e1
  exact ⟨g, rfl, row_at h hx⟩
theorem drow_form {w : World} {base n c : Nat} {a : Option Addr} {ds : List Int} (h : w.ownsRow base 5 1 (.slice a n c) n (dcells ds)) {i : Nat} {d : Int} (hd : ds[i]? = some d) : ∃ g, a = some ⟨g, 0, none⟩ ∧ w.cell? ⟨g, i, none⟩ = some (.int .u8 d) := by
  have hl : n = ds.length := by have := h.1; simpa [dcells] using this.symm
  have hi : i < ds.length := (List.getElem?_eq_some_iff.1 hd).1
  obtain ⟨g, c', h1, _⟩ := h.form (by omega)
  injection h1 with e1 e2 e3
  subst e1
  exact ⟨g, rfl, drow_at h hd⟩
end Go.Proofs.Ybulkecbe.B
