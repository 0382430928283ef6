import Derived.Test.YbulkecbeACore
import Derived.OwnWalk
namespace Go.Proofs.Ybulkecbe.A
open Go.ChangeShapes Go.WideShapes Go.ChangeAt Go.RowKit Go.Maps

abbrev oE (e : Entry) (r : Bool) : Obj := .cells #[.int .u64 e.key.dev, .int .u64 e.key.ino, .int .i64 e.key.siz, .int .i64 e.foot, .bool r] 95
abbrev oV (x : Key) : Obj := .cells #[.int .u64 x.dev, .int .u64 x.ino, .int .i64 x.siz, .int .i64 0, .int .i64 0] 43
abbrev oL (q : Nat) : Obj := .cells #[Pt q, .nilIface] 100
abbrev oM (f : Int) : Obj := .cells #[.slice none 0 0, .slice none 0 0, .int .i64 0, .int .i64 f] 104

theorem zero44 (w : World) : (zeroValue 44).run Yba.prog w = .ok (.pointer none) w := by kernel_rfl
theorem zero3 (w : World) : (zeroValue 3).run Yba.prog w = .ok (.int .i64 0) w := by kernel_rfl
theorem info43 : (Yba.prog.info? 43).map (fun i => (i.zero, i.size, i.bytes)) = some (some (.agg #[.int .u64 0, .int .u64 0, .int .i64 0, .int .i64 0, .int .i64 0]), 5, 40) := by kernel_rfl
theorem info44 : (Yba.prog.info? 44).map (fun i => (i.zero, i.size, i.bytes)) = some (some (.pointer none), 1, 8) := by kernel_rfl
theorem info3 : (Yba.prog.info? 3).map (fun i => (i.zero, i.size, i.bytes)) = some (some (.int .i64 0), 1, 8) := by kernel_rfl

theorem row_shape {w : World} {base : Nat} {e : TypeId} {size : Nat} {v : Value} {n : Nat} {xs : List Value} (h : w.ownsRow base e size v n xs) : ∃ a c, v = .slice a n c := by
  rcases h.2 with ⟨rfl, rfl⟩ | ⟨g, cap, cur, rfl, _⟩
  · exact ⟨none, 0, rfl⟩
  · exact ⟨_, _, rfl⟩

/-- Between the store into 'm' and the round's end. -/
structure Mid (w0 : World) (B : Nat) (kv lv fv : Value) (ks : List Key) (ps : List Nat) (fs : List Int) (k : Nat) (x : Key) (p : Nat) (f : Int) (vb : Nat) (w : World) : Prop where
  core : ∃ Dm Di, Core w0 B (k + 1) k (Dm.put x.lit (blk p)) Di kv lv fv ks.length ks.length ks.length (kcells ks) (pcells ps) (fcells fs) ps fs w ∧
    View Dm (ks.map Key.lit) (ps.map blk) ∧ View Di (ks.map Key.lit) ((List.range ks.length).map blk)
  vblk : w.heap[vb]? = some (oV x)
  foot : Foot w p f
  vlt : vb < w.heap.size
  vne : vb ≠ B ∧ vb ≠ B + 1

theorem step1 {w0 : World} {B : Nat} {kv lv fv : Value} {ks : List Key} {ps : List Nat} {fs : List Int} {k : Nat} {wr W : World} (hinv : Inv w0 B kv lv fv ks ps fs k wr) {x : Key} (hx : x.Ok) (hg : wr.grownBy W none) {p vb : Nat} {f : Int}
    (hV : W.heap[vb]? = some (oV x)) (hvb : wr.heap.size ≤ vb) (hF : Foot W p f) (hk : k < maxLen) :
    ∃ w5, (Instr.mapUpdate 23 (.map (some B)) x.val (Pt p)).run Yba.prog W = .ok () w5 ∧ Mid w0 B kv lv fv ks ps fs k x p f vb w5 ∧ W.heap.size ≤ w5.heap.size := by
  obtain ⟨Dm, Di, c, vm, vi⟩ := hinv.core
  have c4 := c.none hg
  have hsz := c.size
  obtain ⟨w5, hrun, hm5, hg5⟩ := c4.m.update law Yba.underlying23 hk (key_lit x hx) (ptrElem_mk p)
  have hvne : vb ≠ B ∧ vb ≠ B + 1 := by omega
  refine ⟨w5, hrun, ⟨⟨Dm, Di, c4.upM hg5 hm5, vm, vi⟩, ?_, hF.keep (Keeps.of_map c4.m hg5), ?_, hvne⟩, hg5.size⟩
  · rw [hg5.block vb (Array.getElem?_eq_some_iff.1 hV).1 (by simp; exact hvne.1)]; exact hV
  · exact Nat.lt_of_lt_of_le (Array.getElem?_eq_some_iff.1 hV).1 hg5.size

section
variable {w0 : World} {B : Nat} {kv lv fv : Value} {ks : List Key} {ps : List Nat} {fs : List Int} {k : Nat} {x : Key} {p : Nat} {f : Int} {vb : Nat} {w : World}

theorem Mid.vcell (h : Mid w0 B kv lv fv ks ps fs k x p f vb w) : w.cell? ⟨vb, 0, none⟩ = some (.int .u64 x.dev) ∧ w.cell? ⟨vb, 1, none⟩ = some (.int .u64 x.ino) ∧ w.cell? ⟨vb, 2, none⟩ = some (.int .i64 x.siz) ∧
    w.cell? ⟨vb, 3, none⟩ = some (.int .i64 0) ∧ w.cell? ⟨vb, 4, none⟩ = some (.int .i64 0) := by
  have := h.vblk
  refine ⟨?_, ?_, ?_, ?_, ?_⟩ <;> simp [World.cell?, this]

theorem Mid.look_found (h : Mid w0 B kv lv fv ks ps fs k x p f vb w) (hx : x.Ok) {j : Nat} (hj : ks[j]? = some x) :
    (Instr.lookup 93 (.map (some (B + 1))) x.val true).run Yba.prog w = .ok (.tuple #[.int .i64 j, .bool true]) w := by
  obtain ⟨Dm, Di, c, vm, vi⟩ := h.core
  have h0 : (Lit.int .i64 0).wf = true := by decide
  obtain ⟨v, qs, hrun, hv⟩ := c.i.look_ok law Yba.underlying93 (zero3 w) (plainElem_int Yba.underlying3 h0) (key_lit x hx)
  have hlt : j < ks.length := (List.getElem?_eq_some_iff.1 hj).1
  have hl : (ks.map Key.lit)[j]? = some x.lit := by rw [List.getElem?_map, hj]; rfl
  have hb : ((List.range ks.length).map blk)[j]? = some (blk j) := by rw [List.getElem?_map, List.getElem?_range hlt]; rfl
  rw [vi.look j x.lit (blk j) hl hb, (vi.has x.lit).2 (List.mem_of_getElem? hl)] at *
  obtain ⟨c', rfl, hc, _⟩ := plainElem_int_inv Yba.underlying3 hv
  have : c' = j := by simpa using (congrArg Prod.fst hc).symm
  rw [hrun, this]

theorem Mid.look_new (h : Mid w0 B kv lv fv ks ps fs k x p f vb w) (hx : x.Ok) (hok : ∀ y ∈ ks, y.Ok) (hn : x ∉ ks) :
    (Instr.lookup 93 (.map (some (B + 1))) x.val true).run Yba.prog w = .ok (.tuple #[.int .i64 0, .bool false]) w := by
  obtain ⟨Dm, Di, c, vm, vi⟩ := h.core
  have h0 : (Lit.int .i64 0).wf = true := by decide
  obtain ⟨v, qs, hrun, hv⟩ := c.i.look_ok law Yba.underlying93 (zero3 w) (plainElem_int Yba.underlying3 h0) (key_lit x hx)
  have hf : Maps.has Di x.lit = false := by
    cases hh : Maps.has Di x.lit with
    | false => rfl
    | true => exact absurd ((View.index vi hx hok).1 hh) hn
  rw [atKey_of_not_has hf] at hv
  rw [hf] at hrun
  obtain ⟨c', rfl, hc, _⟩ := plainElem_int_inv Yba.underlying3 hv
  have : c' = 0 := by simpa using (congrArg Prod.fst hc).symm
  rw [hrun, this]

/-- The round's end where the key was there: the layout and the footprint at its place are replaced. -/
theorem Mid.found {gl cl gf cf : Nat} (h : Mid w0 B kv (.slice (some ⟨gl, 0, none⟩) ks.length cl) (.slice (some ⟨gf, 0, none⟩) ks.length cf) ks ps fs k x p f vb w) (hpl : ps.length = ks.length) (hfl : fs.length = ks.length) (hok : ∀ y ∈ ks, y.Ok)
    (hfo : ∀ f ∈ fs, (Lit.int .i64 f).wf = true) (hlen : ks.length ≤ k) {j : Nat} (hj : ks[j]? = some x) (hfw : (Lit.int .i64 f).wf = true) :
    Inv w0 B kv (.slice (some ⟨gl, 0, none⟩) ks.length cl) (.slice (some ⟨gf, 0, none⟩) ks.length cf) ks (ps.set j p) (fs.set j f) (k + 1) ((w.setCell ⟨gl, j, none⟩ (Pt p)).setCell ⟨gf, j, none⟩ (.int .i64 f)) := by
  obtain ⟨Dm, Di, c, vm, vi⟩ := h.core
  have hlt : j < ks.length := (List.getElem?_eq_some_iff.1 hj).1
  have hl : (ks.map Key.lit)[j]? = some x.lit := by rw [List.getElem?_map, hj]; rfl
  have l6 := (c.lr.stored j (Pt p)).1
  have c6 := c.upL (grown_setCell w gl j (Pt p)) l6
  have f7 := (c6.fr.stored j (.int .i64 f)).1
  have c7 := c6.upF (grown_setCell _ gf j (.int .i64 f)) f7
  have F6 := (h.foot.keep (Keeps.of_row c.lr (by simp [IsLay]) (grown_setCell w gl j (Pt p)))).keep (Keeps.of_row c6.fr (by simp [IsLay]) (grown_setCell _ gf j (.int .i64 f)))
  refine ⟨⟨Dm.put x.lit (blk p), Di, ?_, ?_, vi⟩, by simp [hpl], by simp [hfl], hok, ?_, by omega⟩
  · have c8 := c7.foots (ps2 := ps.set j p) (fs2 := fs.set j f) (fun i p' f' h1 h2 => by
      by_cases e : j = i
      · subst e
        rw [List.getElem?_set_self (by omega)] at h1 h2
        cases h1; cases h2
        exact F6
      · rw [List.getElem?_set_ne e] at h1 h2
        exact c7.foot i p' f' h1 h2)
    have e1 : pcells (ps.set j p) = (pcells ps).set j (Pt p) := by simp [pcells, List.map_set]
    have e2 : fcells (fs.set j f) = (fcells fs).set j (.int .i64 f) := by simp [fcells, List.map_set]
    rw [e1, e2]
    exact ⟨c8.below, c8.size, c8.m, c8.i.mono (Nat.le_succ _), c8.kr, c8.lr, c8.fr, c8.foot⟩
  · have := vm.old hl (blk p)
    rw [← List.map_set] at this
    exact this
  · intro f' hf'
    rcases List.mem_or_eq_of_mem_set hf' with h1 | rfl
    · exact hfo f' h1
    · exact hfw
end

/-- Between the store into 'idx' and the round's end, where the key is new. -/
structure Mix (w0 : World) (B : Nat) (kv lv fv : Value) (nk nl nf : Nat) (kx lx fx : List Value) (ks : List Key) (ps : List Nat) (fs : List Int) (k : Nat) (x : Key) (p : Nat) (f : Int) (w : World) : Prop where
  core : ∃ Dm Di, Core w0 B (k + 1) (k + 1) (Dm.put x.lit (blk p)) (Di.put x.lit (blk ks.length)) kv lv fv nk nl nf kx lx fx ps fs w ∧
    View Dm (ks.map Key.lit) (ps.map blk) ∧ View Di (ks.map Key.lit) ((List.range ks.length).map blk)
  foot : Foot w p f

section
variable {w0 : World} {B : Nat} {kv lv fv : Value} {nk nl nf : Nat} {kx lx fx : List Value} {ks : List Key} {ps : List Nat} {fs : List Int} {k : Nat} {x : Key} {p : Nat} {f : Int} {vb : Nat} {w : World}

theorem Mid.idx (h : Mid w0 B kv lv fv ks ps fs k x p f vb w) (hx : x.Ok) (hk : k < maxLen) (hl : ks.length ≤ 1048576) :
    ∃ w6, (Instr.mapUpdate 93 (.map (some (B + 1))) x.val (.int .i64 ks.length)).run Yba.prog w = .ok () w6 ∧ Mix w0 B kv lv fv ks.length ks.length ks.length (kcells ks) (pcells ps) (fcells fs) ks ps fs k x p f w6 ∧ w6.heap[vb]? = some (oV x) := by
  obtain ⟨Dm, Di, c, vm, vi⟩ := h.core
  have hw : (Lit.int .i64 (ks.length : Int)).wf = true := WalkArith.wf_i64 (by omega)
  obtain ⟨w6, hrun, hm, hg⟩ := c.i.update law Yba.underlying93 hk (key_lit x hx) (plainElem_int Yba.underlying3 hw)
  refine ⟨w6, hrun, ⟨⟨Dm, Di, c.upI hg hm, vm, vi⟩, h.foot.keep (Keeps.of_map c.i hg)⟩, ?_⟩
  rw [hg.block vb h.vlt (by simp; exact h.vne.2)]; exact h.vblk

theorem Mix.appK (h : Mix w0 B kv lv fv nk nl nf kx lx fx ks ps fs k x p f w) (hn : nk ≤ 1048576) (hB : B + 2 ≤ w.heap.size) :
    ∃ g cap w', (Builtin.append_ #[24, 24] 24 #[kv, .slice (some ⟨w.heap.size, 0, none⟩) 1 1]).run Yba.prog (w.alloc (oV x)) = .ok (.slice (some ⟨g, 0, none⟩) (nk + 1) cap) w' ∧
      Mix w0 B (.slice (some ⟨g, 0, none⟩) (nk + 1) cap) lv fv (nk + 1) nl nf (kx ++ x.cells) lx fx ks ps fs k x p f w' := by
  obtain ⟨Dm, Di, c, vm, vi⟩ := h.core
  obtain ⟨i0, hi, hz0, hz1, hz2⟩ := info_parts info43
  have c1 := c.none (World.grownBy_alloc w (oV x) none)
  obtain ⟨g, cap, w', hrun, hown, hg, _, _⟩ := run_append_lies (w.alloc (oV x)) 24 24 (B + 2) 43 i0 _ 5 40 Yba.underlying24 hi hz0 hz1 hz2 rfl (by decide) kv nk kx c1.kr ⟨w.heap.size, 0, none⟩ 1 1 x.cells rfl
    (World.news_of_block (cs := #[.int .u64 x.dev, .int .u64 x.ino, .int .i64 x.siz, .int .i64 0, .int .i64 0]) (t := 43) (fr := (0, 0)) (MapKept.heap_alloc w _).1) (by simp [Key.cells, Value.oneCell']) (by decide) (by unfold maxLen; omega) (by omega) (by simp; omega) _ rfl
  exact ⟨g, cap, w', hrun, ⟨⟨Dm, Di, c1.upK hg hown, vm, vi⟩, (h.foot.keep (Keeps.of_none (World.grownBy_alloc w (oV x) none))).keep (Keeps.of_row c1.kr (by simp [IsLay]) hg)⟩⟩

theorem Mix.appL (h : Mix w0 B kv lv fv nk nl nf kx lx fx ks ps fs k x p f w) (hn : nl ≤ 1048576) (hB : B + 2 ≤ w.heap.size) :
    ∃ g cap w', (Builtin.append_ #[25, 25] 25 #[lv, .slice (some ⟨w.heap.size, 0, none⟩) 1 1]).run Yba.prog (w.alloc (.cells #[Pt p] 44)) = .ok (.slice (some ⟨g, 0, none⟩) (nl + 1) cap) w' ∧
      Mix w0 B kv (.slice (some ⟨g, 0, none⟩) (nl + 1) cap) fv nk (nl + 1) nf kx (lx ++ [Pt p]) fx ks ps fs k x p f w' := by
  obtain ⟨Dm, Di, c, vm, vi⟩ := h.core
  obtain ⟨i0, hi, hz0, hz1, hz2⟩ := info_parts info44
  have c1 := c.none (World.grownBy_alloc w (.cells #[Pt p] 44) none)
  obtain ⟨g, cap, w', hrun, hown, hg, _, _⟩ := run_append_lies (w.alloc (.cells #[Pt p] 44)) 25 25 (B + 2) 44 i0 _ 1 8 Yba.underlying25 hi hz0 hz1 hz2 rfl (by decide) lv nl lx c1.lr ⟨w.heap.size, 0, none⟩ 1 1 [Pt p] rfl
    (World.news_of_block (cs := #[Pt p]) (t := 44) (fr := (0, 0)) (MapKept.heap_alloc w _).1) (by simp [Value.oneCell']) (by decide) (by unfold maxLen; omega) (by omega) (by simp; omega) _ rfl
  exact ⟨g, cap, w', hrun, ⟨⟨Dm, Di, c1.upL hg hown, vm, vi⟩, (h.foot.keep (Keeps.of_none (World.grownBy_alloc w (.cells #[Pt p] 44) none))).keep (Keeps.of_row c1.lr (by simp [IsLay]) hg)⟩⟩

theorem Mix.appF (h : Mix w0 B kv lv fv nk nl nf kx lx fx ks ps fs k x p f w) (hn : nf ≤ 1048576) (hB : B + 2 ≤ w.heap.size) :
    ∃ g cap w', (Builtin.append_ #[26, 26] 26 #[fv, .slice (some ⟨w.heap.size, 0, none⟩) 1 1]).run Yba.prog (w.alloc (.cells #[.int .i64 f] 3)) = .ok (.slice (some ⟨g, 0, none⟩) (nf + 1) cap) w' ∧
      Mix w0 B kv lv (.slice (some ⟨g, 0, none⟩) (nf + 1) cap) nk nl (nf + 1) kx lx (fx ++ [.int .i64 f]) ks ps fs k x p f w' := by
  obtain ⟨Dm, Di, c, vm, vi⟩ := h.core
  obtain ⟨i0, hi, hz0, hz1, hz2⟩ := info_parts info3
  have c1 := c.none (World.grownBy_alloc w (.cells #[.int .i64 f] 3) none)
  obtain ⟨g, cap, w', hrun, hown, hg, _, _⟩ := run_append_lies (w.alloc (.cells #[.int .i64 f] 3)) 26 26 (B + 2) 3 i0 _ 1 8 Yba.underlying26 hi hz0 hz1 hz2 rfl (by decide) fv nf fx c1.fr ⟨w.heap.size, 0, none⟩ 1 1 [.int .i64 f] rfl
    (World.news_of_block (cs := #[.int .i64 f]) (t := 3) (fr := (0, 0)) (MapKept.heap_alloc w _).1) (by simp [Value.oneCell']) (by decide) (by unfold maxLen; omega) (by omega) (by simp; omega) _ rfl
  exact ⟨g, cap, w', hrun, ⟨⟨Dm, Di, c1.upF hg hown, vm, vi⟩, (h.foot.keep (Keeps.of_none (World.grownBy_alloc w (.cells #[.int .i64 f] 3) none))).keep (Keeps.of_row c1.fr (by simp [IsLay]) hg)⟩⟩

theorem Mix.size (h : Mix w0 B kv lv fv nk nl nf kx lx fx ks ps fs k x p f w) : B + 2 ≤ w.heap.size := by
  obtain ⟨_, _, c, _⟩ := h.core; exact c.size

theorem Mix.fin (h : Mix w0 B kv lv fv (ks.length + 1) (ks.length + 1) (ks.length + 1) (kcells ks ++ x.cells) (pcells ps ++ [Pt p]) (fcells fs ++ [.int .i64 f]) ks ps fs k x p f w) (hx : x.Ok) (hn : x ∉ ks) (hpl : ps.length = ks.length) (hfl : fs.length = ks.length)
    (hok : ∀ y ∈ ks, y.Ok) (hfo : ∀ f ∈ fs, (Lit.int .i64 f).wf = true) (hlen : ks.length ≤ k) (hfw : (Lit.int .i64 f).wf = true) : Inv w0 B kv lv fv (ks ++ [x]) (ps ++ [p]) (fs ++ [f]) (k + 1) w := by
  obtain ⟨Dm, Di, c, vm, vi⟩ := h.core
  have hnl : x.lit ∉ ks.map Key.lit := fun hm => by
    obtain ⟨y, hy, e⟩ := List.mem_map.1 hm
    exact hn (key_inj (hok y hy) hx e ▸ hy)
  have hkl := key_key x hx
  refine ⟨⟨Dm.put x.lit (blk p), Di.put x.lit (blk ks.length), ?_, ?_, ?_⟩, by simp [hpl], by simp [hfl], ?_, ?_, by simp; omega⟩
  · have c8 := c.foots (ps2 := ps ++ [p]) (fs2 := fs ++ [f]) (fun i p' f' h1 h2 => by
      by_cases e : i < ks.length
      · rw [List.getElem?_append_left (by omega)] at h1 h2
        exact c.foot i p' f' h1 h2
      · have hi : i = ks.length := by
          have := (List.getElem?_eq_some_iff.1 h1).1
          simp at this; omega
        have e1 : p' = p := by rw [hi, ← hpl] at h1; simpa using h1.symm
        have e2 : f' = f := by rw [hi, ← hfl] at h2; simpa using h2.symm
        rw [e1, e2]; exact h.foot)
    have e0 : kcells (ks ++ [x]) = kcells ks ++ x.cells := by simp [kcells]
    have e1 : pcells (ps ++ [p]) = pcells ps ++ [Pt p] := by simp [pcells]
    have e2 : fcells (fs ++ [f]) = fcells fs ++ [.int .i64 f] := by simp [fcells]
    rw [e0, e1, e2, show (ks ++ [x]).length = ks.length + 1 by simp]
    exact c8
  · have := vm.new hkl hnl (blk p)
    simpa using this
  · have := vi.new hkl hnl (blk ks.length)
    rw [show (ks ++ [x]).length = ks.length + 1 by simp, List.range_succ]
    simpa using this
  · intro y hy
    simp at hy
    rcases hy with hy | rfl
    · exact hok y hy
    · exact hx
  · intro y hy
    simp at hy
    rcases hy with hy | rfl
    · exact hfo y hy
    · exact hfw
end
end Go.Proofs.Ybulkecbe.A
