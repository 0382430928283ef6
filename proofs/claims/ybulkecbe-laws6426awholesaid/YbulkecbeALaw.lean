import Derived.Test.YbulkecbeALocks
import Derived.LaidEqlPtr
import Derived.Deep.QuietTactic
import Derived.BigQuiet
import Derived.WalkSmall
namespace Go.Proofs.Ybulkecbe.A
open Go.ChangeShapes Go.WideShapes Go.ChangeAt Go.RowKit Go.Maps Go.MuLone

/-- What is known of a build's outcome, in whatever later world. -/
structure Facts (w : World) (mv : Option Nat) (kv lv fv : Value) (ks : List Key) (ps : List Nat) (fs : List Int) : Prop where
  map : (mv = none ∧ ks = []) ∨ ∃ b n D, mv = some b ∧ w.ownsMap Yba.prog 43 ptrElem b n D ∧ View D (ks.map Key.lit) (ps.map blk)
  kr : w.ownsRow 0 43 5 kv ks.length (kcells ks)
  lr : w.ownsRow 0 44 1 lv ks.length (pcells ps)
  fr : w.ownsRow 0 3 1 fv ks.length (fcells fs)
  plen : ps.length = ks.length
  flen : fs.length = ks.length
  ok : ∀ x ∈ ks, x.Ok
  foot : ∀ (j : Nat) p f, ps[j]? = some p → fs[j]? = some f → Foot w p f
  len : ks.length ≤ 1048576

theorem row_base {w : World} {base : Nat} {e : TypeId} {size : Nat} {v : Value} {n : Nat} {xs : List Value} (h : w.ownsRow base e size v n xs) : w.ownsRow 0 e size v n xs := by
  refine ⟨h.1, ?_⟩
  rcases h.2 with h' | ⟨g, cap, cur, h1, _, h3⟩
  · exact .inl h'
  · exact .inr ⟨g, cap, cur, h1, Nat.zero_le _, h3⟩

theorem Facts.of_inv {w0 : World} {B : Nat} {kv lv fv : Value} {ks : List Key} {ps : List Nat} {fs : List Int} {k : Nat} {w : World} (h : Inv w0 B kv lv fv ks ps fs k w) (hk : k ≤ 1048576) : Facts w (some B) kv lv fv ks ps fs := by
  obtain ⟨Dm, Di, c, vm, vi⟩ := h.core
  have := h.len
  exact ⟨.inr ⟨B, k, Dm, rfl, c.m, vm⟩, row_base c.kr, row_base c.lr, row_base c.fr, h.plen, h.flen, h.ok, c.foot, by omega⟩

theorem Facts.nil (w : World) : Facts w none (.slice none 0 0) (.slice none 0 0) (.slice none 0 0) [] [] [] :=
  ⟨.inl ⟨rfl, rfl⟩, World.ownsRow_nil _ _ _ _, World.ownsRow_nil _ _ _ _, World.ownsRow_nil _ _ _ _, rfl, rfl, by simp, by simp, by simp⟩

theorem Facts.later {w w' : World} {mv : Option Nat} {kv lv fv : Value} {ks : List Key} {ps : List Nat} {fs : List Int} (h : Facts w mv kv lv fv ks ps fs) (hg : w.grownBy w' none) : Facts w' mv kv lv fv ks ps fs where
  map := by
    rcases h.map with h1 | ⟨b, n, D, h1, h2, h3⟩
    · exact .inl h1
    · exact .inr ⟨b, n, D, h1, h2.kept hg (by simp), h3⟩
  kr := h.kr.kept hg (by cases kv.ownBlock <;> simp)
  lr := h.lr.kept hg (by cases lv.ownBlock <;> simp)
  fr := h.fr.kept hg (by cases fv.ownBlock <;> simp)
  plen := h.plen
  flen := h.flen
  ok := h.ok
  foot := fun j p f h1 h2 => (h.foot j p f h1 h2).keep (Keeps.of_none hg)
  len := h.len

theorem grown_of_below {w w' : World} (h : Below w.heap.size w w') : w.grownBy w' none := ⟨h.os, h.tape, h.output, h.size, fun k hk _ => h.block k hk⟩
theorem below_of_grown {w w' : World} (h : w.grownBy w' none) : Below w.heap.size w w' := ⟨h.os, h.tape, h.output, h.size, fun k hk => h.block k hk (by simp)⟩

/-- The contract of the build, in one form. -/
def Built (a : Value) (w : World) : Prop :=
  Calls Yba.prog 6 #[a] w fun f w' => ∃ mv kv lv fv ks ps fs, Facts w' mv kv lv fv ks ps fs ∧ Below w.heap.size w w' ∧ f = .returned (.tuple #[.map mv, kv, lv, fv])

/-- What the walk is told of a slice of entries that came in. -/
def IsIn (w : World) (a : Option Addr) (len cap : Nat) : Prop :=
  (a = none → len = 0 ∧ cap = 0) ∧ (0 < len → ∃ b off, a = some ⟨b, off, none⟩ ∧ b < w.heap.size ∧ Input w b off len)

theorem built (a : Option Addr) (len cap : Nat) (w : World) (h : IsIn w a len cap) (hl : len ≤ 1048576) : Built (.slice a len cap) w := by
  unfold Built
  by_cases h0 : 0 < len
  · obtain ⟨b, off, rfl, hb, hi⟩ := h.2 h0
    refine (build_any b off len cap w hl hb hi).mono ?_
    rintro f w' ⟨kv, lv, fv, ks, ps, fs, hinv, rfl⟩
    refine ⟨_, kv, lv, fv, ks, ps, fs, Facts.of_inv hinv hl, ?_, rfl⟩
    obtain ⟨_, _, c, _⟩ := hinv.core
    exact c.below
  · have hl0 : len = 0 := by omega
    subst hl0
    cases a with
    | none =>
      have := (h.1 rfl).2
      subst this
      refine (build_nil w).mono ?_
      rintro f w' ⟨rfl, rfl⟩
      exact ⟨_, _, _, _, _, _, _, Facts.nil _, Below.refl _ _, rfl⟩
    | some x =>
      refine (build_zero x cap w).mono ?_
      rintro f w' ⟨kv, lv, fv, ks, ps, fs, hinv, rfl⟩
      refine ⟨_, kv, lv, fv, ks, ps, fs, Facts.of_inv hinv (by omega), ?_, rfl⟩
      obtain ⟨_, _, c, _⟩ := hinv.core
      exact c.below

theorem Input.later {w w' : World} {b off len : Nat} (h : Input w b off len) (hb : b < w.heap.size) (hg : Below w.heap.size w w') : Input w' b off len := by
  intro i hi
  obtain ⟨e, he⟩ := h i hi
  have k : ∀ o, w'.cell? ⟨b, o, none⟩ = w.cell? ⟨b, o, none⟩ := fun o => hg.cell (p := ⟨b, o, none⟩) hb
  exact ⟨e, by rw [k]; exact he.c0, by rw [k]; exact he.c1, by rw [k]; exact he.c2, by rw [k]; exact he.c3, by rw [k]; exact he.c4, he.ok, he.fok⟩

theorem IsIn.later {w w' : World} {a : Option Addr} {len cap : Nat} (h : IsIn w a len cap) (hg : Below w.heap.size w w') : IsIn w' a len cap := by
  refine ⟨h.1, fun h0 => ?_⟩
  obtain ⟨b, off, h1, h2, h3⟩ := h.2 h0
  exact ⟨b, off, h1, Nat.lt_of_lt_of_le h2 hg.size, h3.later h2 hg⟩

/-- Forget, in one form. -/
theorem forget_any (r : Nat) (sm : Value) (nm om : Option Nat) (kept : Int) (w : World) (hr : w.heap[r]? = some (oReader (.int .i32 0) sm nm om kept)) {kv lv fv : Value} {ks : List Key} {ps : List Nat} {fs : List Int}
    (F : Facts w om kv lv fv ks ps fs) (hkw : (Lit.int .i64 kept).wf = true) :
    Calls Yba.prog 7 #[Pt r] w fun e w' => e = .returned (.tuple #[]) ∧ w'.heap[r]? = some (oReader (.int .i32 0) sm none nm (wrap64 (kept - fs.sum))) ∧ w.grownBy w' (some r) := by
  rcases F.map with ⟨rfl, hk⟩ | ⟨b, n, D, rfl, hm, hv⟩
  · have hfs : fs = [] := by
      have := F.flen
      rw [hk] at this
      exact List.eq_nil_of_length_eq_zero (by simpa using this)
    subst hfs
    have e : wrap64 (kept - ([] : List Int).sum) = kept := by
      have := bounds_i64' hkw
      simp [wrap64]; omega
    rw [e]
    exact forget_none r sm nm kept w hr
  · exact forget_some r b n sm nm kept w hr D ks ps fs hm hv F.plen F.flen F.ok F.foot hkw

theorem neq44 (x : Addr) (w : World) : (binOp .neq 44 (.pointer (some x)) (.pointer (some x))).run Yba.prog w = .ok (.bool false) w := by
  obtain ⟨j, hj⟩ : ∃ j, Yba.prog.info? 100 = some j := Option.isSome_iff_exists.1 (by kernel_rfl)
  have h : ∀ d : Nat, (Op.equalIn (d + 1) 44 (.pointer (some x)) (.pointer (some x))).run Yba.prog w = .ok true w := fun d => by
    simp [Op.equalIn, run_underlying Yba.underlying44, sizeOf, typeInfo, hj, run_sameAddr_same]
  simp only [binOp]
  simp [Op.equal, Op.maxDepth, h 9999]

theorem sum_take_succ (fs : List Int) (k : Nat) (f : Int) (h : fs[k]? = some f) : (fs.take (k + 1)).sum = (fs.take k).sum + f := by
  rw [List.take_add_one, h]; simp [List.sum_append]

/-- A row's cells, at an index. -/
theorem kcells_at : ∀ (ks : List Key) (i : Nat) (x : Key), ks[i]? = some x → ∀ j v, x.cells[j]? = some v → (kcells ks)[i * 5 + j]? = some v
  | [], i, x, h, _, _, _ => by simp at h
  | k :: ks, 0, x, h, j, v, hj => by
    have : k = x := by simpa using h
    subst this
    have hl : j < 5 := by have := (List.getElem?_eq_some_iff.1 hj).1; simpa [Key.cells] using this
    show (k.cells ++ kcells ks)[0 * 5 + j]? = some v
    rw [Nat.zero_mul, Nat.zero_add, List.getElem?_append_left (by simpa [Key.cells] using hl)]; exact hj
  | k :: ks, i + 1, x, h, j, v, hj => by
    have h' : ks[i]? = some x := by simpa using h
    show (k.cells ++ kcells ks)[(i + 1) * 5 + j]? = some v
    have e : k.cells.length = 5 := rfl
    rw [List.getElem?_append_right (by rw [e]; omega), e, show (i + 1) * 5 + j - 5 = i * 5 + j by omega]
    exact kcells_at ks i x h' j v hj
end Go.Proofs.Ybulkecbe.A
