import Derived.Test.YbulkecbeBCore
import Derived.Laws.CopyRow
import Derived.Laws.IdiomCopy
import Derived.Deep.QuietTactic
import Derived.BigQuiet
import Derived.WalkSmall
namespace Go.Proofs.Ybulkecbe.B
open Go.ChangeShapes Go.WideShapes Go.ChangeAt Go.RowKit Go.Maps

/-! ### insertion, without Go -/
/-- Inside the inner loop: v is out, its place is j; what lies behind j, up to i, is greater. -/
def Ist (xs : List Str) (i j : Nat) (v : Str) (M : List Str) : Prop :=
  ∃ A S R : List Str, A.length = j ∧ M.set j v = A ++ v :: (S ++ R) ∧ (A ++ S).length = i ∧ (A ++ S).Pairwise (· ≤ ·) ∧ (∀ s ∈ S, v < s) ∧ (A ++ v :: (S ++ R)).Perm xs

theorem Ist.start {xs L : List Str} {i : Nat} {v : Str} (hv : L[i]? = some v) (hp : L.Perm xs) (hs : (L.take i).Pairwise (· ≤ ·)) : Ist xs i i v L := by
  obtain ⟨hi, hv'⟩ := List.getElem?_eq_some_iff.1 hv
  have e : L = L.take i ++ v :: (([] : List Str) ++ L.drop (i + 1)) := by
    rw [List.nil_append, ← hv', ← List.drop_eq_getElem_cons hi, List.take_append_drop]
  refine ⟨L.take i, [], L.drop (i + 1), by simp; omega, ?_, by simp; omega, by simpa using hs, by simp, by rw [← e]; exact hp⟩
  rw [← e]
  apply List.ext_getElem?
  intro k
  by_cases h : i = k
  · subst h; rw [List.getElem?_set_self hi, hv]
  · rw [List.getElem?_set_ne h]

theorem Ist.len {xs M : List Str} {i j : Nat} {v : Str} (h : Ist xs i j v M) : M.length = xs.length ∧ j < M.length ∧ j ≤ i := by
  obtain ⟨A, S, R, h1, h2, h3, _, _, h6⟩ := h
  have e := congrArg List.length h2
  have e2 := h6.length_eq
  rw [← h2] at e2
  simp at e e2 h3
  omega

/-- What lies ahead of the place. -/
theorem Ist.before {xs M : List Str} {i j : Nat} {v : Str} (h : Ist xs i (j + 1) v M) : ∃ (A S R : List Str) (a : Str), A.length = j ∧ M[j]? = some a ∧ M.set (j + 1) v = A ++ a :: v :: (S ++ R) ∧ (A ++ a :: S).length = i ∧ (A ++ a :: S).Pairwise (· ≤ ·) ∧ (∀ s ∈ S, v < s) ∧ (A ++ a :: v :: (S ++ R)).Perm xs := by
  obtain ⟨A, S, R, h1, h2, h3, h4, h5, h6⟩ := h
  rcases List.eq_nil_or_concat A with rfl | ⟨A', a, rfl⟩
  · simp at h1
  · have hl : A'.length = j := by simpa using h1
    refine ⟨A', S, R, a, hl, ?_, by simpa using h2, by simpa using h3, by simpa using h4, h5, by simpa using h6⟩
    have : (M.set (j + 1) v)[j]? = M[j]? := List.getElem?_set_ne (by omega)
    rw [← this, h2, ← hl]
    simp

theorem set_at {A B : List Str} {x y : Str} {j : Nat} (h : A.length = j) : (A ++ x :: B).set j y = A ++ y :: B := by
  subst h; rw [List.set_append_right _ _ (Nat.le_refl _)]; simp

theorem Ist.step {xs M : List Str} {i j : Nat} {v a : Str} (h : Ist xs i (j + 1) v M) (ha : M[j]? = some a) (hlt : v < a) : Ist xs i j v (M.set (j + 1) a) := by
  obtain ⟨A, S, R, a', h1, h2, h3, h4, h5, h6, h7⟩ := h.before
  rw [ha] at h2
  cases h2
  refine ⟨A, a :: S, R, h1, ?_, h4, h5, ?_, ?_⟩
  · have e : M.set (j + 1) a = A ++ a :: a :: (S ++ R) := by
      have : M.set (j + 1) a = (M.set (j + 1) v).set (j + 1) a := by rw [List.set_set]
      rw [this, h3, show A ++ a :: v :: (S ++ R) = (A ++ [a]) ++ v :: (S ++ R) by simp, set_at (by simp [h1])]
      simp
    rw [e, set_at h1]
    simp
  · intro s hs
    rcases List.mem_cons.1 hs with rfl | hs
    · exact hlt
    · exact h6 s hs
  · refine List.Perm.trans ?_ h7
    exact List.Perm.append_left A (by simpa using List.Perm.swap a v (S ++ R))

theorem Ist.fin {xs M : List Str} {i j : Nat} {v : Str} (h : Ist xs i j v M) (hx : j = 0 ∨ ∃ j', j = j' + 1 ∧ ∃ a, M[j']? = some a ∧ ¬ v < a) : (M.set j v).Perm xs ∧ ((M.set j v).take (i + 1)).Pairwise (· ≤ ·) := by
  obtain ⟨A, S, R, h1, h2, h3, h4, h5, h6⟩ := h
  have hA : ∀ a ∈ A, a ≤ v := by
    rcases hx with rfl | ⟨j', rfl, a, ha, hn⟩
    · have : A = [] := List.eq_nil_of_length_eq_zero h1
      subst this; simp
    · rcases List.eq_nil_or_concat A with rfl | ⟨A', a', rfl⟩
      · simp at h1
      · have hl : A'.length = j' := by simpa using h1
        have : (M.set (j' + 1) v)[j']? = M[j']? := List.getElem?_set_ne (by omega)
        rw [ha, h2, ← hl] at this
        have e : a' = a := by simpa using this
        subst e
        have hav : a' ≤ v := List.not_lt.1 hn
        intro x hx
        rw [List.concat_eq_append] at hx
        rcases List.mem_append.1 hx with hx | hx
        · have hp : (A' ++ (a' :: S)).Pairwise (· ≤ ·) := by simpa using h4
          exact List.le_trans ((List.pairwise_append.1 hp).2.2 x hx a' (by simp)) hav
        · simp at hx; subst hx; exact hav
  refine ⟨by rw [h2]; exact h6, ?_⟩
  rw [h2]
  have e : (A ++ v :: (S ++ R)).take (i + 1) = A ++ v :: S := by
    have : A ++ v :: (S ++ R) = (A ++ v :: S) ++ R := by simp
    rw [this, List.take_append_of_le_length (by simp at h3 ⊢; omega), List.take_of_length_le (by simp at h3 ⊢; omega)]
  rw [e]
  have h4' := List.pairwise_append.1 h4
  refine List.pairwise_append.2 ⟨h4'.1, List.pairwise_cons.2 ⟨fun s hs => List.le_of_lt (h5 s hs), h4'.2.1⟩, ?_⟩
  intro a ha b hb
  rcases List.mem_cons.1 hb with rfl | hb
  · exact hA a ha
  · exact h4'.2.2 a ha b hb

/-- The model's '<' on strings is the lexical order of the bytes. -/
theorem less_eq : ∀ (x y : Str), Op.bytesLess x y = decide (x < y)
  | [], [] => by simp [Op.bytesLess]
  | _ :: _, [] => by simp [Op.bytesLess]
  | [], _ :: _ => by simp [Op.bytesLess]
  | a :: x, b :: y => by
    rw [Op.bytesLess, less_eq x y]
    simp only [List.cons_lt_cons_iff]
    by_cases h1 : a < b <;> by_cases h2 : a = b <;> by_cases h3 : x < y <;> simp [h1, h2, h3]

theorem gtr_run (a b : Str) : (!(Op.bytesLess a b || a == b)) = decide (b < a) := by
  rw [less_eq]
  by_cases h : b < a
  · have h1 : ¬ a < b := fun h' => List.lt_irrefl a (List.lt_trans h' h)
    have h2 : ¬ a = b := fun e => by subst e; exact List.lt_irrefl _ h
    simp [h, h1, h2]
  · have : a ≤ b := List.not_lt.1 h
    by_cases e : a = b
    · subst e; simp [h]
    · have h1 : a < b := by
        rcases List.le_total b a with h2 | h2
        · exact absurd (List.le_antisymm this h2) e
        · exact Decidable.byContradiction fun hn => e (List.le_antisymm this (List.not_lt.1 hn))
      simp [h, h1]

theorem bytes_gtr (a b : Str) : (!(Op.bytesLess (ByteArray.toList ⟨a.toArray⟩) (ByteArray.toList ⟨b.toArray⟩) || ByteArray.toList ⟨a.toArray⟩ == ByteArray.toList ⟨b.toArray⟩)) = decide (b < a) := by
  have e : ∀ x : Str, (⟨x.toArray⟩ : ByteArray).toList = x := fun x => by simp
  rw [e, e, gtr_run]

theorem run_gtr {a b : Str} {t : Bool} (h : decide (b < a) = t) (w : World) : (binOp .gtr 9 (.string ⟨a.toArray⟩) (.string ⟨b.toArray⟩)).run Yba.prog w = .ok (.bool t) w := by
  have e : binOp .gtr 9 (.string ⟨a.toArray⟩) (.string ⟨b.toArray⟩) = pure (.bool !(Op.bytesLess (ByteArray.toList ⟨a.toArray⟩) (ByteArray.toList ⟨b.toArray⟩) || ByteArray.toList ⟨a.toArray⟩ == ByteArray.toList ⟨b.toArray⟩)) := by simp [binOp, Op.stringOp]
  rw [e, bytes_gtr, h]; rfl
/-! ### make and copy -/
theorem made (w : World) (n : Nat) (hn : n ≤ 1048576) : ∃ w1, (Instr.makeSlice 47 (.int .i64 n) (.int .i64 n)).run Yba.prog w = .ok (.slice (some ⟨w.heap.size, 0, none⟩) n n) w1 ∧ w1.ownsRow w.heap.size 9 1 (.slice (some ⟨w.heap.size, 0, none⟩) n n) n (madeCells (Value.string ⟨#[]⟩).cells (n * 1)).toList ∧ w.grownBy w1 none := by
  obtain ⟨i0, hi, hz0, hz1, hz2⟩ := info_parts info9
  exact run_make_full w w.heap.size 47 9 i0 _ 1 Yba.underlying47 hi hz0 hz1 .i64 .i64 n (by rw [hz2]; omega) (by unfold maxLen; omega) (Nat.le_refl _)

theorem copied {w w1 : World} {base : Nat} {xv : Value} {xs : List Str} (hx : w.ownsRow base 9 1 xv xs.length (scells xs)) (hg : w.grownBy w1 none) {zs : List Value} (h1 : w1.ownsRow w.heap.size 9 1 (.slice (some ⟨w.heap.size, 0, none⟩) xs.length xs.length) xs.length zs) :
    ∃ w2, (∀ ty, (Builtin.copy_ #[47, 47] ty #[.slice (some ⟨w.heap.size, 0, none⟩) xs.length xs.length, xv]).run Yba.prog w1 = .ok (goInt xs.length) w2) ∧ w2.ownsRow w.heap.size 9 1 (.slice (some ⟨w.heap.size, 0, none⟩) xs.length xs.length) xs.length (scells xs) ∧ w.grownBy w2 none := by
  have hs : (Yba.prog.info? 9).map (·.size) = some 1 := by kernel_rfl
  have hsl : (scells xs).length = xs.length := by simp [scells]
  by_cases h0 : xs.length = 0
  · obtain ⟨a, c, rfl⟩ := row_shape hx
    have hnil : xs = [] := List.eq_nil_of_length_eq_zero h0
    subst hnil
    refine ⟨w1, fun ty => ?_, ?_, hg⟩
    · exact run_copy_none w1 47 47 ty 9 _ a 0 0 0 c Yba.underlying47 hs rfl
    · have hz : zs = [] := List.eq_nil_of_length_eq_zero (by simpa using h1.1)
      rw [hz] at h1
      exact h1
  · obtain ⟨g, c, rfl, hgb, hgl⟩ := hx.form (by omega)
    have hx1 := hx.kept hg (by right; simp [Value.ownBlock])
    rcases h1.2 with ⟨hh, _⟩ | ⟨g', cap, cur, hh, hb, hcur, hc1, hc2, hc3, hc4⟩
    · cases hh
    · injection hh with e1 e2 e3
      injection e1 with e1
      injection e1 with e1
      subst e1 e3
      have hcs : cur.size = xs.length := by omega
      refine ⟨w1.setRow w.heap.size (cur.toList.take 0 ++ scells xs ++ cur.toList.drop (0 + (scells xs).length)).toArray, fun ty => ?_, ?_, ?_⟩
      · have := run_copy_row (P := Yba.prog) w1 47 47 ty 9 w.heap.size 0 xs.length xs.length ⟨g, 0, none⟩ xs.length c cur 9 (scells xs) Yba.underlying47 hs hcur (by rw [hsl]; exact (Nat.min_self _).symm) (fun j v hj => by
          have hjl : j < xs.length := by have := (List.getElem?_eq_some_iff.1 hj).1; omega
          have := hx1.cellAt j (by omega)
          rw [add_plain, Nat.zero_add, this]; exact hj) (by omega) (by intro v hv; obtain ⟨x, _, rfl⟩ := List.mem_map.1 hv; rfl)
        rw [hsl] at this
        rw [hsl]
        exact this
      · have e : (cur.toList.take 0 ++ scells xs ++ cur.toList.drop (0 + (scells xs).length)) = scells xs := by
          rw [hsl, Nat.zero_add, List.drop_of_length_le (by simp; omega)]; simp
        rw [e]
        refine ⟨by rw [hsl]; omega, .inr ⟨w.heap.size, xs.length, (scells xs).toArray, rfl, Nat.le_refl _, ?_, Nat.le_refl _, hc2, by simp [hsl], ?_⟩⟩
        · simp [World.setRow, Array.getElem?_modify, hcur]
        · rw [List.take_of_length_le (by simp [hsl])]
      · refine ⟨hg.os, hg.tape, hg.output, ?_, fun k hk _ => ?_⟩
        · have := hg.size; simpa [World.setRow] using this
        · rw [setRow_other w1 w.heap.size k _ (by omega)]
          exact hg.block k hk (by simp)

theorem wpList_copy_run {P : Program} {w w' : World} {ops : Array Oper} {rest : List Oper} {o : Oper} {a : Act} {Q : Exit → Act → World → Prop} {t t' : TypeId} (hgd : o.guard = none) (s x : Operand)
    (ho : o.op = .call { callee := .builtin .copy, args := #[s, x], argTypes := #[t, t'] }) {sv xv v : Value} (hs : a.eval s = sv) (hx : a.eval x = xv)
    (hrun : ∀ ty, (Builtin.copy_ #[t, t'] ty #[sv, xv]).run P w = .ok v w') (h : wpList P ops Q rest (a.put o.dst v) w') : wpList P ops Q (o :: rest) a w := by
  refine wpList_plain hgd fun K hK => ?_
  unfold Oper.wp execOp
  simp only [ho, resolve, invoke, builtin, Sem.run_bind, Sem.run_pure, Result.andThen_ok, List.map_toArray, List.map_cons, List.map_nil, hs, hx, hrun]
  exact hK _ _ h

/-- A row of strings: what lies at an index. -/
theorem row_at {w : World} {base g n c : Nat} {xs : List Str} (h : w.ownsRow base 9 1 (.slice (some ⟨g, 0, none⟩) n c) n (scells xs)) {i : Nat} {x : Str} (hx : xs[i]? = some x) : w.cell? ⟨g, i, none⟩ = some (.string ⟨x.toArray⟩) := by
  have hl : n = xs.length := by have := h.1; simpa [scells] using this.symm
  have hi : i < xs.length := (List.getElem?_eq_some_iff.1 hx).1
  rw [h.cellAt i (by omega)]
  simp [scells, hx]

theorem row_set {w : World} {base g n c : Nat} {xs : List Str} (h : w.ownsRow base 9 1 (.slice (some ⟨g, 0, none⟩) n c) n (scells xs)) (i : Nat) (x : Str) : (w.setCell ⟨g, i, none⟩ (.string ⟨x.toArray⟩)).ownsRow base 9 1 (.slice (some ⟨g, 0, none⟩) n c) n (scells (xs.set i x)) := by
  have := (h.stored i (.string ⟨x.toArray⟩)).1
  simpa [scells, List.map_set] using this

theorem made_copied {w : World} {base : Nat} {xv : Value} {xs : List Str} {n g : Nat} (hx : w.ownsRow base 9 1 xv xs.length (scells xs)) (hn : xs.length ≤ 1048576) (en : xs.length = n) (eg : w.heap.size = g) :
    ∃ w1 w2 a c, xv = .slice a n c ∧ (Instr.makeSlice 47 (.int .i64 n) (.int .i64 n)).run Yba.prog w = .ok (.slice (some ⟨g, 0, none⟩) n n) w1 ∧
      (∀ ty, (Builtin.copy_ #[47, 47] ty #[.slice (some ⟨g, 0, none⟩) n n, .slice a n c]).run Yba.prog w1 = .ok (goInt n) w2) ∧ w2.ownsRow g 9 1 (.slice (some ⟨g, 0, none⟩) n n) n (scells xs) ∧ w.grownBy w2 none := by
  subst en eg
  obtain ⟨w1, hm, ho1, hg1⟩ := made w xs.length hn
  obtain ⟨w2, hc, ho2, hg2⟩ := copied hx hg1 ho1
  obtain ⟨ax, cx, rfl⟩ := row_shape hx
  exact ⟨w1, w2, ax, cx, rfl, hm, hc, ho2, hg2⟩

theorem take_all {L : List Str} {k : Nat} (h : L.length ≤ k) (hs : (L.take k).Pairwise (· ≤ ·)) : L.Pairwise (· ≤ ·) := by rwa [List.take_of_length_le h] at hs

set_option maxHeartbeats 4000000 in
set_option maxRecDepth 100000 in
theorem sorted_any (xv : Value) (xs : List Str) (base n g : Nat) (w : World) (hx : w.ownsRow base 9 1 xv xs.length (scells xs)) (hn : xs.length ≤ 1048576) (en : xs.length = n) (eg : w.heap.size = g) :
    Calls Yba.prog 11 #[xv] w fun e w' => ∃ ts : List Str, e = .returned (.slice (some ⟨g, 0, none⟩) n n) ∧ ts.Perm xs ∧ ts.Pairwise (· ≤ ·) ∧ w'.ownsRow g 9 1 (.slice (some ⟨g, 0, none⟩) n n) n (scells ts) ∧ w.grownBy w' none := by
  obtain ⟨w1, w2, ax, cx, rfl, hm, hc, ho2, hg2⟩ := made_copied hx hn en eg
  have HM := hide hm
  have HC := hide hc
  have hln : (n : Int) ≤ 1048576 := by omega
  have HO := hide (And.intro ho2 hg2)
  have HX := hide en
  have HG := hide eg
  clear hm hc ho2 hg2 hx en eg hn
  go_enter Yba.func11, Yba.ntmps11
  go_wp2_with fail
  rw [unhide HM]
  clear HM
  go_wp2_with fail
  rw [unhide HC]
  clear HC
  go_wp2_with fail
  go_loopw [4] (fun i wr => ∃ k : Nat, 1 ≤ k ∧ i = .int .i64 k ∧ Hid (k ≤ n + 1 ∧ ∃ L : List Str, L.Perm xs ∧ (L.take k).Pairwise (· ≤ ·) ∧ wr.ownsRow g 9 1 (.slice (some ⟨g, 0, none⟩) n n) n (scells L) ∧ w.grownBy wr none)) (fun i _ => n + 1 - (intOf i).toNat)
  case atStart =>
    refine ⟨1, Nat.le_refl _, rfl, hide ⟨by omega, xs, List.Perm.refl _, ?_, unhide HO⟩⟩
    match xs with
    | [] => simp
    | x :: xs => simp
  case round =>
    obtain ⟨k, hk1, rfl, hr⟩ := hrel
    obtain ⟨hk2, L, hp, hs, ho, hgr⟩ := unhide hr
    have hLn : L.length = n := by have := hp.length_eq; have := unhide HX; omega
    by_cases hlt : k < n
    · obtain ⟨v, hv⟩ : ∃ v, L[k]? = some v := ⟨_, List.getElem?_eq_getElem (by omega)⟩
      have hcv := row_at ho hv
      have HI := hide (And.intro (Ist.start hv hp hs) (And.intro ho hgr))
      have hlti : (k : Int) < (n : Int) := by omega
      clear hr hp hs ho hgr hv HO hLn
      go_wp2_with fail
      clear hcv
      go_loopw [6] (fun j wi => ∃ m : Nat, m ≤ k ∧ j = .int .i64 m ∧ Hid (∃ M : List Str, Ist xs k m v M ∧ wi.ownsRow g 9 1 (.slice (some ⟨g, 0, none⟩) n n) n (scells M) ∧ w.grownBy wi none)) (fun j _ => (intOf j).toNat)
      case atStart => exact ⟨k, Nat.le_refl _, rfl, hide ⟨L, unhide HI⟩⟩
      case round =>
        obtain ⟨m, hmk, rfl, hr⟩ := hrel
        obtain ⟨M, hI, ho, hgr⟩ := unhide hr
        have hfz : ∀ i, wr.frozen? ⟨g, i, none⟩ = false := fun i => ho.frozenAt i
        have hML : M.length = n := by have := hI.len.1; have := unhide HX; omega
        have hcell : ∀ i, i < n → ∃ x, M[i]? = some x ∧ wr.cell? ⟨g, i, none⟩ = some (.string ⟨x.toArray⟩) := fun i hi => ⟨_, List.getElem?_eq_getElem (by omega), row_at ho (List.getElem?_eq_getElem (by omega))⟩
        have hst : ∀ i (x : Str), w.grownBy (wr.setCell ⟨g, i, none⟩ (.string ⟨x.toArray⟩)) none := fun i x => hgr.andThen (grown_setCell wr g i (.string ⟨x.toArray⟩)) (fun j hj => by cases hj; exact .inl (Nat.le_of_eq (unhide HG)))
        match m, hmk, hI with
        | 0, hmk, hI =>
          obtain ⟨x0, hx0, hc0⟩ := hcell 0 (by omega)
          have hf0 := hfz 0
          have FI := hide (And.intro (hI.fin (.inl rfl)) (And.intro (row_set ho 0 v) (hst 0 v)))
          have hn0 : (0 : Int) < (n : Int) := by omega
          clear hr hI ho hgr hfz hML hcell hx0 HI hst
          go_wp2_with fail
          go_roundw
          case rel => exact ⟨k + 1, by omega, by go_num, hide ⟨by omega, _, (unhide FI).1.1, (unhide FI).1.2, (unhide FI).2⟩⟩
          case measure => simp [intOf]; omega
        | m + 1, hmk, hI =>
          obtain ⟨a, ha, hca⟩ := hcell m (by omega)
          obtain ⟨b, _, hcb⟩ := hcell (m + 1) (by omega)
          have hf1 := hfz (m + 1)
          have hmi : (m : Int) + 1 < (n : Int) := by omega
          by_cases hva : v < a
          · have FI := hide (And.intro (hI.step ha hva) (And.intro (row_set ho (m + 1) a) (hst (m + 1) a)))
            clear hr hI ho hgr hfz hML hcell HI hst ha
            have hd := run_gtr (b := v) (a := a) (t := true) (by simpa using hva)
            go_wp2_with fail
            go_roundw
            case rel => exact ⟨m, by omega, by go_num, hide ⟨_, unhide FI⟩⟩
            case measure => simp [intOf]
          · have FI := hide (And.intro (hI.fin (.inr ⟨m, rfl, a, ha, hva⟩)) (And.intro (row_set ho (m + 1) v) (hst (m + 1) v)))
            clear hr hI ho hgr hfz hML hcell HI hst ha
            have hd := run_gtr (b := v) (a := a) (t := false) (by simpa using hva)
            go_wp2_with fail
            go_roundw
            case rel => exact ⟨k + 1, by omega, by go_num, hide ⟨by omega, _, (unhide FI).1.1, (unhide FI).1.2, (unhide FI).2⟩⟩
            case measure => simp [intOf]; omega
    · have FI := hide (And.intro hp (And.intro (take_all (by omega) hs) (And.intro ho hgr)))
      clear hr hp hs ho hgr HO hLn
      go_wp2_with fail
      go_ret
      exact ⟨L, rfl, unhide FI⟩
end Go.Proofs.Ybulkecbe.B
