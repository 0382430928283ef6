import Derived.Test.YbulkecbeCQueue
import Derived.LaidEqlPtr
namespace Go.Proofs.Ybulkecbe.C
open Go.ChangeShapes Go.WideShapes Go.ChangeAt Go.RowKit

theorem hide {p : Prop} (h : p) : Hid p := h
theorem unhide {p : Prop} (h : Hid p) : p := h

/-- A pointer to a list is itself. -/
theorem eql77 (a : Addr) (w : World) : (binOp .eql 77 (.pointer (some a)) (.pointer (some a))).run Yba.prog w = .ok (.bool true) w := by
  obtain ⟨j, hj⟩ : ∃ j, Yba.prog.info? 81 = some j := Option.isSome_iff_exists.1 (by kernel_rfl)
  exact run_eql_ptr_same w a Yba.underlying77 hj

theorem getLast_tail {x : Nat} {r : List Nat} (h : r ≠ []) : (x :: r).getLast? = r.getLast? := by
  cases r with
  | nil => exact absurd rfl h
  | cons y s => simp [List.getLast?_cons_cons]

theorem rem_queue {w : World} {L o e c p n : Nat} {r : List Nat} (q : Queue w L o (e :: r)) (hc : P c p = nxt L o r[0]?) (hn : n = (e :: r).length) :
    Queue (remW w L o c p e n) L o r := by
  subst hn
  obtain ⟨a0, a2, a1, a3⟩ := q.link 0 e (by simp)
  have heL : e ≠ L := q.out e (by simp)
  have hnd := q.nodup
  rw [List.nodup_cons] at hnd
  have hends : w.cell? ⟨L, o, none⟩ = some (P e 0) ∧ w.cell? ⟨L, o + 1, none⟩ = some (nxt L o (e :: r).getLast?) := by
    rcases q.ends with ⟨h, _, _⟩ | h
    · simp at h
    · exact h
  have hcc : (r = [] ∧ c = L ∧ p = o) ∨ (r[0]? = some c ∧ p = 0) := by
    cases r with
    | nil => simp [nxt, P] at hc; exact .inl ⟨rfl, hc⟩
    | cons y s => simp [nxt, P] at hc; obtain ⟨rfl, rfl⟩ := hc; exact .inr ⟨rfl, rfl⟩
  have hcm : r[0]? = some c → c ∈ r := fun h => List.mem_of_getElem? h
  have hc1 : Has w c (p + 1) := by
    rcases hcc with ⟨_, rfl, rfl⟩ | ⟨h, rfl⟩
    · exact ⟨_, hends.2⟩
    · exact (q.link 1 c (by simpa using h)).2.2.1
  have key := remW_cell (n := (e :: r).length) ⟨_, hends.1⟩ ⟨_, q.len⟩ hc1 ⟨_, a0⟩ a1 ⟨_, a2⟩
  have hre : ∀ x ∈ r, x ≠ e := fun x hx h => hnd.1 (h ▸ hx)
  have hrL : ∀ x ∈ r, x ≠ L := fun x hx => q.out x (by simp [hx])
  constructor
  · rw [key]; simp
  · intro i x hx
    have hm : x ∈ r := List.mem_of_getElem? hx
    obtain ⟨b0, b2, b1, b3⟩ := q.link (i + 1) x (by simpa using hx)
    have hxL := hrL x hm
    have hxe := hre x hm
    have hl : r[0]? = some c ∧ p = 0 := by
      rcases hcc with ⟨rfl, _, _⟩ | h
      · simp at hm
      · exact h
    obtain ⟨hl, rfl⟩ := hl
    refine ⟨?_, ?_, ?_, ?_⟩
    · rw [key]; simp [hxL, hxe]; simpa using b0
    · rw [key]; simp [hxL, hxe]; simpa using b2
    · unfold Has; rw [key]
      by_cases hxc : x = c
      · subst hxc; simp [hxL, hxe]
      · simp [hxL, hxe, hxc]; exact b1
    · unfold Has; rw [key]; simp [hxL, hxe]; exact b3
  · right
    refine ⟨?_, ?_⟩
    · rw [key, ← hc]
      rcases hcc with ⟨rfl, rfl, rfl⟩ | ⟨hl, rfl⟩
      · simp [heL.symm]
      · have := (hrL c (hcm hl)).symm
        simp [heL.symm, this]
    · rw [key]
      rcases hcc with ⟨rfl, rfl, rfl⟩ | ⟨hl, rfl⟩
      · simp [heL.symm, nxt]
      · have h2 := (hrL c (hcm hl)).symm
        have hr : r ≠ [] := by intro h; subst h; simp at hl
        rw [← getLast_tail (x := e) hr]
        simp [heL.symm, h2]
        exact hends.2
  · intro x hx
    have hm : x ∈ r := List.mem_of_getElem? hx
    have hl : x = c ∧ p = 0 := by
      rcases hcc with ⟨rfl, _, _⟩ | ⟨h, h'⟩
      · simp at hm
      · rw [h] at hx; simp at hx; exact ⟨hx.symm, h'⟩
    obtain ⟨rfl, rfl⟩ := hl
    rw [key]; simp [hrL x hm, hre x hm]
  · exact hrL
  · exact hnd.2

theorem insW_below {B : Nat} {w : World} {L o c p e : Nat} {n : Int} (hL : B ≤ L) (hc : B ≤ c) (he : B ≤ e) : Below B w (insW w L o c p e n) :=
  ((((((Below.refl B w).setCell (by exact he) _).setCell (by exact he) _).setCell (by exact hc) _).setCell (by exact hL) _).setCell (by exact he) _).setCell (by exact hL) _
theorem remW_below {B : Nat} {w : World} {L o c p e : Nat} {n : Int} (hL : B ≤ L) (hc : B ≤ c) (he : B ≤ e) : Below B w (remW w L o c p e n) :=
  ((((((Below.refl B w).setCell (by exact hL) _).setCell (by exact hc) _).setCell (by exact he) _).setCell (by exact he) _).setCell (by exact he) _).setCell (by exact hL) _
theorem insW_thaw {B : Nat} {w : World} {L o c p e : Nat} {n : Int} (h : Thaw B w) : Thaw B (insW w L o c p e n) :=
  (((((h.set _ _).set _ _).set _ _).set _ _).set _ _).set _ _
theorem remW_thaw {B : Nat} {w : World} {L o c p e : Nat} {n : Int} (h : Thaw B w) : Thaw B (remW w L o c p e n) :=
  (((((h.set _ _).set _ _).set _ _).set _ _).set _ _).set _ _
theorem insW_size {w : World} {L o c p e : Nat} {n : Int} : (insW w L o c p e n).heap.size = w.heap.size := by simp [insW]
theorem remW_size {w : World} {L o c p e : Nat} {n : Int} : (remW w L o c p e n).heap.size = w.heap.size := by simp [remW]

/-- Behind insert: nothing else is touched. -/
theorem ins_touch {w : World} {L o c p n : Nat} {es : List Nat} {k : Int} (hL1 : Has (w.alloc (newE k)) L (o + 1)) (hL4 : Has (w.alloc (newE k)) L (o + 4)) (hc0 : Has (w.alloc (newE k)) c p)
    (hcc : (c = L ∧ p = o) ∨ (c ∈ es ∧ p = 0)) (hlt : L < w.heap.size) :
    Touch w (insW (w.alloc (newE k)) L o c p w.heap.size n) L o es where
  below := by
    intro B hB hE hs
    refine ((Below.refl B w).alloc hs _).trans (insW_below hB ?_ hs)
    rcases hcc with ⟨rfl, _⟩ | ⟨h, _⟩
    · exact hB
    · exact hE c h
  cell := by
    intro b i hb hbe hbL
    have n0 : (w.alloc (newE k)).cell? ⟨w.heap.size, 0, none⟩ = some (.pointer none) := by simp
    have n1 : (w.alloc (newE k)).cell? ⟨w.heap.size, 1, none⟩ = some (.pointer none) := by simp
    have n2 : (w.alloc (newE k)).cell? ⟨w.heap.size, 2, none⟩ = some (.pointer none) := by simp
    rw [insW_cell hL1 hL4 hc0 ⟨_, n0⟩ ⟨_, n1⟩ ⟨_, n2⟩, ← World.cell?_alloc_past (newE k) b i hb]
    rw [if_neg (by rintro ⟨rfl, rfl⟩; have := hbL rfl; omega), if_neg (by omega), if_neg (by rintro ⟨rfl, rfl⟩; have := hbL rfl; omega), if_neg ?_, if_neg (by omega), if_neg (by omega)]
    rintro ⟨rfl, rfl⟩
    rcases hcc with ⟨rfl, rfl⟩ | ⟨h, _⟩
    · have := hbL rfl; omega
    · exact hbe h
  thaw := fun B h => insW_thaw (h.alloc _ _)

theorem rem_touch {w : World} {L o e c p : Nat} {n : Int} {es : List Nat} (h0 : Has w L o) (h4 : Has w L (o + 4)) (g1 : Has w c (p + 1)) (e0 : Has w e 0) (e1 : Has w e 1) (e2 : Has w e 2)
    (hcc : (c = L ∧ p = o) ∨ c ∈ es) (he : e ∈ es) : Touch w (remW w L o c p e n) L o es where
  below := by
    intro B hB hE hs
    refine remW_below hB ?_ (hE e he)
    rcases hcc with ⟨rfl, _⟩ | h
    · exact hB
    · exact hE c h
  cell := by
    intro b i hb hbe hbL
    have hne : b ≠ e := fun h => hbe (h ▸ he)
    rw [remW_cell h0 h4 g1 e0 e1 e2]
    rw [if_neg (by rintro ⟨rfl, rfl⟩; have := hbL rfl; omega), if_neg (by omega), if_neg (by omega), if_neg (by omega), if_neg ?_, if_neg (by rintro ⟨rfl, rfl⟩; have := hbL rfl; omega)]
    rintro ⟨rfl, rfl⟩
    rcases hcc with ⟨rfl, rfl⟩ | h
    · have := hbL rfl; omega
    · exact hbe h
  thaw := fun B h => remW_thaw h

theorem Touch.drew {w w' : World} {L o : Nat} {es : List Nat} (t : Touch w w' L o es) : Touch w w'.drew L o es where
  below := fun B h1 h2 h3 => (t.below B h1 h2 h3).drew
  cell := fun b i h1 h2 h3 => t.cell b i h1 h2 h3
  thaw := fun B h => t.thaw B h

theorem Queue.drew {w : World} {L o : Nat} {es : List Nat} (q : Queue w L o es) : Queue w.drew L o es := q.keep (fun _ _ _ => rfl) (fun _ _ _ => rfl)

theorem rem_all {w : World} {L o e c p n : Nat} {r : List Nat} (q : Queue w L o (e :: r)) (hc : P c p = nxt L o r[0]?) (hn : n = (e :: r).length) (v3 : Value) (hv : w.cell? ⟨e, 3, none⟩ = some v3) :
    Queue (remW w L o c p e n).drew.drew L o r ∧ Touch w (remW w L o c p e n).drew.drew L o (e :: r) ∧ (remW w L o c p e n).drew.drew.heap.size = w.heap.size ∧ (remW w L o c p e n).drew.drew.cell? ⟨e, 3, none⟩ = some v3 := by
  obtain ⟨a0, a2, a1, a3⟩ := q.link 0 e (by simp)
  have heL : e ≠ L := q.out e (by simp)
  have hnd := q.nodup
  rw [List.nodup_cons] at hnd
  have hends : w.cell? ⟨L, o, none⟩ = some (P e 0) ∧ w.cell? ⟨L, o + 1, none⟩ = some (nxt L o (e :: r).getLast?) := by
    rcases q.ends with ⟨h, _, _⟩ | h
    · simp at h
    · exact h
  have hcc : (r = [] ∧ c = L ∧ p = o) ∨ (r[0]? = some c ∧ p = 0) := by
    cases r with
    | nil => simp [nxt, P] at hc; exact .inl ⟨rfl, hc⟩
    | cons y s => simp [nxt, P] at hc; obtain ⟨rfl, rfl⟩ := hc; exact .inr ⟨rfl, rfl⟩
  have hcm : r[0]? = some c → c ∈ r := fun h => List.mem_of_getElem? h
  have hc1 : Has w c (p + 1) := by
    rcases hcc with ⟨_, rfl, rfl⟩ | ⟨h, rfl⟩
    · exact ⟨_, hends.2⟩
    · exact (q.link 1 c (by simpa using h)).2.2.1
  have hce : (c = L ∧ p = o) ∨ c ∈ e :: r := by
    rcases hcc with ⟨_, h⟩ | ⟨h, _⟩
    · exact .inl h
    · exact .inr (by simp [hcm h])
  have hc3 : ¬ (e = c ∧ 3 = p + 1) := by
    rintro ⟨rfl, h⟩
    rcases hcc with ⟨_, rfl, rfl⟩ | ⟨h', rfl⟩
    · exact heL rfl
    · omega
  refine ⟨((rem_queue q hc hn).drew).drew, ((rem_touch ⟨_, hends.1⟩ ⟨_, q.len⟩ hc1 ⟨_, a0⟩ a1 ⟨_, a2⟩ hce (by simp)).drew).drew, ?_, ?_⟩
  · rw [World.size_drew, World.size_drew, remW_size]
  · rw [World.cell?_drew, World.cell?_drew, remW_cell ⟨_, hends.1⟩ ⟨_, q.len⟩ hc1 ⟨_, a0⟩ a1 ⟨_, a2⟩, if_neg (by simp [heL]), if_neg (by simp), if_neg (by simp), if_neg (by simp), if_neg hc3, if_neg (by simp [heL]), hv]

/-- remove at the front. -/
theorem pop_inner (L o e : Nat) (r : List Nat) (w : World) (q : Queue w L o (e :: r)) (B : Nat) (ht : Thaw B w) (hL : B ≤ L) (hE : ∀ x ∈ e :: r, B ≤ x) (hn : (e :: r).length ≤ 1048576) (v3 : Value) (hv : w.cell? ⟨e, 3, none⟩ = some v3) :
    Calls Yba.prog 41 #[P L o, P e 0] w fun f w' => f = .returned (.tuple #[]) ∧ Queue w' L o r ∧ Touch w w' L o (e :: r) ∧ w'.heap.size = w.heap.size ∧ w'.cell? ⟨e, 3, none⟩ = some v3 := by
  obtain ⟨a0, a2, a1, a3⟩ := q.link 0 e (by simp)
  have heL : ¬ e = L := q.out e (by simp)
  have hnd := q.nodup
  rw [List.nodup_cons] at hnd
  have hends : w.cell? ⟨L, o, none⟩ = some (P e 0) ∧ w.cell? ⟨L, o + 1, none⟩ = some (nxt L o (e :: r).getLast?) := by
    rcases q.ends with ⟨h, _, _⟩ | h
    · simp at h
    · exact h
  obtain ⟨h0, h1⟩ := hends
  have hf := q.front e (by simp)
  have tL : ∀ i, w.frozen? ⟨L, i, none⟩ = false := fun i => ht L i hL
  have te : ∀ i, w.frozen? ⟨e, i, none⟩ = false := fun i => ht e i (hE e (by simp))
  have hl := q.len
  obtain ⟨n, hnn⟩ : ∃ n, n = (e :: r).length := ⟨_, rfl⟩
  rw [← hnn] at hl hn
  cases r with
  | nil =>
    have a0' : w.cell? ⟨e, 0, none⟩ = some (P L o) := a0
    refine (remove_last L o e n _ _ w heL h0 h1 hl (by omega) (by omega) (tL _) (tL _) (tL _) a0' hf a2 (te _) (te _) (te _)).mono ?_
    rintro f w' ⟨rfl, rfl⟩
    exact ⟨rfl, rem_all q (by simp [nxt]) hnn v3 hv⟩
  | cons c s =>
    have hcL : ¬ c = L := q.out c (by simp)
    have hec : ¬ e = c := by intro h; apply hnd.1; simp [h]
    obtain ⟨b0, b2, b1, b3⟩ := q.link 1 c (by simp)
    have tc : ∀ i, w.frozen? ⟨c, i, none⟩ = false := fun i => ht c i (hE c (by simp))
    obtain ⟨c1, hc1⟩ := b1
    have a0' : w.cell? ⟨e, 0, none⟩ = some (P c 0) := a0
    refine (remove_elem L o c e n _ c1 w hcL heL hec h0 hl (by omega) (by omega) (tL _) (tL _) a0' hf a2 (te _) (te _) (te _) hc1 (tc _)).mono ?_
    rintro f w' ⟨rfl, rfl⟩
    exact ⟨rfl, rem_all q (by simp [nxt]) hnn v3 hv⟩

set_option maxRecDepth 100000 in
/-- Remove at the front: the queue's first element goes. -/
theorem pop_any (L o e : Nat) (r : List Nat) (w : World) (q : Queue w L o (e :: r)) (B : Nat) (ht : Thaw B w) (hL : B ≤ L) (hE : ∀ x ∈ e :: r, B ≤ x) (hn : (e :: r).length ≤ 1048576) :
    Calls Yba.prog 26 #[P L o, P e 0] w fun f w' => (∃ v, f = .returned v) ∧ Queue w' L o r ∧ Touch w w' L o (e :: r) ∧ w'.heap.size = w.heap.size := by
  obtain ⟨_, a2, _, a3⟩ := q.link 0 e (by simp)
  obtain ⟨v3, hv3⟩ := a3
  have HC := hide (pop_inner L o e r w q B ht hL hE hn v3 hv3)
  clear q ht hE hn hv3 hL
  have he := eql77
  go_enter Yba.func26, Yba.ntmps26
  go_wp2_with fail
  refine (unhide HC).mono ?_
  rintro f w' ⟨rfl, hq, htt, hs, hv⟩
  have fin := hide (And.intro hq (And.intro htt hs))
  clear hq htt hs
  go_wp2_with fail
  go_ret
  exact ⟨⟨_, rfl⟩, unhide fin⟩

theorem push_all {w : World} {L o c p n : Nat} {es : List Nat} {k : Int} (q : Queue w L o es)
    (hc : P c p = nxt L o es.getLast?) (hcp : es = [] → c = L ∧ p = o) (hn : n = es.length) (hlt : ∀ x ∈ es, x < w.heap.size) (h0 : es = [] → w.cell? ⟨L, o, none⟩ = some (P L o)) :
    Queue (insW (w.alloc (newE k)) L o c p w.heap.size n) L o (es ++ [w.heap.size]) ∧ Touch w (insW (w.alloc (newE k)) L o c p w.heap.size n) L o es ∧ (insW (w.alloc (newE k)) L o c p w.heap.size n).heap.size = w.heap.size + 1 := by
  have hLs : L < w.heap.size := World.block_lt_of_cell? _ _ q.len
  have kL : ∀ i, (w.alloc (newE k)).cell? ⟨L, i, none⟩ = w.cell? ⟨L, i, none⟩ := fun i => World.cell?_alloc_past _ _ _ hLs
  have q' : Queue (w.alloc (newE k)) L o es := q.keep (fun i _ _ => kL i) (fun x hx i => World.cell?_alloc_past _ _ _ (hlt x hx))
  have hL0 : Has w L o := by
    rcases q.ends with ⟨_, h, _⟩ | ⟨h, _⟩ <;> exact ⟨_, h⟩
  have hL1 : Has w L (o + 1) := by
    rcases q.ends with ⟨_, _, h⟩ | ⟨_, h⟩ <;> exact ⟨_, h⟩
  have hcc : (es = [] ∧ c = L ∧ p = o) ∨ (es.getLast? = some c ∧ p = 0) := by
    cases hg : es.getLast? with
    | none => rw [List.getLast?_eq_none_iff] at hg; exact .inl ⟨hg, hcp hg⟩
    | some x => rw [hg] at hc; simp [nxt, P] at hc; obtain ⟨rfl, rfl⟩ := hc; exact .inr ⟨rfl, rfl⟩
  have hcm : es.getLast? = some c → c ∈ es := fun h => List.mem_of_getLast? h
  refine ⟨ins_queue q' hc hcp hn hLs hlt (fun h => by rw [kL]; exact h0 h), ins_touch ?_ ?_ ?_ ?_ hLs, ?_⟩
  · unfold Has; rw [kL]; exact hL1
  · exact ⟨_, q'.len⟩
  · rcases hcc with ⟨_, rfl, rfl⟩ | ⟨h, rfl⟩
    · unfold Has; rw [kL]; exact hL0
    · exact ⟨_, (q'.link _ _ (getLast_some h)).1⟩
  · rcases hcc with ⟨_, h⟩ | ⟨h, h'⟩
    · exact .inl h
    · exact .inr ⟨hcm h, h'⟩
  · rw [insW_size, World.size_alloc]

theorem initW_cell {w : World} {b o : Nat} (h0 : Has w b o) (h1 : Has w b (o + 1)) (h4 : Has w b (o + 4)) (x i : Nat) :
    (initW w b o).cell? ⟨x, i, none⟩ = if x = b ∧ i = o + 4 then some (.int .i64 0) else if x = b ∧ i = o + 1 then some (P b o) else if x = b ∧ i = o then some (P b o) else w.cell? ⟨x, i, none⟩ := by
  unfold initW
  rw [cset ((h4.set _ _).set _ _), cset (h1.set _ _), cset h0]

/-- A queue that nobody has touched yet, laid. -/
theorem init_queue {w : World} {L o : Nat} (q : Queue w L o []) : Queue (initW w L o) L o [] ∧ (initW w L o).cell? ⟨L, o, none⟩ = some (P L o) ∧ (∀ b i, (b = L → i < o ∨ o + 5 ≤ i) → (initW w L o).cell? ⟨b, i, none⟩ = w.cell? ⟨b, i, none⟩) := by
  have hL0 : Has w L o := by
    rcases q.ends with ⟨_, h, _⟩ | ⟨h, _⟩ <;> exact ⟨_, h⟩
  have hL1 : Has w L (o + 1) := by
    rcases q.ends with ⟨_, _, h⟩ | ⟨_, h⟩ <;> exact ⟨_, h⟩
  have key := initW_cell hL0 hL1 ⟨_, q.len⟩
  refine ⟨⟨?_, by simp, .inr ?_, by simp, by simp, by simp⟩, ?_, ?_⟩
  · rw [key]; simp
  · rw [key, key]; simp [nxt]
  · rw [key]; simp
  · intro b i h
    rw [key, if_neg (by rintro ⟨rfl, rfl⟩; have := h rfl; omega), if_neg (by rintro ⟨rfl, rfl⟩; have := h rfl; omega), if_neg (by rintro ⟨rfl, rfl⟩; have := h rfl; omega)]

theorem Touch.ofInit {w w' : World} {L o : Nat} (q : Queue w L o []) (t : Touch (initW w L o) w' L o []) : Touch w w' L o [] where
  below := by
    intro B hB hE hs
    refine Below.trans ((((Below.refl B w).setCell (by exact hB) _).setCell (by exact hB) _).setCell (by exact hB) _) (t.below B hB hE (by simpa [initW] using hs))
  cell := by
    intro b i hb hbe hbL
    rw [t.cell b i (by simpa [initW] using hb) hbe hbL]
    exact (init_queue q).2.2 b i hbL
  thaw := fun B h => t.thaw B (((h.set _ _).set _ _).set _ _)

set_option maxRecDepth 100000 in
/-- PushBack: the queue has one element more, a new block. -/
theorem push_any (L o : Nat) (es : List Nat) (k : Int) (w : World) (q : Queue w L o es) (B : Nat) (ht : Thaw B w) (hL : B ≤ L) (hE : ∀ x ∈ es, B ≤ x) (hlt : ∀ x ∈ es, x < w.heap.size) (hn : es.length ≤ 1048576) :
    Calls Yba.prog 27 #[P L o, .iface 3 (.int .i64 k)] w fun f w' => (∃ v, f = .returned v) ∧ Queue w' L o (es ++ [w.heap.size]) ∧ Touch w w' L o es ∧ w'.heap.size = w.heap.size + 1 := by
  have tL : ∀ i, w.frozen? ⟨L, i, none⟩ = false := fun i => ht L i hL
  have hl := q.len
  obtain ⟨n, hnn⟩ : ∃ n, n = es.length := ⟨_, rfl⟩
  rw [← hnn] at hl hn
  rcases q.ends with ⟨rfl, h0, h1⟩ | ⟨h0, h1⟩
  · -- not laid yet
    obtain ⟨q', h0', hk⟩ := init_queue q
    have hn0 : n = 0 := by simpa using hnn
    subst hn0
    have hs : (initW w L o).heap.size = w.heap.size := by simp [initW]
    have H1 := hide (lazy_nil L o w _ _ h0 h1 hl (tL _) (tL _) (tL _))
    have tI : ∀ i, (initW w L o).frozen? ⟨L, i, none⟩ = false := fun i => ((((ht.set _ _).set _ _).set _ _) : Thaw B (initW w L o)) L i hL
    have h1' : (initW w L o).cell? ⟨L, o + 1, none⟩ = some (P L o) := by
      rcases q'.ends with ⟨_, h, _⟩ | ⟨_, h⟩
      · rw [h0'] at h; simp at h
      · exact h
    have H2 := hide (value_root L o 0 k _ (initW w L o) h1' q'.len (by omega) (by omega) (tI _) (tI _) h0' (tI _))
    have pa := push_all (k := k) (n := 0) (c := L) (p := o) q' rfl (fun _ => ⟨rfl, rfl⟩) rfl (by simp) (fun _ => h0')
    rw [hs] at pa
    have fin := hide (And.intro pa.1 (And.intro (Touch.ofInit q pa.2.1) pa.2.2))
    rw [hs] at H2
    have G1 := hide h1'
    generalize initW w L o = wi at *
    clear pa q q' h0' hk tI h1' h0 h1 hl hs ht tL hnn hn hE hlt hL
    go_enter Yba.func27, Yba.ntmps27
    go_wp2_with fail
    refine (unhide H1).mono ?_
    rintro f w' ⟨rfl, rfl⟩
    have h1' := unhide G1
    go_wp2_with fail
    refine (unhide H2).mono ?_
    rintro f w'' ⟨rfl, rfl⟩
    go_wp2_with fail
    go_ret
    exact ⟨⟨_, rfl⟩, unhide fin⟩
  · cases hg : es.getLast? with
    | none =>
      rw [List.getLast?_eq_none_iff] at hg
      subst hg
      have hn0 : n = 0 := by simpa using hnn
      subst hn0
      have h0' : w.cell? ⟨L, o, none⟩ = some (P L o) := h0
      have h1' : w.cell? ⟨L, o + 1, none⟩ = some (P L o) := h1
      have H2 := hide (value_root L o 0 k _ w h1' hl (by omega) (by omega) (tL _) (tL _) h0' (tL _))
      have fin := hide (push_all (k := k) (n := 0) (c := L) (p := o) q rfl (fun _ => ⟨rfl, rfl⟩) rfl (by simp) (fun _ => h0'))
      have H1 := hide (lazy_some L o _ w h0')
      clear q h0 h1 h0' hl ht tL hnn hn hE hlt hL
      go_enter Yba.func27, Yba.ntmps27
      go_wp2_with fail
      refine (unhide H1).mono ?_
      rintro f w' ⟨rfl, rfl⟩
      go_wp2_with fail
      refine (unhide H2).mono ?_
      rintro f w'' ⟨rfl, rfl⟩
      go_wp2_with fail
      go_ret
      exact ⟨⟨_, rfl⟩, unhide fin⟩
    | some c =>
      have hcm : c ∈ es := List.mem_of_getLast? hg
      have hcl := getLast_some hg
      have hcL : ¬ c = L := q.out c hcm
      rw [hg] at h1
      have h1' : w.cell? ⟨L, o + 1, none⟩ = some (P c 0) := h1
      have hc0 : w.cell? ⟨c, 0, none⟩ = some (P L o) := by
        rw [(q.link _ _ hcl).1]
        have : es.length - 1 + 1 = es.length := by
          have := (List.getElem?_eq_some_iff.1 hcl).1
          omega
        rw [this]; simp [nxt]
      have tc : ∀ i, w.frozen? ⟨c, i, none⟩ = false := fun i => ht c i (hE c hcm)
      have hne : es ≠ [] := by intro h; subst h; simp at hg
      have H2 := hide (value_elem L o c n k _ w hcL h1' hl (by omega) (by omega) (tL _) (tL _) hc0 (tc _))
      have fin := hide (push_all (k := k) (n := n) (c := c) (p := 0) q (by rw [hg]; rfl) (fun h => absurd h hne) hnn hlt (fun h => absurd h hne))
      obtain ⟨x, hx⟩ : ∃ x, es[0]? = some x := by
        cases es with
        | nil => exact absurd rfl hne
        | cons y s => exact ⟨y, rfl⟩
      rw [hx] at h0
      have h0' : w.cell? ⟨L, o, none⟩ = some (P x 0) := h0
      have H1 := hide (lazy_some L o _ w h0')
      clear q h0 h1 h0' hl ht tL hc0 tc hx hcl hg hnn hE hlt
      go_enter Yba.func27, Yba.ntmps27
      go_wp2_with fail
      refine (unhide H1).mono ?_
      rintro f w' ⟨rfl, rfl⟩
      go_wp2_with fail
      refine (unhide H2).mono ?_
      rintro f w'' ⟨rfl, rfl⟩
      go_wp2_with fail
      go_ret
      exact ⟨⟨_, rfl⟩, unhide fin⟩
end Go.Proofs.Ybulkecbe.C
