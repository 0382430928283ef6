import Derived.Test.YbulkecdiCore
import Derived.Deep.QuietTactic
import Derived.BigQuiet
import Derived.WalkSmall
import Derived.Deep.Cut
import Derived.Deep.CutRange
namespace Go.Proofs.Ybulkecdi
open Go.ChangeShapes Go.WideShapes Go.ChangeAt Go.RowKit

/-- The links behind k rounds of the second loop. -/
def pvs (base k : Nat) (t : Nat) : Value := if t < k ∧ 0 < t then Pt (base + (t - 1)) else Nl
def nxs (base n k : Nat) (t : Nat) : Value := if t < k ∧ t + 1 < n then Pt (base + (t + 1)) else Nl

theorem pvs_zero (base t : Nat) : pvs base 1 t = pvs base 0 t := by
  unfold pvs; rw [if_neg (by omega), if_neg (by omega)]
theorem pvs_step (base j t : Nat) : pvs base (j + 1 + 1) t = if t = j + 1 then Pt (base + j) else pvs base (j + 1) t := by
  unfold pvs
  by_cases e : t = j + 1
  · subst e; rw [if_pos (by omega), if_pos rfl]; simp
  · rw [if_neg e]
    by_cases h : t < j + 1 ∧ 0 < t
    · rw [if_pos h, if_pos (by omega)]
    · rw [if_neg h, if_neg (by omega)]
theorem nxs_step (base n k t : Nat) (h : k + 1 < n) : nxs base n (k + 1) t = if t = k then Pt (base + (k + 1)) else nxs base n k t := by
  unfold nxs
  by_cases e : t = k
  · subst e; rw [if_pos (by omega), if_pos rfl]
  · rw [if_neg e]
    by_cases h' : t < k ∧ t + 1 < n
    · rw [if_pos h', if_pos (by omega)]
    · rw [if_neg h', if_neg (by omega)]
theorem nxs_last (base n k t : Nat) (h : ¬ k + 1 < n) : nxs base n (k + 1) t = nxs base n k t := by
  unfold nxs
  by_cases h' : t < k ∧ t + 1 < n
  · rw [if_pos h', if_pos (by omega)]
  · rw [if_neg h', if_neg (by omega)]

theorem nodes0 {w0 w : World} {Q G base n : Nat} {v : Nat → Int} (hb : Below w0.heap.size w0 w) (hq : w.heap[Q]? = some (oQ Nl Nl)) (hf : Filled w G n 0 base) : St w0 w Q G base n 0 0 v Nl Nl (fun _ => Nl) (fun _ => Nl) :=
  ⟨hb, hq, hf, fun t ht => by omega⟩
/-- A round of the first loop. -/
theorem St.new {w0 w : World} {Q G base n k : Nat} {v : Nat → Int} (h : St w0 w Q G base n k k v Nl Nl (fun _ => Nl) (fun _ => Nl)) (hs : w.heap.size = base + k) (hk : k < n) (hG : G < base) (hQG : Q ≠ G) (h0' : w0.heap.size ≤ G) :
    St w0 ((w.setCell ⟨G, k, none⟩ (Pt (base + k))).alloc (oW Nl k Nl (v k) false (Pt Q) Nl Nl)) Q G base n (k + 1) (k + 1) v Nl Nl (fun _ => Nl) (fun _ => Nl) ∧
    ((w.setCell ⟨G, k, none⟩ (Pt (base + k))).alloc (oW Nl k Nl (v k) false (Pt Q) Nl Nl)).heap.size = base + (k + 1) := by
  have hb : Below w0.heap.size w0 (w.setCell ⟨G, k, none⟩ (Pt (base + k))) := h.below.setCell (by simp; omega) _
  have hs' : (w.setCell ⟨G, k, none⟩ (Pt (base + k))).heap.size = base + k := by simpa using hs
  have hk2 : ∀ j, j < base + k → ((w.setCell ⟨G, k, none⟩ (Pt (base + k))).alloc (oW Nl k Nl (v k) false (Pt Q) Nl Nl)).heap[j]? = (w.setCell ⟨G, k, none⟩ (Pt (base + k))).heap[j]? := fun j hj => (MapKept.heap_alloc _ _).2 j (by omega)
  refine ⟨⟨hb.alloc hb.size _, ?_, (h.row.step hk).kept (hk2 G (by omega)), fun t ht => ?_⟩, by simp; omega⟩
  · have := (Array.getElem?_eq_some_iff.1 h.q).1
    rw [hk2 Q (by omega), set_other hQG]; exact h.q
  · by_cases e : t = k
    · subst e
      have := (MapKept.heap_alloc (w.setCell ⟨G, t, none⟩ (Pt (base + t))) (oW Nl t Nl (v t) false (Pt Q) Nl Nl)).1
      rw [hs'] at this
      exact this
    · rw [hk2 _ (by omega), set_other (by omega)]
      exact h.node t (by omega)

theorem St.links {w0 w : World} {Q G base n m k : Nat} {v : Nat → Int} {hd tl : Value} {pv nx pv' nx' : Nat → Value} (h : St w0 w Q G base n m k v hd tl pv nx) (hp : ∀ t, t < k → pv' t = pv t) (hn : ∀ t, t < k → nx' t = nx t) : St w0 w Q G base n m k v hd tl pv' nx' :=
  ⟨h.below, h.q, h.row, fun t ht => by rw [hp t ht, hn t ht]; exact h.node t ht⟩

theorem St.later {w0 w w' : World} {Q G base n m k : Nat} {v : Nat → Int} {hd tl : Value} {pv nx : Nat → Value} (h : St w0 w Q G base n m k v hd tl pv nx) (hg : w.grownBy w' none) : St w0 w' Q G base n m k v hd tl pv nx :=
  h.same (h.below.grown hg h.below.size (by simp)) (fun j hj => hg.block j hj (by simp))
theorem blk_later {w w' : World} {b : Nat} {o : Obj} (h : w.heap[b]? = some o) (hg : w.grownBy w' none) : w'.heap[b]? = some o := by
  rw [hg.block b (Array.getElem?_eq_some_iff.1 h).1 (by simp)]; exact h
theorem grown_drewN (w : World) (n : Nat) : w.grownBy (w.drewN n) none := ⟨rfl, rfl, rfl, Nat.le_refl _, fun _ _ _ => rfl⟩
theorem pvs_at0 (base n : Nat) : pvs base n 0 = Nl := by unfold pvs; rw [if_neg (by omega)]
theorem pvs_at (base n j : Nat) (h : j + 1 < n) : pvs base n (j + 1) = Pt (base + j) := by unfold pvs; rw [if_pos (by omega)]; simp
theorem nxs_at (base n k : Nat) (h : k + 1 < n) : nxs base n n k = Pt (base + (k + 1)) := by unfold nxs; rw [if_pos (by omega)]

abbrev oSl : Obj := .cells #[.nilIface, .int .u32 0, .int .u32 0, .int .u64 0, .pointer none, .pointer none, .int .u64 0, .int .i32 0, .int .u32 0, .bool false, .int .i32 0, .int .i64 0] 51
abbrev oE : Obj := oW Nl (-1) Nl 7 false Nl Nl Nl

/-- The three new blocks behind the nodes. -/
theorem three {w0 w : World} {Q G base n : Nat} {v : Nat → Int} {hd tl : Value} {pv nx : Nat → Value} (S : St w0 w Q G base n n n v hd tl pv nx) (oW' : Obj) : St w0 (((w.alloc oSl).alloc oE).alloc oW') Q G base n n n v hd tl pv nx ∧
    (((w.alloc oSl).alloc oE).alloc oW').heap[w.heap.size + 1]? = some oE ∧ (((w.alloc oSl).alloc oE).alloc oW').heap[w.heap.size + 1 + 1]? = some oW' := by
  refine ⟨((S.alloc _).alloc _).alloc _, ?_, ?_⟩
  · rw [(MapKept.heap_alloc _ _).2 _ (by simp)]
    have := (MapKept.heap_alloc (w.alloc oSl) oE).1
    simpa using this
  · have := (MapKept.heap_alloc ((w.alloc oSl).alloc oE) oW').1
    simpa using this

theorem after_nil {w0 w : World} {Q G base : Nat} {v : Nat → Int} {pv nx : Nat → Value} (S : St w0 w Q G base 0 0 0 v Nl Nl pv nx) {W E : Nat} {s c q pw nw : Value} {i x : Int} {ok : Bool} (hW : w.heap[W]? = some (oW s i c x ok q pw nw)) (hE : w.heap[E]? = some oE) (hWb : base ≤ W) (hEb : base ≤ E) (hne : E ≠ W) (hQ : Q < base) (hG : G < base) (hQG : Q ≠ G) (h0 : w0.heap.size ≤ Q) :
    St w0 ((((w.setCell ⟨W, 5, none⟩ (Pt Q)).setCell ⟨W, 6, none⟩ Nl).setCell ⟨Q, 0, none⟩ (Pt W)).setCell ⟨Q, 1, none⟩ (Pt W)) Q G base 0 0 0 v (Pt W) (Pt W) pv nx ∧
    ((((w.setCell ⟨W, 5, none⟩ (Pt Q)).setCell ⟨W, 6, none⟩ Nl).setCell ⟨Q, 0, none⟩ (Pt W)).setCell ⟨Q, 1, none⟩ (Pt W)).heap[W]? = some (oW s i c x ok (Pt Q) Nl nw) ∧
    ((((w.setCell ⟨W, 5, none⟩ (Pt Q)).setCell ⟨W, 6, none⟩ Nl).setCell ⟨Q, 0, none⟩ (Pt W)).setCell ⟨Q, 1, none⟩ (Pt W)).heap[E]? = some oE := by
  refine ⟨(((S.other (by omega) hQ hG h0).other (by omega) hQ hG h0).head hQ hQG h0 _).tail hQ hQG h0 _, ?_, ?_⟩
  · rw [set_other (by omega), set_other (by omega)]
    exact w_set6 (w_set5 hW _) _
  · rw [set_other (by omega), set_other (by omega), set_other (by omega), set_other (by omega)]
    exact hE

theorem after_some {w0 w : World} {Q G base m : Nat} {v : Nat → Int} {hd tl : Value} {pv nx : Nat → Value} (S : St w0 w Q G base (m + 1) (m + 1) (m + 1) v hd tl pv nx) {W E : Nat} {s c q pw nw : Value} {i x : Int} {ok : Bool} (hW : w.heap[W]? = some (oW s i c x ok q pw nw)) (hE : w.heap[E]? = some oE) (hWb : base + (m + 1) ≤ W) (hEb : base + (m + 1) ≤ E) (hne : E ≠ W) (hQ : Q < base) (hG : G < base) (hQG : Q ≠ G) (h0 : w0.heap.size ≤ Q) :
    St w0 ((((w.setCell ⟨W, 5, none⟩ (Pt Q)).setCell ⟨W, 6, none⟩ (Pt (base + m))).setCell ⟨base + m, 7, none⟩ (Pt W)).setCell ⟨Q, 1, none⟩ (Pt W)) Q G base (m + 1) (m + 1) (m + 1) v hd (Pt W) pv (fun t => if t = m then Pt W else nx t) ∧
    ((((w.setCell ⟨W, 5, none⟩ (Pt Q)).setCell ⟨W, 6, none⟩ (Pt (base + m))).setCell ⟨base + m, 7, none⟩ (Pt W)).setCell ⟨Q, 1, none⟩ (Pt W)).heap[W]? = some (oW s i c x ok (Pt Q) (Pt (base + m)) nw) ∧
    ((((w.setCell ⟨W, 5, none⟩ (Pt Q)).setCell ⟨W, 6, none⟩ (Pt (base + m))).setCell ⟨base + m, 7, none⟩ (Pt W)).setCell ⟨Q, 1, none⟩ (Pt W)).heap[E]? = some oE := by
  refine ⟨(((S.other hWb hQ hG h0).other hWb hQ hG h0).next (i := m) (by omega) hQ hG h0 _ (fun t _ => rfl)).tail hQ hQG h0 _, ?_, ?_⟩
  · rw [set_other (by omega), set_other (by omega)]
    exact w_set6 (w_set5 hW _) _
  · rw [set_other (by omega), set_other (by omega), set_other (by omega), set_other (by omega)]
    exact hE

set_option maxHeartbeats 4000000 in
set_option maxRecDepth 100000 in
theorem law_of (a : Option Addr) (n ca : Nat) (v : Nat → Int) (wv wi : Int) (wn : Bool) (w : World) (hA : Vals w a n v) (hl : n ≤ 65536) :
    Calls Yba.prog 3 #[.slice a n ca, .int .i64 wv, .int .i64 wi, .bool wn] w fun e w' => e = .returned (.bool true) ∧ Below w.heap.size w w' := by
  have hl1 : (n : Int) ≤ 65536 := by omega
  have HA := hide hA
  obtain ⟨w1, hmk, hfil, hg1, hs1⟩ := made (w.alloc (oQ Nl Nl)) n hl (w.heap.size + 2)
  have S0 := hide (And.intro (nodes0 (v := v) (w0 := w) (((Below.refl _ _).alloc (Nat.le_refl _) (oQ Nl Nl)).grown hg1 (by simp) (by simp)) (Q := w.heap.size) (by
    rw [hg1.block w.heap.size (by simp) (by simp)]; exact (MapKept.heap_alloc w _).1) hfil) hs1)
  have HM := hide hmk
  clear hA hmk hfil hg1 hs1
  go_enter Yba.func3, Yba.ntmps3
  go_wp2_with fail
  rw [unhide HM]
  clear HM
  go_wp2_with fail
  have hsz : (w.alloc (oQ Nl Nl)).heap.size = w.heap.size + 1 := by simp
  rw [hsz] at S0
  clear hsz
  go_loopw [12] (fun i wr => ∃ k : Nat, k ≤ n ∧ i = .int .i64 k ∧ Hid (St w wr w.heap.size (w.heap.size + 1) (w.heap.size + 2) n k k v Nl Nl (fun _ => Nl) (fun _ => Nl) ∧ wr.heap.size = w.heap.size + 2 + k)) (fun i _ => n - (intOf i).toNat)
  case atStart => exact ⟨0, Nat.zero_le _, rfl, hide (unhide S0)⟩
  case round =>
    clear S0
    obtain ⟨k, hk, rfl, hr⟩ := hrel
    obtain ⟨hS, hsz⟩ := unhide hr
    by_cases hlt : k < n
    · obtain ⟨ba, oa, rfl, hba, hin⟩ := unhide HA (by omega)
      have cx := hS.below.cell (p := ⟨ba, oa + k, none⟩) hba
      rw [hin k hlt] at cx
      have hlt1 : (k : Int) < (n : Int) := by omega
      obtain ⟨⟨ug, hcg⟩, hzg⟩ := hS.row.cell hlt
      have hGl : w.heap.size + 1 < wr.heap.size := by omega
      have hbl : ba < wr.heap.size := by omega
      have FI := hide (hS.new hsz hlt (by omega) (by omega) (by omega))
      rw [← hsz] at FI
      clear hr hS hin HA hsz
      go_wp2_with fail
      go_roundw
      case rel => exact ⟨k + 1, by omega, by go_num, FI⟩
      case measure => simp [intOf]; omega
    · have hkn : n = k := by omega
      subst hkn
      have S1 := hide (And.intro hS hsz)
      clear hr hS hlt hk hsz
      go_wp2_with fail
      go_loopw [13] (fun i wr => ∃ k : Nat, k ≤ n ∧ i = .int .i64 k ∧ Hid (St w wr w.heap.size (w.heap.size + 1) (w.heap.size + 2) n n n v Nl Nl (pvs (w.heap.size + 2) k) (nxs (w.heap.size + 2) n k) ∧ wr.heap.size = w.heap.size + 2 + n)) (fun i _ => n - (intOf i).toNat)
      case atStart => exact ⟨0, Nat.zero_le _, rfl, hide ⟨(unhide S1).1.links (fun t _ => by simp [pvs]) (fun t _ => by simp [nxs]), (unhide S1).2⟩⟩
      case round => as_aux_lemma =>
        clear S1
        obtain ⟨k, hk, rfl, hr⟩ := hrel
        obtain ⟨hS, hsz⟩ := unhide hr
        by_cases hlt : k < n
        · have hlt1 : (k : Int) < (n : Int) := by omega
          have hck := hS.row.at hlt hlt
          obtain ⟨n0, n1, n2, n3, n4, n5, n6, n7, nz⟩ := w_cells (hS.node k hlt)
          have nz6 := nz 6
          have nz7 := nz 7
          match k, hk, hlt, hlt1, hS, hck, n0, n1, n2, n3, n4, n5, n6, n7, nz6, nz7 with
          | 0, hk, hlt, hlt1, hS, hck, n0, n1, n2, n3, n4, n5, n6, n7, nz6, nz7 =>
            clear nz n0 n1 n2 n3 n4 n5
            by_cases h2 : 0 + 1 < n
            · have h21 : (1 : Int) < (n : Int) := by omega
              have hcn := hS.row.at h2 h2
              have FI := hide (And.intro (((hS.next (i := 0) hlt (by omega) (by omega) (Nat.le_refl _) (Pt (w.heap.size + 2 + (0 + 1))) (fun t _ => nxs_step _ _ 0 t h2)).links (fun t _ => pvs_zero _ t) (fun t _ => rfl)).drewN 1) hsz)
              clear hS hr hsz
              go_wp2_with fail
              go_region
              go_wp2_with fail
              go_roundw
              case rel => exact ⟨1, by omega, by go_num, hide ⟨(unhide FI).1, by simpa using (unhide FI).2⟩⟩
              case measure => simp [intOf]; omega
            · have h21 : (n : Int) ≤ 1 := by omega
              have FI := hide (And.intro (hS.links (fun t _ => pvs_zero _ t) (fun t _ => nxs_last _ _ 0 t h2)) hsz)
              clear hS hr hsz
              go_wp2_with fail
              go_roundw
              case rel => exact ⟨1, by omega, by go_num, FI⟩
              case measure => simp [intOf]; omega
          | j + 1, hk, hlt, hlt1, hS, hck, n0, n1, n2, n3, n4, n5, n6, n7, nz6, nz7 =>
            clear nz n0 n1 n2 n3 n4 n5
            have hcp := hS.row.at (i := j) (by omega) (by omega)
            have hne1 : ¬ w.heap.size + 1 = w.heap.size + 2 + (j + 1) := by omega
            have hne2 : ¬ w.heap.size + 2 + (j + 1) = w.heap.size + 1 := by omega
            have S1 := hS.prev (i := j + 1) hlt (by omega) (by omega) (Nat.le_refl _) (Pt (w.heap.size + 2 + j)) (fun t _ => pvs_step _ j t)
            by_cases h2 : j + 1 + 1 < n
            · have h21 : (j : Int) + 1 + 1 < (n : Int) := by omega
              have hcn := hS.row.at h2 h2
              have FI := hide (And.intro ((S1.next (i := j + 1) hlt (by omega) (by omega) (Nat.le_refl _) (Pt (w.heap.size + 2 + (j + 1 + 1))) (fun t _ => nxs_step _ _ (j + 1) t h2)).drewN 2) hsz)
              clear hS hr hsz S1
              go_wp2_with fail
              go_region
              go_wp2_with fail
              go_region
              go_wp2_with fail
              go_roundw
              case rel => exact ⟨j + 1 + 1, by omega, by go_num, hide ⟨(unhide FI).1, by simpa using (unhide FI).2⟩⟩
              case measure => simp [intOf]; omega
            · have h21 : (n : Int) ≤ (j : Int) + 1 + 1 := by omega
              have FI := hide (And.intro ((S1.links (fun t _ => rfl) (fun t _ => nxs_last _ _ (j + 1) t h2)).drewN 1) hsz)
              clear hS hr hsz S1
              go_wp2_with fail
              go_region
              go_wp2_with fail
              go_roundw
              case rel => exact ⟨j + 1 + 1, by omega, by go_num, hide ⟨(unhide FI).1, by simpa using (unhide FI).2⟩⟩
              case measure => simp [intOf]; omega
        · have hkn : n = k := by omega
          subst hkn
          have S2 := hide (And.intro hS hsz)
          clear hr hS hlt hk hsz
          rcases Nat.eq_zero_or_pos n with h00 | h00
          · subst h00
            cases wn
            · obtain ⟨S3, hE3, hW3⟩ := three (unhide S2).1 (oW (Pt wr.heap.size) wi Nl wv true Nl Nl Nl)
              have hsz := (unhide S2).2
              have PU := hide (push_nil w.heap.size (wr.heap.size + 1 + 1) _ (by omega) S3.q hW3)
              have AF := hide (after_nil S3 hW3 hE3 (by omega) (by omega) (by omega) (by omega) (by omega) (by omega) (Nat.le_refl _))
              clear S3 hE3 hW3 S2
              have hsz' : w.heap.size < wr.heap.size := by omega
              clear hsz
              go_wp2_with fail
              refine (unhide PU).mono ?_
              rintro e wf ⟨rfl, hwf⟩
              have S4 := (unhide AF).1
              have hW4 := (unhide AF).2.1
              have hE4 := (unhide AF).2.2
              rw [← hwf] at S4 hW4 hE4
              obtain ⟨qc0, qc1, qz⟩ := q_cells S4.q
              obtain ⟨a0, a1, a2, a3, a4, a5, a6, a7, az⟩ := w_cells hW4
              have SF := hide S4
              have EF := hide hE4
              have e23 := neq23
              have e24 := neq24
              have e28 := neq28
              have e29 := neq29
              have hnot : ∀ (x : Bool) (w : World), (Op.unary .not (.bool x)).run Yba.prog w = .ok (.bool (!x)) w := fun _ _ => rfl
              clear PU AF hwf S4 hW4 hE4 qz az
              go_wp2_with fail
              clear qc0 qc1 a0 a1 a2 a3 a4 a5 a6 a7
              go_loopw [20] (fun i wz => ∃ k : Nat, k ≤ 0 ∧ i = .int .i64 k ∧ Hid (wf.grownBy wz none)) (fun i _ => 0 - (intOf i).toNat)
              case atStart => exact ⟨0, Nat.zero_le _, rfl, hide (World.grownBy.refl _ _)⟩
              case round => as_aux_lemma =>
                obtain ⟨k, hk, rfl, hgr⟩ := hrel
                have hk00 : k = 0 := by omega
                subst hk00
                obtain ⟨b0, b1, b2, b3, b4, b5, b6, b7, bz⟩ := w_cells (blk_later (unhide EF) (unhide hgr))
                clear bz
                go_wp2_with fail
                go_ret
                exact ⟨rfl, ((unhide SF).later (unhide hgr)).below⟩
            · obtain ⟨S3, hE3, hW3⟩ := three (unhide S2).1 (oW (Pt wr.heap.size) wi Nl wv true Nl Nl (Pt (wr.heap.size + 1)))
              have hsz := (unhide S2).2
              have PU := hide (push_nil w.heap.size (wr.heap.size + 1 + 1) _ (by omega) S3.q hW3)
              have AF := hide (after_nil S3 hW3 hE3 (by omega) (by omega) (by omega) (by omega) (by omega) (by omega) (Nat.le_refl _))
              clear S3 hE3 hW3 S2
              have hsz' : w.heap.size < wr.heap.size := by omega
              clear hsz
              go_wp2_with fail
              refine (unhide PU).mono ?_
              rintro e wf ⟨rfl, hwf⟩
              have S4 := (unhide AF).1
              have hW4 := (unhide AF).2.1
              have hE4 := (unhide AF).2.2
              rw [← hwf] at S4 hW4 hE4
              obtain ⟨qc0, qc1, qz⟩ := q_cells S4.q
              obtain ⟨a0, a1, a2, a3, a4, a5, a6, a7, az⟩ := w_cells hW4
              have SF := hide S4
              have EF := hide hE4
              have e23 := neq23
              have e24 := neq24
              have e28 := neq28
              have e29 := neq29
              have hnot : ∀ (x : Bool) (w : World), (Op.unary .not (.bool x)).run Yba.prog w = .ok (.bool (!x)) w := fun _ _ => rfl
              clear PU AF hwf S4 hW4 hE4 qz az
              go_wp2_with fail
              clear qc0 qc1 a0 a1 a2 a3 a4 a5 a6 a7
              go_loopw [20] (fun i wz => ∃ k : Nat, k ≤ 0 ∧ i = .int .i64 k ∧ Hid (wf.grownBy wz none)) (fun i _ => 0 - (intOf i).toNat)
              case atStart => exact ⟨0, Nat.zero_le _, rfl, hide (World.grownBy.refl _ _)⟩
              case round => as_aux_lemma =>
                obtain ⟨k, hk, rfl, hgr⟩ := hrel
                have hk00 : k = 0 := by omega
                subst hk00
                obtain ⟨b0, b1, b2, b3, b4, b5, b6, b7, bz⟩ := w_cells (blk_later (unhide EF) (unhide hgr))
                clear bz
                go_wp2_with fail
                go_ret
                exact ⟨rfl, ((unhide SF).later (unhide hgr)).below⟩
          · obtain ⟨m, rfl⟩ : ∃ m, n = m + 1 := ⟨n - 1, by omega⟩
            clear h00
            have hl2 : (m : Int) + 1 ≤ 65536 := by omega
            cases wn
            · have hck0 := (unhide S2).1.row.at (i := 0) (by omega) (by omega)
              have hckm := (unhide S2).1.row.at (i := m) (by omega) (by omega)
              obtain ⟨qc0, qc1, qz⟩ := q_cells (unhide S2).1.q
              have qz0 := qz 0
              have qz1 := qz 1
              have hsz := (unhide S2).2
              have hQG1 : ¬ w.heap.size + 1 = w.heap.size := by omega
              have hQG2 : ¬ w.heap.size = w.heap.size + 1 := by omega
              have S2' := ((unhide S2).1.head (by omega) (by omega) (Nat.le_refl _) (Pt (w.heap.size + 2))).tail (by omega) (by omega) (Nat.le_refl _) (Pt (w.heap.size + 2 + m))
              obtain ⟨S3, hE3, hW3⟩ := three S2' (oW (Pt wr.heap.size) wi Nl wv true Nl Nl Nl)
              have hszs : ((wr.setCell ⟨w.heap.size, 0, none⟩ (Pt (w.heap.size + 2))).setCell ⟨w.heap.size, 1, none⟩ (Pt (w.heap.size + 2 + m))).heap.size = wr.heap.size := by simp
              rw [hszs] at hE3 hW3
              have PU := hide (push_some w.heap.size (wr.heap.size + 1 + 1) (w.heap.size + 2 + m) _ (by omega) (by omega) (by omega) S3.q hW3 (S3.node m (by omega)))
              have AF := hide (after_some S3 hW3 hE3 (by omega) (by omega) (by omega) (by omega) (by omega) (by omega) (Nat.le_refl _))
              clear S3 hE3 hW3 S2 S2' qz hszs
              have hsz' : w.heap.size < wr.heap.size := by omega
              have hsz'' : w.heap.size + 1 < wr.heap.size := by omega
              clear hsz
              go_wp2_with fail
              refine (unhide PU).mono ?_
              rintro e wf ⟨rfl, hwf⟩
              have S4 := (unhide AF).1
              have hW4 := (unhide AF).2.1
              have hE4 := (unhide AF).2.2
              rw [← hwf] at S4 hW4 hE4
              obtain ⟨qc0, qc1, qz⟩ := q_cells S4.q
              obtain ⟨a0, a1, a2, a3, a4, a5, a6, a7, az⟩ := w_cells hW4
              have SF := hide S4
              have EF := hide hE4
              have e23 := neq23
              have e24 := neq24
              have e28 := neq28
              have e29 := neq29
              have hnot : ∀ (x : Bool) (w : World), (Op.unary .not (.bool x)).run Yba.prog w = .ok (.bool (!x)) w := fun _ _ => rfl
              clear PU AF hwf S4 hW4 hE4 qz az
              have hck0 := (unhide SF).row.at (i := 0) (by omega) (by omega)
              have hckm := (unhide SF).row.at (i := m) (by omega) (by omega)
              go_wp2_with fail
              clear qc0 qc1 a0 a1 a2 a3 a4 a5 a6 a7 hck0 hckm
              go_loopw [20] (fun i wz => ∃ k : Nat, k ≤ (m + 1) ∧ i = .int .i64 k ∧ Hid (wf.grownBy wz none)) (fun i _ => (m + 1) - (intOf i).toNat)
              case atStart => exact ⟨0, Nat.zero_le _, rfl, hide (World.grownBy.refl _ _)⟩
              case round => as_aux_lemma =>
                obtain ⟨k, hk, rfl, hgr⟩ := hrel
                by_cases hlt : k < m + 1
                · have hlt1 : (k : Int) < (m : Int) + 1 := by omega
                  obtain ⟨ba, oa, rfl, hba, hin⟩ := unhide HA (by omega)
                  have S5 := (unhide SF).later (unhide hgr)
                  have cx := S5.below.cell (p := ⟨ba, oa + k, none⟩) hba
                  rw [hin k hlt] at cx
                  have hck := S5.row.at hlt hlt
                  obtain ⟨b0, b1, b2, b3, b4, b5, b6, b7, bz⟩ := w_cells (S5.node k hlt)
                  have hk0 : (0 : Int) ≤ (k : Int) := by omega
                  clear bz S5 hin HA
                  go_upto_region 44 with fail
                  go_cut [253] from 200 to 284 (fun c wx => c = .bool false ∧ Hid (wf.grownBy wx none))
                  case first =>
                    go_quiet (fail)
                    go_wp2_with fail
                    go_meet
                    exact ⟨rfl, hide ((unhide hgr).andThen (grown_drewN _ _) (by simp))⟩
                  case rest =>
                    obtain ⟨rfl, hgr2⟩ := hcut
                    clear cx hck b0 b1 b2 b3 b4 b5 b6 b7 hk0
                    have S6 := (unhide SF).later (unhide hgr2)
                    have hnd := S6.node k hlt
                    have hcn0 := fun (i : Nat) (hi : i < m + 1) => S6.row.at hi hi
                    clear S6
                    by_cases hlast : k = m
                    · rw [if_pos hlast] at hnd
                      have hla1 : ¬ (k : Int) + 1 < (m : Int) + 1 := by omega
                      have hla2 : ¬ k < m := by omega
                      have hla3 : ¬ (k : Int) < (m : Int) := by omega
                      clear hlast
                      by_cases hz : k = 0
                      · have hz1 : ¬ (0 : Int) < (k : Int) := by omega
                        have hz2 : ¬ 0 < k := by omega
                        rw [show pvs (w.heap.size + 2) (m + 1) k = Nl by rw [hz, pvs_at0]] at hnd
                        clear hz hcn0
                        obtain ⟨b0, b1, b2, b3, b4, b5, b6, b7, bz⟩ := w_cells hnd
                        clear bz hnd b0 b1 b2 b3 b4 b5
                        go_wp2_with fail
                        go_roundw
                        case rel => exact ⟨k + 1, by omega, by go_num, hgr2⟩
                        case measure => simp [intOf]; omega
                      · obtain ⟨j, rfl⟩ : ∃ j, k = j + 1 := ⟨k - 1, by omega⟩
                        have hcj := hcn0 j (by omega)
                        have hj1 : (j : Int) < (m : Int) + 1 := by omega
                        have hj2 : j < m + 1 := by omega
                        have hj3 : j ≤ m := by omega
                        have hj4 : (j : Int) ≤ (m : Int) := by omega
                        have hla4 : ¬ (j : Int) + 1 < (m : Int) := by omega
                        have hla5 : ¬ (j : Int) + 1 + 1 < (m : Int) + 1 := by omega
                        have hla6 : ¬ j + 1 < m := by omega
                        rw [pvs_at _ _ j (by omega)] at hnd
                        clear hz hcn0
                        obtain ⟨b0, b1, b2, b3, b4, b5, b6, b7, bz⟩ := w_cells hnd
                        clear bz hnd b0 b1 b2 b3 b4 b5
                        go_wp2_with fail
                        go_roundw
                        case rel => exact ⟨j + 1 + 1, by omega, by go_num, hgr2⟩
                        case measure => simp [intOf]; omega
                    · rw [if_neg hlast, nxs_at _ _ _ (by omega)] at hnd
                      have hla1 : (k : Int) + 1 < (m : Int) + 1 := by omega
                      have hla2 : k < m := by omega
                      have hla3 : (k : Int) < (m : Int) := by omega
                      have hcn := hcn0 (k + 1) (by omega)
                      clear hlast
                      by_cases hz : k = 0
                      · have hz1 : ¬ (0 : Int) < (k : Int) := by omega
                        have hz2 : ¬ 0 < k := by omega
                        rw [show pvs (w.heap.size + 2) (m + 1) k = Nl by rw [hz, pvs_at0]] at hnd
                        clear hz hcn0
                        obtain ⟨b0, b1, b2, b3, b4, b5, b6, b7, bz⟩ := w_cells hnd
                        clear bz hnd b0 b1 b2 b3 b4 b5
                        go_wp2_with fail
                        go_roundw
                        case rel => exact ⟨k + 1, by omega, by go_num, hgr2⟩
                        case measure => simp [intOf]; omega
                      · obtain ⟨j, rfl⟩ : ∃ j, k = j + 1 := ⟨k - 1, by omega⟩
                        have hcj := hcn0 j (by omega)
                        have hj1 : (j : Int) < (m : Int) + 1 := by omega
                        have hj2 : j < m + 1 := by omega
                        have hj3 : j ≤ m := by omega
                        have hj4 : (j : Int) ≤ (m : Int) := by omega
                        have hla4 : (j : Int) + 1 < (m : Int) := by omega
                        have hla5 : (j : Int) + 1 + 1 < (m : Int) + 1 := by omega
                        have hla6 : j + 1 < m := by omega
                        rw [pvs_at _ _ j (by omega)] at hnd
                        clear hz hcn0
                        obtain ⟨b0, b1, b2, b3, b4, b5, b6, b7, bz⟩ := w_cells hnd
                        clear bz hnd b0 b1 b2 b3 b4 b5
                        go_wp2_with fail
                        go_roundw
                        case rel => exact ⟨j + 1 + 1, by omega, by go_num, hgr2⟩
                        case measure => simp [intOf]; omega
                · have hkn : k = m + 1 := by omega
                  subst hkn
                  obtain ⟨b0, b1, b2, b3, b4, b5, b6, b7, bz⟩ := w_cells (blk_later (unhide EF) (unhide hgr))
                  clear bz
                  go_wp2_with fail
                  go_ret
                  exact ⟨rfl, ((unhide SF).later (unhide hgr)).below⟩
            · have hck0 := (unhide S2).1.row.at (i := 0) (by omega) (by omega)
              have hckm := (unhide S2).1.row.at (i := m) (by omega) (by omega)
              obtain ⟨qc0, qc1, qz⟩ := q_cells (unhide S2).1.q
              have qz0 := qz 0
              have qz1 := qz 1
              have hsz := (unhide S2).2
              have hQG1 : ¬ w.heap.size + 1 = w.heap.size := by omega
              have hQG2 : ¬ w.heap.size = w.heap.size + 1 := by omega
              have S2' := ((unhide S2).1.head (by omega) (by omega) (Nat.le_refl _) (Pt (w.heap.size + 2))).tail (by omega) (by omega) (Nat.le_refl _) (Pt (w.heap.size + 2 + m))
              obtain ⟨S3, hE3, hW3⟩ := three S2' (oW (Pt wr.heap.size) wi Nl wv true Nl Nl (Pt (wr.heap.size + 1)))
              have hszs : ((wr.setCell ⟨w.heap.size, 0, none⟩ (Pt (w.heap.size + 2))).setCell ⟨w.heap.size, 1, none⟩ (Pt (w.heap.size + 2 + m))).heap.size = wr.heap.size := by simp
              rw [hszs] at hE3 hW3
              have PU := hide (push_some w.heap.size (wr.heap.size + 1 + 1) (w.heap.size + 2 + m) _ (by omega) (by omega) (by omega) S3.q hW3 (S3.node m (by omega)))
              have AF := hide (after_some S3 hW3 hE3 (by omega) (by omega) (by omega) (by omega) (by omega) (by omega) (Nat.le_refl _))
              clear S3 hE3 hW3 S2 S2' qz hszs
              have hsz' : w.heap.size < wr.heap.size := by omega
              have hsz'' : w.heap.size + 1 < wr.heap.size := by omega
              clear hsz
              go_wp2_with fail
              refine (unhide PU).mono ?_
              rintro e wf ⟨rfl, hwf⟩
              have S4 := (unhide AF).1
              have hW4 := (unhide AF).2.1
              have hE4 := (unhide AF).2.2
              rw [← hwf] at S4 hW4 hE4
              obtain ⟨qc0, qc1, qz⟩ := q_cells S4.q
              obtain ⟨a0, a1, a2, a3, a4, a5, a6, a7, az⟩ := w_cells hW4
              have SF := hide S4
              have EF := hide hE4
              have e23 := neq23
              have e24 := neq24
              have e28 := neq28
              have e29 := neq29
              have hnot : ∀ (x : Bool) (w : World), (Op.unary .not (.bool x)).run Yba.prog w = .ok (.bool (!x)) w := fun _ _ => rfl
              clear PU AF hwf S4 hW4 hE4 qz az
              have hck0 := (unhide SF).row.at (i := 0) (by omega) (by omega)
              have hckm := (unhide SF).row.at (i := m) (by omega) (by omega)
              go_wp2_with fail
              clear qc0 qc1 a0 a1 a2 a3 a4 a5 a6 a7 hck0 hckm
              go_loopw [20] (fun i wz => ∃ k : Nat, k ≤ (m + 1) ∧ i = .int .i64 k ∧ Hid (wf.grownBy wz none)) (fun i _ => (m + 1) - (intOf i).toNat)
              case atStart => exact ⟨0, Nat.zero_le _, rfl, hide (World.grownBy.refl _ _)⟩
              case round => as_aux_lemma =>
                obtain ⟨k, hk, rfl, hgr⟩ := hrel
                by_cases hlt : k < m + 1
                · have hlt1 : (k : Int) < (m : Int) + 1 := by omega
                  obtain ⟨ba, oa, rfl, hba, hin⟩ := unhide HA (by omega)
                  have S5 := (unhide SF).later (unhide hgr)
                  have cx := S5.below.cell (p := ⟨ba, oa + k, none⟩) hba
                  rw [hin k hlt] at cx
                  have hck := S5.row.at hlt hlt
                  obtain ⟨b0, b1, b2, b3, b4, b5, b6, b7, bz⟩ := w_cells (S5.node k hlt)
                  have hk0 : (0 : Int) ≤ (k : Int) := by omega
                  clear bz S5 hin HA
                  go_upto_region 44 with fail
                  go_cut [253] from 200 to 284 (fun c wx => c = .bool false ∧ Hid (wf.grownBy wx none))
                  case first =>
                    go_quiet (fail)
                    go_wp2_with fail
                    go_meet
                    exact ⟨rfl, hide ((unhide hgr).andThen (grown_drewN _ _) (by simp))⟩
                  case rest =>
                    obtain ⟨rfl, hgr2⟩ := hcut
                    clear cx hck b0 b1 b2 b3 b4 b5 b6 b7 hk0
                    have S6 := (unhide SF).later (unhide hgr2)
                    have hnd := S6.node k hlt
                    have hcn0 := fun (i : Nat) (hi : i < m + 1) => S6.row.at hi hi
                    clear S6
                    by_cases hlast : k = m
                    · rw [if_pos hlast] at hnd
                      have hla1 : ¬ (k : Int) + 1 < (m : Int) + 1 := by omega
                      have hla2 : ¬ k < m := by omega
                      have hla3 : ¬ (k : Int) < (m : Int) := by omega
                      clear hlast
                      by_cases hz : k = 0
                      · have hz1 : ¬ (0 : Int) < (k : Int) := by omega
                        have hz2 : ¬ 0 < k := by omega
                        rw [show pvs (w.heap.size + 2) (m + 1) k = Nl by rw [hz, pvs_at0]] at hnd
                        clear hz hcn0
                        obtain ⟨b0, b1, b2, b3, b4, b5, b6, b7, bz⟩ := w_cells hnd
                        clear bz hnd b0 b1 b2 b3 b4 b5
                        go_wp2_with fail
                        go_roundw
                        case rel => exact ⟨k + 1, by omega, by go_num, hgr2⟩
                        case measure => simp [intOf]; omega
                      · obtain ⟨j, rfl⟩ : ∃ j, k = j + 1 := ⟨k - 1, by omega⟩
                        have hcj := hcn0 j (by omega)
                        have hj1 : (j : Int) < (m : Int) + 1 := by omega
                        have hj2 : j < m + 1 := by omega
                        have hj3 : j ≤ m := by omega
                        have hj4 : (j : Int) ≤ (m : Int) := by omega
                        have hla4 : ¬ (j : Int) + 1 < (m : Int) := by omega
                        have hla5 : ¬ (j : Int) + 1 + 1 < (m : Int) + 1 := by omega
                        have hla6 : ¬ j + 1 < m := by omega
                        rw [pvs_at _ _ j (by omega)] at hnd
                        clear hz hcn0
                        obtain ⟨b0, b1, b2, b3, b4, b5, b6, b7, bz⟩ := w_cells hnd
                        clear bz hnd b0 b1 b2 b3 b4 b5
                        go_wp2_with fail
                        go_roundw
                        case rel => exact ⟨j + 1 + 1, by omega, by go_num, hgr2⟩
                        case measure => simp [intOf]; omega
                    · rw [if_neg hlast, nxs_at _ _ _ (by omega)] at hnd
                      have hla1 : (k : Int) + 1 < (m : Int) + 1 := by omega
                      have hla2 : k < m := by omega
                      have hla3 : (k : Int) < (m : Int) := by omega
                      have hcn := hcn0 (k + 1) (by omega)
                      clear hlast
                      by_cases hz : k = 0
                      · have hz1 : ¬ (0 : Int) < (k : Int) := by omega
                        have hz2 : ¬ 0 < k := by omega
                        rw [show pvs (w.heap.size + 2) (m + 1) k = Nl by rw [hz, pvs_at0]] at hnd
                        clear hz hcn0
                        obtain ⟨b0, b1, b2, b3, b4, b5, b6, b7, bz⟩ := w_cells hnd
                        clear bz hnd b0 b1 b2 b3 b4 b5
                        go_wp2_with fail
                        go_roundw
                        case rel => exact ⟨k + 1, by omega, by go_num, hgr2⟩
                        case measure => simp [intOf]; omega
                      · obtain ⟨j, rfl⟩ : ∃ j, k = j + 1 := ⟨k - 1, by omega⟩
                        have hcj := hcn0 j (by omega)
                        have hj1 : (j : Int) < (m : Int) + 1 := by omega
                        have hj2 : j < m + 1 := by omega
                        have hj3 : j ≤ m := by omega
                        have hj4 : (j : Int) ≤ (m : Int) := by omega
                        have hla4 : (j : Int) + 1 < (m : Int) := by omega
                        have hla5 : (j : Int) + 1 + 1 < (m : Int) + 1 := by omega
                        have hla6 : j + 1 < m := by omega
                        rw [pvs_at _ _ j (by omega)] at hnd
                        clear hz hcn0
                        obtain ⟨b0, b1, b2, b3, b4, b5, b6, b7, bz⟩ := w_cells hnd
                        clear bz hnd b0 b1 b2 b3 b4 b5
                        go_wp2_with fail
                        go_roundw
                        case rel => exact ⟨j + 1 + 1, by omega, by go_num, hgr2⟩
                        case measure => simp [intOf]; omega
                · have hkn : k = m + 1 := by omega
                  subst hkn
                  obtain ⟨b0, b1, b2, b3, b4, b5, b6, b7, bz⟩ := w_cells (blk_later (unhide EF) (unhide hgr))
                  clear bz
                  go_wp2_with fail
                  go_ret
                  exact ⟨rfl, ((unhide SF).later (unhide hgr)).below⟩
end Go.Proofs.Ybulkecdi
