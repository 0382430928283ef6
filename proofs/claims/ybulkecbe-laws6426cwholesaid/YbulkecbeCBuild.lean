import Derived.Test.YbulkecbeCInv
namespace Go.Proofs.Ybulkecbe.C
open Go.ChangeShapes Go.WideShapes Go.ChangeAt Go.RowKit

theorem thaw_size (w : World) : ∀ b i, w.heap.size ≤ b → w.frozen? ⟨b, i, none⟩ = false := by
  intro b i h
  unfold World.frozen?
  rw [Array.getElem?_eq_none h]

/-- What the walk is told of the script: byte pairs, read but never written. -/
def Script (w : World) (b off len : Nat) : Prop :=
  ∀ i, i < len → ∃ x y : Int, w.cell? ⟨b, off + i * 2, none⟩ = some (.int .u8 x) ∧ w.cell? ⟨b, off + i * 2 + 1, none⟩ = some (.int .u8 y) ∧ 0 ≤ x ∧ x ≤ 255 ∧ 0 ≤ y ∧ y ≤ 255

/-- A store into what is handed back. -/
theorem Inv.setB {w0 : World} {B : Nat} {n : Int} {ls : Nat → List Nat} {k : Nat} {w : World} (h : Inv w0 B n ls k w) (i : Nat) (v : Value) : Inv w0 B n ls k (w.setCell ⟨B, i, none⟩ v) := by
  have hz := h.size
  have key : ∀ b j, b ≠ B → (w.setCell ⟨B, i, none⟩ v).cell? ⟨b, j, none⟩ = w.cell? ⟨b, j, none⟩ := fun b j hb => by
    rw [World.cell?_setCell_other]
    intro h
    injection h with h1 h2
    exact hb h1.symm
  constructor
  · exact h.below.setCell (Nat.le_refl _) _
  · exact h.thaw.set _ _
  · exact fun s hs => (h.res s hs).set _ _
  · rw [key _ _ (by omega)]; exact h.max
  · intro s hs; rw [key _ _ (by omega)]; exact h.want s hs
  · intro s hs
    exact (h.queue s hs).keep (fun j _ _ => key _ _ (by omega)) (fun x hx j => key _ _ (by have := h.own s hs x hx; omega))
  · intro s hs x hx; have := h.own s hs x hx; simpa using this
  · exact h.apart
  · simpa using hz
  · exact h.len

theorem Inv.drew {w0 : World} {B : Nat} {n : Int} {ls : Nat → List Nat} {k : Nat} {w : World} (h : Inv w0 B n ls k w) : Inv w0 B n ls k w.drew :=
  ⟨h.below.drew, h.thaw.drew, h.res, h.max, h.want, fun s hs => (h.queue s hs).drew, h.own, h.apart, h.size, h.len⟩

set_option maxHeartbeats 1000000 in
set_option maxRecDepth 100000 in
theorem build_any (b off len cap : Nat) (n : Int) (w : World) (hlen : len ≤ 1048576) (hb : b < w.heap.size) (hin : Script w b off len) :
    Calls Yba.prog 12 #[.int .i64 n, .slice (some ⟨b, off, none⟩) len cap] w fun f w' => ∃ ls, Inv w w.heap.size n ls len w' ∧ f = .returned (.tuple #[P (w.heap.size + 1) 0, .agg #[.int .i64 (ls 0).length, .int .i64 (ls 1).length, .int .i64 (ls 2).length]]) := by
  have HI := hide (Inv.start w n (thaw_size w))
  go_enter Yba.func12, Yba.ntmps12
  go_wp2_with (go_at_call 25; refine (new_any _ _).mono ?_; rintro e w' ⟨rfl, rfl⟩)
  go_loopw [8] (fun i wr => ∃ k : Nat, k ≤ len ∧ i = .int .i64 k ∧ Hid (∃ ls, Inv w w.heap.size n ls k wr)) (fun i _ => len - (intOf i).toNat)
  case atStart => exact ⟨0, Nat.zero_le _, rfl, hide ⟨_, unhide HI⟩⟩
  case round =>
    clear HI
    obtain ⟨k, hk, rfl, hinv⟩ := hrel
    obtain ⟨ls, hinv⟩ := unhide hinv
    by_cases hlt : k < len
    · obtain ⟨x, y, hx, hy, x0, x1, y0, y1⟩ := hin k hlt
      have hbel := hinv.below.cell (p := ⟨b, off + k * 2, none⟩) hb
      have hbel' := hinv.below.cell (p := ⟨b, off + k * 2 + 1, none⟩) hb
      rw [hx] at hbel
      rw [hy] at hbel'
      have hs : (y % 3).toNat < 3 := by omega
      have hq := hinv.queue _ hs
      have hl := hinv.len _ hs
      have hsz := hinv.size
      have hwant := hinv.want _ hs
      have hlE : ∀ z ∈ ls (y % 3).toNat, w.heap.size ≤ z := fun z hz => by have := hinv.own _ hs z hz; omega
      have hlt' : ∀ z ∈ ls (y % 3).toNat, z < wr.heap.size := fun z hz => (hinv.own _ hs z hz).2
      have nB2 : w.heap.size + 1 + 1 ∉ ls (y % 3).toNat := fun hz => by have := hinv.own _ hs _ hz; omega
      have G := hide hinv
      clear hx hy
      cases hop : (x % 3 == 2) with
      | true =>
        cases hes : ls (y % 3).toNat with
        | nil =>
          rw [hes] at hq
          have F := hide (front_nil _ _ _ hq.len)
          clear hinv hq hl hlE hlt' nB2 hwant hes
          go_wp2_with (go_at_call 13; refine (unhide F).mono ?_; rintro e w' ⟨rfl, rfl⟩)
          go_roundw
          case rel => exact ⟨k + 1, by omega, by go_num, hide ⟨ls, (unhide G).more⟩⟩
          case measure => simp [intOf]; omega
        | cons e r =>
          rw [hes] at hq hl hlE hwant nB2
          have hne : (((e :: r).length : Int) == 0) = false := by simp; omega
          have h0 : wr.cell? ⟨w.heap.size + 1, 4 + (y % 3).toNat * 5, none⟩ = some (P e 0) := by
            rcases hq.ends with ⟨h, _, _⟩ | ⟨h, _⟩
            · simp at h
            · exact h
          have F := hide (front_some _ _ _ _ _ hq.len hne h0)
          have PO := hide (pop_any _ _ e r wr hq w.heap.size hinv.thaw (by omega) hlE (by omega))
          have HE := hide hes
          have hwl : wr.cell? ⟨w.heap.size + 1 + 1, (y % 3).toNat, none⟩ = some (.int .i64 ((r.length : Int) + 1)) := by rw [hwant]; simp
          have HW := hide hwl
          have ht := hide hinv.thaw
          have hrl : r.length ≤ 1048576 := by simp at hl; omega
          have hel : r.length ≤ k + 1 := by simp at hl; omega
          clear hinv hq hlE hlt' hwant hes hne h0 hwl hl
          go_wp2_with fail
          refine (unhide F).mono ?_
          rintro f w' ⟨rfl, rfl⟩
          go_wp2_with fail
          refine (unhide PO).mono ?_
          rintro f w1 ⟨⟨v, rfl⟩, q1, t1, z1⟩
          have c2 : w1.cell? ⟨w.heap.size + 1 + 1, (y % 3).toNat, none⟩ = some (.int .i64 ((r.length : Int) + 1)) := by
            rw [t1.cell _ _ (by omega) nB2 (by omega)]; exact unhide HW
          have f2 : w1.frozen? ⟨w.heap.size + 1 + 1, (y % 3).toNat, none⟩ = false := t1.thaw _ (unhide ht) _ _ (by omega)
          have NX := hide ((unhide G).step hs r q1 (by rw [unhide HE]; exact t1) (by omega) (fun z hz => .inl (by rw [unhide HE]; simp [hz])) hel)
          clear q1 t1 nB2
          go_wp2_with fail
          go_roundw
          case rel =>
            refine ⟨k + 1, by omega, by go_num, hide ⟨upd ls (y % 3).toNat r, ?_⟩⟩
            exact unhide NX
          case measure => simp [intOf]; omega
      | false =>
        have PU := hide (push_any _ _ _ k wr hq w.heap.size hinv.thaw (by omega) hlE hlt' (by omega))
        have HW := hide hwant
        have ht := hide hinv.thaw
        have hll : (ls (y % 3).toNat).length ≤ 1048576 := by omega
        generalize hes : ls (y % 3).toNat = es at *
        have HE := hide hes
        clear hinv hq hlE hwant hes
        go_wp2_with fail
        refine (unhide PU).mono ?_
        rintro f w1 ⟨⟨v, rfl⟩, q1, t1, z1⟩
        have c2 : w1.cell? ⟨w.heap.size + 1 + 1, (y % 3).toNat, none⟩ = some (.int .i64 es.length) := by
          rw [t1.cell _ _ (by omega) nB2 (by omega)]; exact unhide HW
        have f2 : w1.frozen? ⟨w.heap.size + 1 + 1, (y % 3).toNat, none⟩ = false := t1.thaw _ (unhide ht) _ _ (by omega)
        have NX := hide ((unhide G).step hs (es ++ [wr.heap.size]) q1 (by rw [unhide HE]; exact t1) (by omega)
          (fun z hz => by rw [unhide HE]; simp at hz; rcases hz with hz | rfl; exact .inl hz; exact .inr ⟨rfl, by omega⟩) (by simp; omega))
        clear q1 t1 nB2 hlt' z1
        go_wp2_with fail
        go_roundw
        case rel =>
          refine ⟨k + 1, by omega, by go_num, hide ⟨upd ls (y % 3).toNat (es ++ [wr.heap.size]), ?_⟩⟩
          have e1 : (es.length : Int) + 1 = ((es ++ [wr.heap.size]).length : Nat) := by simp
          rw [e1]
          exact unhide NX
        case measure => simp [intOf]; omega
    · have hkl : k = len := by omega
      subst hkl
      have w0 := hinv.want 0 (by omega)
      have w1 := hinv.want 1 (by omega)
      have w2 := hinv.want 2 (by omega)
      obtain ⟨r0, hr0⟩ := hinv.res 0 (by omega)
      obtain ⟨r1, hr1⟩ := hinv.res 1 (by omega)
      obtain ⟨r2, hr2⟩ := hinv.res 2 (by omega)
      have t0 := hinv.thaw w.heap.size 0 (Nat.le_refl _)
      have t1 := hinv.thaw w.heap.size 1 (Nat.le_refl _)
      have t2 := hinv.thaw w.heap.size 2 (Nat.le_refl _)
      have G := hide hinv
      clear hinv hin
      go_wp2_with fail
      go_region
      go_wp2_with fail
      have fin := (((((unhide G).setB 0 (.int .i64 (ls 0).length)).setB 1 (.int .i64 (ls 1).length)).setB 2 (.int .i64 (ls 2).length)).drew)
      exact bodyPost_ret (v := .tuple #[P (w.heap.size + 1) 0, .agg #[.int .i64 (ls 0).length, .int .i64 (ls 1).length, .int .i64 (ls 2).length]])
        (by simp [results, Yba.results12, go_sem, World.cell?_setCell_same, hr0, hr1, hr2]) rfl ⟨ls, fin, rfl⟩
end Go.Proofs.Ybulkecbe.C
