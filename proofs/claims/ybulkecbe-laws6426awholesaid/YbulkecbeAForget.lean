import Derived.Test.YbulkecbeABuild
import Derived.Test.YbulkecbeLocks
import Derived.Conc.MuLone
import Derived.Deep.RegionHeld3
import Derived.Deep.RegionWith
import Derived.LoopN
namespace Go.Proofs.Ybulkecbe.A
open Go.ChangeShapes Go.WideShapes Go.ChangeAt Go.RowKit Go.Maps Go.MuLone

/-! ### the sum of what has been ranged over -/
def outSum (left : Lit → Bool) : List Key → List Int → Int
  | k :: ks, f :: fs => (if left k.lit then 0 else f) + outSum left ks fs
  | _, _ => 0

theorem outSum_all (left : Lit → Bool) (h : ∀ kl, left kl = false) : ∀ (ks : List Key) (fs : List Int), fs.length = ks.length → outSum left ks fs = fs.sum
  | [], [], _ => rfl
  | k :: ks, f :: fs, e => by simp [outSum, h, outSum_all left h ks fs (by simpa using e)]
  | [], f :: fs, e => by simp at e
  | k :: ks, [], e => by simp at e

theorem outSum_start (left : Lit → Bool) : ∀ (ks : List Key) (fs : List Int), (∀ k ∈ ks, left k.lit = true) → outSum left ks fs = 0
  | [], fs, _ => by cases fs <;> rfl
  | k :: ks, [], _ => rfl
  | k :: ks, f :: fs, h => by simp [outSum, h k (by simp), outSum_start left ks fs (fun x hx => h x (by simp [hx]))]

theorem outSum_same (left left' : Lit → Bool) : ∀ (ks : List Key) (fs : List Int), (∀ k ∈ ks, left' k.lit = left k.lit) → outSum left' ks fs = outSum left ks fs
  | [], fs, _ => by cases fs <;> rfl
  | k :: ks, [], _ => rfl
  | k :: ks, f :: fs, h => by simp [outSum, h k (by simp), outSum_same left left' ks fs (fun x hx => h x (by simp [hx]))]

theorem outSum_strike (left : Lit → Bool) : ∀ (ks : List Key) (fs : List Int) (j : Nat) (x : Key) (f : Int), (ks.map Key.lit).Nodup → ks[j]? = some x → fs[j]? = some f → left x.lit = true → WideAt.IsKeyLit x.lit →
    outSum (fun z => left z && !z.sameKey x.lit) ks fs = outSum left ks fs + f
  | [], _, j, x, f, _, h, _, _, _ => by simp at h
  | k :: ks, [], j, x, f, _, _, h, _, _ => by simp at h
  | k :: ks, g :: fs, 0, x, f, hn, hx, hf, hl, hk => by
    have e1 : k = x := by simpa using hx
    have e2 : g = f := by simpa using hf
    subst e1; subst e2
    have hn' : k.lit ∉ ks.map Key.lit := (List.nodup_cons.1 hn).1
    have : outSum (fun z => left z && !z.sameKey k.lit) ks fs = outSum left ks fs := outSum_same _ _ ks fs (fun y hy => by
      have hne : y.lit ≠ k.lit := fun e => hn' (e ▸ List.mem_map_of_mem hy)
      simp [sameKey_ne hne])
    simp [outSum, this, hl, WideAt.sameKey_self hk]
    omega
  | k :: ks, g :: fs, j + 1, x, f, hn, hx, hf, hl, hk => by
    have hx' : ks[j]? = some x := by simpa using hx
    have hn' := List.nodup_cons.1 hn
    have hne : k.lit ≠ x.lit := fun e => hn'.1 (e ▸ List.mem_map_of_mem (List.mem_of_getElem? hx'))
    simp [outSum, sameKey_ne hne, outSum_strike left ks fs j x f hn'.2 hx' (by simpa using hf) hl hk]
    omega

/-! ### footprint -/
theorem foot_any (p : Nat) (f : Int) (w : World) (h : Foot w p f) : Calls Yba.prog 18 #[Pt p] w fun e w' => e = .returned (.int .i64 f) ∧ w' = w := by
  rcases h with ⟨x, h1, rfl⟩ | ⟨x, q, cs, h1, h2, h3⟩
  · have c0 : w.cell? ⟨p, 0, none⟩ = some (.pointer none) := by simp [World.cell?, h1]
    go_enter Yba.func18, Yba.ntmps18
    go_wp2
    go_ret
    exact ⟨rfl, rfl⟩
  · have c0 : w.cell? ⟨p, 0, none⟩ = some (Pt q) := by simp [World.cell?, h1]
    have c3 : w.cell? ⟨q, 3, none⟩ = some (.int .i64 f) := by simp [World.cell?, h2, h3]
    clear h1 h2 h3
    go_enter Yba.func18, Yba.ntmps18
    go_wp2
    go_ret
    exact ⟨rfl, rfl⟩

/-! ### Forget -/
/-- The Reader in its block. -/
abbrev oReader (st sm : Value) (nm om : Option Nat) (kept : Int) : Obj := .cells #[st, sm, .map nm, .map om, .int .i64 kept] 38

theorem reader_cells {w : World} {r : Nat} {st sm : Value} {nm om : Option Nat} {kept : Int} (h : w.heap[r]? = some (oReader st sm nm om kept)) :
    w.cell? ⟨r, 0, none⟩ = some st ∧ w.cell? ⟨r, 1, none⟩ = some sm ∧ w.cell? ⟨r, 2, none⟩ = some (.map nm) ∧ w.cell? ⟨r, 3, none⟩ = some (.map om) ∧ w.cell? ⟨r, 4, none⟩ = some (.int .i64 kept) ∧ ∀ i, w.frozen? ⟨r, i, none⟩ = false := by
  refine ⟨?_, ?_, ?_, ?_, ?_, ?_⟩
  · simp [World.cell?, h]
  · simp [World.cell?, h]
  · simp [World.cell?, h]
  · simp [World.cell?, h]
  · simp [World.cell?, h]
  · intro i; simp [World.frozen?, h]

theorem reader_set {w : World} {r : Nat} {st sm : Value} {nm om : Option Nat} {kept : Int} (h : w.heap[r]? = some (oReader st sm nm om kept)) :
    (∀ v, (w.setCell ⟨r, 0, none⟩ v).heap[r]? = some (oReader v sm nm om kept)) ∧ (∀ m, (w.setCell ⟨r, 2, none⟩ (.map m)).heap[r]? = some (oReader st sm m om kept)) ∧
    (∀ m, (w.setCell ⟨r, 3, none⟩ (.map m)).heap[r]? = some (oReader st sm nm m kept)) ∧ (∀ n, (w.setCell ⟨r, 4, none⟩ (.int .i64 n)).heap[r]? = some (oReader st sm nm om n)) := by
  refine ⟨fun v => ?_, fun v => ?_, fun v => ?_, fun v => ?_⟩ <;> simp [World.setCell, Array.getElem?_modify, h]

theorem bounds_i64' {n : Int} (h : (Lit.int .i64 n).wf = true) : -9223372036854775808 ≤ n ∧ n ≤ 9223372036854775807 := by
  simp [Lit.wf, IntKind.min, IntKind.max, IntKind.signed, IntKind.bits] at h
  omega

theorem wrap_sub (a b c : Int) : wrap64 (wrap64 (a - b) - c) = wrap64 (a - (b + c)) := by
  unfold wrap64; omega

theorem forget_step {w w3 : World} {r B n cnt3 : Nat} {sm : Value} {nm : Option Nat} {kept S f : Int} {D : DataW Unit} {left' : Lit → Bool} {ks : List Key} {fs : List Int}
    (h : w3.ranges Yba.prog 43 ptrElem B w.heap.size n D left' cnt3 ∧ w3.heap[r]? = some (oReader (.int .i32 1) sm nm (some B) (wrap64 (kept - S))) ∧ w.grownBy w3 (some r) ∧ outSum left' ks fs = S + f) (hrB : ¬ r = B) (hrn : r ≠ w.heap.size) :
    ∃ left cnt, (w3.setCell ⟨r, 4, none⟩ (.int .i64 (IntKind.i64.wrap (wrap64 (kept - S) - f)))).drew.ranges Yba.prog 43 ptrElem B w.heap.size n D left cnt ∧
      (w3.setCell ⟨r, 4, none⟩ (.int .i64 (IntKind.i64.wrap (wrap64 (kept - S) - f)))).drew.heap[r]? = some (oReader (.int .i32 1) sm nm (some B) (wrap64 (kept - outSum left ks fs))) ∧
      w.grownBy (w3.setCell ⟨r, 4, none⟩ (.int .i64 (IntKind.i64.wrap (wrap64 (kept - S) - f)))).drew (some r) := by
  obtain ⟨g1, g2, g3, g4⟩ := h
  refine ⟨left', cnt3, ?_, ?_, ?_⟩
  · exact (g1.kept (grown_setCell w3 r 4 _) (by simp; omega) (by simp; omega)).kept (grown_drewN _ 1) (by simp) (by simp)
  · rw [g4, IntWalk.i64_left, wrap_sub]
    exact (reader_set g2).2.2.2 (wrap64 (kept - (S + f)))
  · exact (g3.trans (grown_setCell w3 r 4 _)).trans ((grown_drewN _ 1).but _)

theorem forget_less {w w3 wr : World} {r B n cnt3 cnt : Nat} {D : DataW Unit} {left left' : Lit → Bool} {u : Value} (g1 : w3.ranges Yba.prog 43 ptrElem B w.heap.size n D left' cnt3) (g2 : wr.ranges Yba.prog 43 ptrElem B w.heap.size n D left cnt) (hlt : cnt3 < cnt)
    (hrB : ¬ r = B) (hrn : r ≠ w.heap.size) : (w3.setCell ⟨r, 4, none⟩ u).drew.rangeLeft B w.heap.size < wr.rangeLeft B w.heap.size := by
  have h1 := (g1.kept (grown_setCell w3 r 4 u) (by simp; omega) (by simp; omega)).left_eq
  have h2 : (w3.setCell ⟨r, 4, none⟩ u).drew.rangeLeft B w.heap.size = (w3.setCell ⟨r, 4, none⟩ u).rangeLeft B w.heap.size := rfl
  rw [h2, h1, g2.left_eq]
  exact hlt

set_option maxHeartbeats 2000000 in
set_option maxRecDepth 100000 in
/-- Forget, where there are older layouts. -/
theorem forget_some (r B n : Nat) (sm : Value) (nm : Option Nat) (kept : Int) (w : World) (hr : w.heap[r]? = some (oReader (.int .i32 0) sm nm (some B) kept))
    (D : DataW Unit) (ks : List Key) (ps : List Nat) (fs : List Int) (hm : w.ownsMap Yba.prog 43 ptrElem B n D) (hv : View D (ks.map Key.lit) (ps.map blk)) (hpl : ps.length = ks.length) (hfl : fs.length = ks.length) (hok : ∀ x ∈ ks, x.Ok)
    (hft : ∀ (j : Nat) p f, ps[j]? = some p → fs[j]? = some f → Foot w p f) (hkw : (Lit.int .i64 kept).wf = true) :
    Calls Yba.prog 7 #[Pt r] w fun e w' => e = .returned (.tuple #[]) ∧ w'.heap[r]? = some (oReader (.int .i32 0) sm none nm (wrap64 (kept - fs.sum))) ∧ w.grownBy w' (some r) := by
  obtain ⟨h0, h1, h2, h3, h4, hz⟩ := reader_cells hr
  have f0 := hz 0
  have HL := hide (lock_free Yba.muLib ⟨r, 0, none⟩ w h0 f0)
  have hrB : ¬ r = B := by
    intro e; subst e
    obtain ⟨es, clock, hb, _⟩ := hm
    rw [hb] at hr; cases hr
  have hg1 := grown_setCell w r 0 (.int .i32 1)
  have hm1 := hm.kept hg1 (by simp; omega)
  have hr1 := (reader_set hr).1 (.int .i32 1)
  obtain ⟨w2, hrun, hrg, hg2, hs2⟩ := hm1.range law Yba.underlying23
  have hrl : r < w.heap.size := (Array.getElem?_eq_some_iff.1 hr).1
  have hr2 : w2.heap[r]? = some (oReader (.int .i32 1) sm nm (some B) kept) := by rw [hg2.block r (by simpa using hrl) (by simp)]; exact hr1
  have hg02 : w.grownBy w2 (some r) := hg1.trans (hg2.but _)
  have HR := hide hrun
  have HS := hide (And.intro hrg (And.intro hr2 hg02))
  have hsz1 : (w.setCell ⟨r, 0, none⟩ (.int .i32 1)).heap.size = w.heap.size := by simp
  clear hrun hrg hr2 hg02 hg2 hs2 hr1 hm1 hg1
  go_enter_defers Yba.func7, Yba.ntmps7
  go_wp2_with fail
  refine (unhide HL).mono ?_
  rintro e w' ⟨rfl, rfl⟩
  go_wp2_with fail
  rw [unhide HR]
  clear HL HR h0 h1 h2 h3 h4
  go_wp2_with fail
  go_loopw [3] (fun _ wr => Hid (∃ left cnt, wr.ranges Yba.prog 43 ptrElem B w.heap.size n D left cnt ∧ wr.heap[r]? = some (oReader (.int .i32 1) sm nm (some B) (wrap64 (kept - outSum left ks fs))) ∧ w.grownBy wr (some r))) (fun _ wr => wr.rangeLeft B w.heap.size)
  case atStart =>
    obtain ⟨g1, g2, g3⟩ := unhide HS
    refine hide ⟨_, _, by simpa using g1, ?_, g3⟩
    have e0 : outSum (Maps.has D) ks fs = 0 := outSum_start _ ks fs (fun k hk => (hv.has _).2 (List.mem_map_of_mem hk))
    rw [e0]
    have : wrap64 (kept - 0) = kept := by
      have hb := bounds_i64' hkw
      unfold wrap64; omega
    rw [this]; exact g2
  case round =>
    obtain ⟨left, cnt, hrg, hrr, hgw⟩ := unhide hrel
    rcases hrg.next law 0 with ⟨hc0, hl0, hrun⟩ | ⟨key, v, kl, y, w3, cnt3, hkey, hleft, hRv, hat, hrun, hrg3, hlt3, hg3, hs3, hent⟩
    · have HR := hide hrun
      rw [outSum_all left hl0 ks fs hfl] at hrr
      obtain ⟨q0, q1, q2, q3, q4, qz⟩ := reader_cells hrr
      have qz0 := qz 0
      have qz2 := qz 2
      have qz3 := qz 3
      have HRR := hide hrr
      have HGW := hide hgw
      clear hrun hrg hrr hgw qz HS hrel hc0 hl0 hm hv hft hok
      go_wp2_with fail
      rw [unhide HR]
      go_wp2_with fail
      refine leaves_cons (f := 9) (args := #[.pointer (some ⟨r, 0, none⟩)]) (by simp) (by simp [go_sem]) ?_
      refine (unlock_deferred Yba.muLib ⟨r, 0, none⟩ .returning _ ?_ ?_).mono ?_
      · exact (World.cell?_setCell_other _ ⟨r, 2, none⟩ ⟨r, 0, none⟩ _ (by simp)).trans ((World.cell?_setCell_other _ ⟨r, 3, none⟩ ⟨r, 0, none⟩ _ (by simp)).trans q0)
      · simp [qz0]
      rintro e u' w'' ⟨rfl, rfl, rfl⟩
      refine ⟨_, results_none rfl _ _ _, rfl, ?_, ?_⟩
      · exact (reader_set ((reader_set ((reader_set (unhide HRR)).2.2.1 nm)).2.1 none)).1 (.int .i32 0)
      · exact (((unhide HGW).trans (grown_setCell _ r 3 _)).trans (grown_setCell _ r 2 _)).trans (grown_setCell _ r 0 _)
    · have hmem : kl ∈ ks.map Key.lit := (hv.has kl).1 (has_true_of_atKey hat)
      obtain ⟨x, hx, rfl⟩ := List.mem_map.1 hmem
      obtain ⟨j, hj⟩ := List.getElem?_of_mem hx
      have hjl : j < ks.length := (List.getElem?_eq_some_iff.1 hj).1
      obtain ⟨p, hp⟩ : ∃ p, ps[j]? = some p := ⟨_, List.getElem?_eq_getElem (by omega)⟩
      obtain ⟨f, hf⟩ : ∃ f, fs[j]? = some f := ⟨_, List.getElem?_eq_getElem (by omega)⟩
      have hy : y.1 = blk p := by
        rw [← hat .nil]
        exact hv.look j x.lit (blk p) (by rw [List.getElem?_map, hj]; rfl) (by rw [List.getElem?_map, hp]; rfl) .nil
      have hvp : v = Pt p := ptrElem_inv (ps := y.2) (by rw [hRv, ← hy])
      subst hvp
      have hrn : r ≠ w.heap.size := by omega
      have hr3 : w3.heap[r]? = some (oReader (.int .i32 1) sm nm (some B) (wrap64 (kept - outSum left ks fs))) := by
        rw [hg3.block r (Nat.lt_of_lt_of_le hrl hgw.size) (by simp; exact hrn)]; exact hrr
      have hgw3 : w.grownBy w3 (some r) := hgw.andThen hg3 (fun j hj => by cases hj; exact .inl (Nat.le_refl _))
      have hF : Foot w3 p f := by
        refine (hft j p f hp hf).keep ?_
        intro i cs e fr h1 h2
        rw [hgw3.block i (Array.getElem?_eq_some_iff.1 h1).1 ?_]
        · exact h1
        · intro he
          have : i = r := by simpa using he
          subst this
          rw [hr] at h1
          injection h1 with h3
          injection h3 with _ h4
          subst h4
          simp [IsLay] at h2
      have hst := outSum_strike left ks fs j x f hv.nodup hj hf hleft (key_key x (hok x hx))
      obtain ⟨q0, q1, q2, q3, q4, qz⟩ := reader_cells hr3
      have qz4 := qz 4
      have hrn' := hrn
      have FT := hide (fun (wx : World) (hx : wx.heap = w3.heap) => foot_any p f wx (hF.keep (fun i cs e fr h1 _ => by rw [hx]; exact h1)))
      have HN := hide hrun
      have HE := hide hent
      have HG := hide (And.intro hrg3 (And.intro hr3 (And.intro hgw3 hst)))
      have HM := hide (And.intro hlt3 hrg)
      clear hrun hent hrg3 hr3 hgw3 hst hlt3 hrg hrr hgw qz HS hrel hm hv hft hok hF hRv hat hkey hleft hg3 hs3 hmem hx hj hp hf hy
      generalize outSum left ks fs = S at *
      go_wp2_with fail
      rw [unhide HN]
      go_wp2_with fail
      rw [unhide HE]
      go_wp2_with fail
      refine wp_region_noPanic ?_
      go_region_with (go_at_call 18; refine (unhide FT w3.drew rfl).mono ?_; rintro e w' ⟨rfl, rfl⟩)
      all_goals
        refine NoPanic.normal ?_
        go_wp2_with fail
        go_roundw
        case rel =>
          exact hide (forget_step (unhide HG) hrB hrn)
        case measure =>
          exact forget_less (unhide HG).1 (unhide HM).2 (unhide HM).1 hrB hrn
end Go.Proofs.Ybulkecbe.A
