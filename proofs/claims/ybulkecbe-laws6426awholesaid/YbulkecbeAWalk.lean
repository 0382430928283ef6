import Derived.Test.YbulkecbeALaw
namespace Go.Proofs.Ybulkecbe.A
open Go.ChangeShapes Go.WideShapes Go.ChangeAt Go.RowKit Go.Maps Go.MuLone

abbrev oR0 (nm om : Option Nat) (kept : Int) : Obj := .cells #[.int .i32 0, .int .u32 0, .map nm, .map om, .int .i64 kept] 38

theorem Facts.reader {w w' : World} {mv : Option Nat} {kv lv fv : Value} {ks : List Key} {ps : List Nat} {fs : List Int} (h : Facts w mv kv lv fv ks ps fs) {r : Nat} {cs : Array Value} {z : Nat × Nat} (hr : w.heap[r]? = some (.cells cs 38 z)) (hg : w.grownBy w' (some r)) : Facts w' mv kv lv fv ks ps fs := by
  have hrow : ∀ {e : TypeId} {size : Nat} {v : Value} {n : Nat} {xs : List Value}, w.ownsRow 0 e size v n xs → e ≠ 38 → w'.ownsRow 0 e size v n xs := by
    intro e size v n xs h1 hne
    refine h1.kept hg ?_
    rcases h1.2 with ⟨rfl, _⟩ | ⟨g, cap, cur, rfl, _, hg', _⟩
    · exact .inl rfl
    · right
      intro he
      have : g = r := by simpa [Value.ownBlock] using he
      subst this
      rw [hg'] at hr
      injection hr with h2
      injection h2 with _ h3
      exact hne h3
  refine ⟨?_, hrow h.kr (by decide), hrow h.lr (by decide), hrow h.fr (by decide), h.plen, h.flen, h.ok, ?_, h.len⟩
  · rcases h.map with h1 | ⟨b, n, D, h1, h2, h3⟩
    · exact .inl h1
    · refine .inr ⟨b, n, D, h1, h2.kept hg ?_, h3⟩
      intro he
      have : b = r := by simpa using he
      subst this
      obtain ⟨es, clock, hb, _⟩ := h2
      rw [hb] at hr; cases hr
  · intro j p f h1 h2
    refine (h.foot j p f h1 h2).keep ?_
    intro i cs' e fr h3 h4
    rw [hg.block i (Array.getElem?_eq_some_iff.1 h3).1 ?_]
    · exact h3
    · intro he
      have : i = r := by simpa using he
      subst this
      rw [hr] at h3
      injection h3 with h5
      injection h5 with _ h6
      subst h6
      simp [IsLay] at h4

theorem Facts.maplen {w : World} {mv : Option Nat} {kv lv fv : Value} {ks : List Key} {ps : List Nat} {fs : List Int} (h : Facts w mv kv lv fv ks ps fs) (ty : TypeId) : (Builtin.len_ #[23] ty #[.map mv]).run Yba.prog w = .ok (.int .i64 ks.length) w := by
  rcases h.map with ⟨rfl, h1⟩ | ⟨b, n, D, rfl, h2, h3⟩
  · rw [Maps.len_nil Yba.underlying23, h1]; rfl
  · rw [h2.len Yba.underlying23, h3.size]; simp

/-- r.older[k], for a key that is there. -/
theorem Facts.at {w : World} {mv : Option Nat} {kv lv fv : Value} {ks : List Key} {ps : List Nat} {fs : List Int} (h : Facts w mv kv lv fv ks ps fs) {i : Nat} {x : Key} {p : Nat} (hx : ks[i]? = some x) (hp : ps[i]? = some p) :
    (Instr.lookup 23 (.map mv) x.val false).run Yba.prog w = .ok (Pt p) w := by
  rcases h.map with ⟨rfl, h1⟩ | ⟨b, n, D, rfl, h2, h3⟩
  · rw [h1] at hx; simp at hx
  · obtain ⟨v, qs, hrun, hv⟩ := h2.lookup law Yba.underlying23 (zero44 w) ptrElem_nil (key_lit x (h.ok x (List.mem_of_getElem? hx)))
    rw [h3.look i x.lit (blk p) (by rw [List.getElem?_map, hx]; rfl) (by rw [List.getElem?_map, hp]; rfl)] at hv
    rw [hrun, ptrElem_inv hv]

set_option maxHeartbeats 4000000 in
set_option maxRecDepth 100000 in
theorem law_of (a : Option Addr) (la ca : Nat) (b : Option Addr) (lb cb : Nat) (kept : Int) (w : World) (hA : IsIn w a la ca) (hB : IsIn w b lb cb) (hl : la + lb ≤ 1048576) (hkw : (Lit.int .i64 kept).wf = true) :
    Calls Yba.prog 3 #[.slice a la ca, .slice b lb cb, .int .i64 kept] w fun e w' => e = .returned (.bool true) ∧ Below w.heap.size w w' := by
  have hl1 : (la : Int) + (lb : Int) ≤ 1048576 := by omega
  have B1 := hide (built a la ca w hA (by omega))
  have HB := hide hB
  have HK := hide hkw
  clear hA hB hkw
  go_enter Yba.func3, Yba.ntmps3
  go_wp2_with fail
  refine (unhide B1).mono ?_
  rintro f w1 ⟨nm, nkv, nlv, nfv, nks, nps, nfs, FN, bel1, rfl⟩
  have B2 := hide (built b lb cb w1 ((unhide HB).later bel1) (by omega))
  have G1 := hide (And.intro FN bel1)
  clear FN bel1 B1 HB
  go_wp2_with fail
  refine (unhide B2).mono ?_
  rintro f w2 ⟨om, okv, olv, ofv, oks, ops, ofs, FO, bel2, rfl⟩
  have G2 := hide (And.intro FO bel2)
  obtain ⟨oa, oc, hov⟩ := row_shape FO.fr
  obtain ⟨na, nc, hnv⟩ := row_shape (unhide G1).1.kr
  have hlo : oks.length ≤ 1048576 := FO.len
  subst hov hnv
  clear FO bel2 B2
  go_wp2_with fail
  have hgr := World.grownBy_alloc w2 (oR0 nm om kept) none
  have FO := (unhide G2).1.later hgr
  have FN := ((unhide G1).1.later (grown_of_below (unhide G2).2)).later hgr
  have BE := hide (((unhide G1).2.trans ((unhide G2).2.mono (unhide G1).2.size)).alloc (by have := (unhide G1).2.size; have := (unhide G2).2.size; omega) (oR0 nm om kept))
  have hrd : (w2.alloc (oR0 nm om kept)).heap[w2.heap.size]? = some (oReader (.int .i32 0) (.int .u32 0) nm om kept) := (MapKept.heap_alloc w2 (oR0 nm om kept)).1
  have hrge : w.heap.size ≤ w2.heap.size := by have := (unhide G1).2.size; have := (unhide G2).2.size; omega
  clear G1 G2 hgr
  generalize w2.heap.size = r at *
  generalize w2.alloc (oR0 nm om kept) = w3 at *
  have HO := hide FO
  have HN := hide FN
  have HRD := hide hrd
  clear FO FN hrd
  go_loop [16, 49] (fun t i => ∃ k : Nat, k ≤ oks.length ∧ i = .int .i64 k ∧ t = .int .i64 (wrap64 (kept - (ofs.take k).sum))) (fun _ i => oks.length - (intOf i).toNat)
  case atStart =>
    refine ⟨0, Nat.zero_le _, rfl, ?_⟩
    have hb := bounds_i64' (unhide HK)
    have : wrap64 (kept - (ofs.take 0).sum) = kept := by simp [wrap64]; omega
    rw [this]
  case round =>
    obtain ⟨k, hk, rfl, rfl⟩ := hrel
    by_cases hlt : k < oks.length
    · obtain ⟨g, cg, hform, _⟩ := (unhide HO).fr.form (by omega)
      injection hform with hform1 hform2 hform3
      subst hform1 hform3
      obtain ⟨f, hf⟩ : ∃ f, ofs[k]? = some f := ⟨_, List.getElem?_eq_getElem (by have := (unhide HO).flen; omega)⟩
      have hc : w3.cell? ⟨g, k, none⟩ = some (.int .i64 f) := by
        rw [(unhide HO).fr.cellAt k (by omega)]
        simp [fcells, hf]
      have HS := hide (sum_take_succ ofs k f hf)
      clear hf
      generalize (ofs.take k).sum = S at *
      go_wp2_with fail
      go_round
      case rel => exact ⟨k + 1, by omega, by go_num, by rw [unhide HS, ← wrap_sub]⟩
      case measure => simp [intOf]; omega
    · have hkn : k = oks.length := by omega
      subst hkn
      rw [List.take_of_length_le (by have := (unhide HO).flen; omega)]
      have FG := hide (forget_any r (.int .u32 0) nm om kept w3 (unhide HRD) (unhide HO) (unhide HK))
      clear hlt hk
      generalize wrap64 (kept - ofs.sum) = want at *
      go_wp2_with fail
      refine (unhide FG).mono ?_
      rintro e w4 ⟨rfl, hr4, hg4⟩
      have FN4 := (unhide HN).reader (unhide HRD) hg4
      have B4 := hide ((unhide BE).grown hg4 (unhide BE).size (fun j hj => by cases hj; exact hrge))
      obtain ⟨q0, q1, q2, q3, q4, qz⟩ := reader_cells hr4
      have qz0 := qz 0
      have hr4l : r < w4.heap.size := (Array.getElem?_eq_some_iff.1 hr4).1
      have hml := FN4.maplen
      have he1 := fun (w : World) (m : Option Nat) => run_eql_map_nil (P := Yba.prog) w 23 43 44 m Yba.underlying23
      have he2 := fun (w : World) (m : Option Nat) => run_neq_map_nil (P := Yba.prog) w 23 43 44 m Yba.underlying23
      have H4 := hide FN4
      have HR4 := hide hr4
      have hln : nks.length ≤ 1048576 := FN4.len
      clear FN4 hr4 hg4 qz FG HN HO HRD BE HK
      go_wp2_with fail
      clear q0 q1 q2 q3 q4 qz0 hml he1 he2
      go_loopw [88] (fun i wr => ∃ k : Nat, k ≤ nks.length ∧ i = .int .i64 k ∧ Hid (w4.grownBy wr none)) (fun i _ => nks.length - (intOf i).toNat)
      case atStart => exact ⟨0, Nat.zero_le _, rfl, hide ⟨rfl, rfl, rfl, Nat.le_refl _, fun _ _ _ => rfl⟩⟩
      case round =>
        obtain ⟨k, hk, rfl, hgr⟩ := hrel
        have hr5 : wr.heap[r]? = some (oReader (.int .i32 0) (.int .u32 0) none nm want) := by
          rw [(unhide hgr).block r hr4l (by simp)]; exact unhide HR4
        obtain ⟨q0, q1, q2, q3, q4, qz⟩ := reader_cells hr5
        have qz0 := qz 0
        have hr5l : r < wr.heap.size := (Array.getElem?_eq_some_iff.1 hr5).1
        by_cases hlt : k < nks.length
        · have F5 := (unhide H4).later (unhide hgr)
          obtain ⟨g, cg, hform, _, hgl⟩ := F5.kr.form (by omega)
          injection hform with hform1 hform2 hform3
          subst hform1 hform3
          obtain ⟨gl, cl, rfl, _, hgll⟩ := F5.lr.form (by omega)
          obtain ⟨x, hx⟩ : ∃ x, nks[k]? = some x := ⟨_, List.getElem?_eq_getElem hlt⟩
          obtain ⟨p, hp⟩ : ∃ p, nps[k]? = some p := ⟨_, List.getElem?_eq_getElem (by have := F5.plen; omega)⟩
          have kc : ∀ j v, x.cells[j]? = some v → wr.cell? ⟨g, k * 5 + j, none⟩ = some v := by
            intro j v hj
            have hj5 : j < 5 := by have := (List.getElem?_eq_some_iff.1 hj).1; simpa [Key.cells] using this
            rw [F5.kr.cellAt (k * 5 + j) (by omega)]
            exact kcells_at nks k x hx j v hj
          have k0 : wr.cell? ⟨g, k * 5, none⟩ = some (.int .u64 x.dev) := kc 0 _ rfl
          have k1 : wr.cell? ⟨g, k * 5 + 1, none⟩ = some (.int .u64 x.ino) := kc 1 _ rfl
          have k2 : wr.cell? ⟨g, k * 5 + 2, none⟩ = some (.int .i64 x.siz) := kc 2 _ rfl
          have k3 : wr.cell? ⟨g, k * 5 + 3, none⟩ = some (.int .i64 0) := kc 3 _ rfl
          have k4 : wr.cell? ⟨g, k * 5 + 4, none⟩ = some (.int .i64 0) := kc 4 _ rfl
          have lc : wr.cell? ⟨gl, k, none⟩ = some (Pt p) := by
            rw [F5.lr.cellAt k (by omega)]
            simp [pcells, hp]
          have hlk := fun m => (F5.later ((World.grownBy_alloc wr (oV x) none).trans (grown_drewN _ m))).at hx hp
          have hne := neq44
          have hki : (0 : Int) ≤ (k : Int) := by omega
          have hki2 : (k : Int) < (nks.length : Int) := by omega
          clear F5 kc hx hp hr5 qz q0 q1 q2 q4 qz0
          go_wp2_with fail
          go_quiet (fail)
          go_wp2_with fail
          exact ⟨⟨k + 1, by omega, by go_num, hide (((unhide hgr).trans (World.grownBy_alloc wr _ none)).trans (grown_drewN _ _))⟩, by simp [intOf]; omega⟩
        · have T := hide (try_free r wr q0 qz0)
          have U := hide (unlock_held Yba.muLib ⟨r, 0, none⟩ (wr.setCell ⟨r, 0, none⟩ (.int .i32 1)) (World.cell?_setCell_same _ _ _ q0) (by simp [qz0]))
          clear hr5 qz q0 q1 q2 q3 q4 qz0
          have hnot : ∀ (x : Bool) (w : World), (Op.unary .not (.bool x)).run Yba.prog w = .ok (.bool (!x)) w := fun _ _ => rfl
          go_wp2_with fail
          refine (unhide T).mono ?_
          rintro e w' ⟨rfl, rfl⟩
          go_wp2_with fail
          refine (unhide U).mono ?_
          rintro e w' ⟨rfl, rfl⟩
          go_wp2_with fail
          go_ret
          exact ⟨rfl, (((unhide B4).grown (unhide hgr) (unhide B4).size (by simp)).setCell hrge _).setCell hrge _⟩

/-- Too many entries for the law: it answers true at once. -/
theorem law_long (a : Option Addr) (la ca : Nat) (b : Option Addr) (lb cb : Nat) (kept : Int) (w : World) (h1 : la ≤ 140737488355328) (h2 : lb ≤ 140737488355328) (hl : 1048576 < la + lb) :
    Calls Yba.prog 3 #[.slice a la ca, .slice b lb cb, .int .i64 kept] w fun e w' => e = .returned (.bool true) ∧ Below w.heap.size w w' := by
  have hl1 : (1048576 : Int) < (la : Int) + (lb : Int) := by omega
  have h1' : (la : Int) ≤ 140737488355328 := by omega
  have h2' : (lb : Int) ≤ 140737488355328 := by omega
  go_enter Yba.func3, Yba.ntmps3
  go_wp2_with fail
  go_ret
  exact ⟨rfl, Below.refl _ _⟩
end Go.Proofs.Ybulkecbe.A
