import Derived.Test.YbulkecbeBBuckets
namespace Go.Proofs.Ybulkecbe.B
open Go.ChangeShapes Go.WideShapes Go.ChangeAt Go.RowKit Go.Maps

/-- 'append' at the operation, by its run. -/
theorem wpList_append_run {P : Program} {w w' : World} {ops : Array Oper} {rest : List Oper} {o : Oper} {a : Act} {Q : Exit → Act → World → Prop} {t : TypeId} (hgd : o.guard = none) (s x : Operand)
    (ho : o.op = .call { callee := .builtin .append, args := #[s, x], argTypes := #[t, t] }) (hty : o.type = t) {sv xv v : Value} (hs : a.eval s = sv) (hx : a.eval x = xv)
    (hrun : (Builtin.append_ #[t, t] t #[sv, xv]).run P w = .ok v w') (h : wpList P ops Q rest (a.put o.dst v) w') : wpList P ops Q (o :: rest) a w := by
  refine wpList_plain hgd fun K hK => ?_
  unfold Oper.wp execOp
  simp only [ho, hty, resolve, invoke, builtin, Sem.run_bind, Sem.run_pure, Result.andThen_ok, List.map_toArray, List.map_cons, List.map_nil, hs, hx, hrun]
  exact hK _ _ h

theorem len_le : ∀ (ss ks : List Str), ss.Nodup → (∀ x ∈ ss, x ∈ ks) → ss.length ≤ ks.length
  | [], ks, _, _ => by simp
  | s :: ss, ks, hn, h => by
    have hn' := List.nodup_cons.1 hn
    have hs : s ∈ ks := h s (by simp)
    have := len_le ss (ks.erase s) hn'.2 (fun x hx => (List.mem_erase_of_ne (fun (e : x = s) => hn'.1 (e ▸ hx))).2 (h x (by simp [hx])))
    rw [List.length_erase_of_mem hs] at this
    have hp : 0 < ks.length := List.length_pos_of_mem hs
    simp; omega

theorem strings_some (g cap : Nat) (ss : List Str) (w : World) (hH : Go.Sort.Holds encStr w g 0 ss.toArray) (hb : g < w.heap.size) (hl : ss.length < 4611686018427387904) :
    Calls Yba.prog 24 #[.slice (some ⟨g, 0, none⟩) ss.length cap] w fun e w' => e = .returned (.tuple #[]) ∧ ∃ n os, w' = Go.Sort.grow (Go.Sort.putRow encStr (Go.Sort.ahead w n) g 0 (ss.mergeSort leB).toArray) os :=
  Any.sort_Strings Yba.lays192 g 0 cap ss w hH hb hl

theorem sorted_pairwise (ss : List Str) : (ss.mergeSort leB).Pairwise (· ≤ ·) := by
  have tr : ∀ a b c : List UInt8, leB a b = true → leB b c = true → leB a c = true := fun a b c h1 h2 => by simp only [leB, decide_eq_true_eq] at *; exact List.le_trans h1 h2
  have to : ∀ a b : List UInt8, (leB a b || leB b a) = true := fun a b => by simp only [leB, Bool.or_eq_true, decide_eq_true_eq]; exact List.le_total a b
  exact (List.pairwise_mergeSort tr to ss).imp (fun h => by simpa [leB] using h)

theorem strings_any {w : World} {s B r n : Nat} {D : DataW Unit} {ks : List Str} {ds : List Int} {v : Value} {left : Lit → Bool} {cnt : Nat} {ss : List Str} {wr : World} (h : BInv w s B r n D ks ds v left cnt ss wr) (hsl : s < w.heap.size) (hn : ss.length ≤ 1048576) :
    Calls Yba.prog 24 #[v] wr fun e w' => e = .returned (.tuple #[]) ∧ ∃ ts : List Str, ts.Perm ss ∧ ts.Pairwise (· ≤ ·) ∧ (ts = [] → v = .slice none 0 0) ∧ w'.ownsRow w.heap.size 9 1 v ts.length (scells ts) ∧ w.grownBy w' (some s) ∧ w'.heap[s]? = some (oS 1 B) := by
  by_cases h0 : ss = []
  · have hv := h.nil h0
    subst h0
    subst hv
    refine (strings_nil none 0 wr).mono ?_
    rintro e w' ⟨rfl, rfl⟩
    exact ⟨rfl, [], List.Perm.refl _, by simp, fun _ => rfl, h.row, h.gr, h.st⟩
  · have hpos : 0 < ss.length := by
      cases ss with
      | nil => exact absurd rfl h0
      | cons a b => simp
    rcases h.row.2 with ⟨_, hz⟩ | ⟨g, cap, cur, rfl, hb, hcur, h1, h2, h3, h4⟩
    · omega
    · have hg : g < wr.heap.size := (Array.getElem?_eq_some_iff.1 hcur).1
      have hsg : s ≠ g := by omega
      refine (strings_some g cap ss wr (holds_of_block hcur (by simpa [scells] using h4)) hg (by omega)).mono ?_
      rintro e w' ⟨rfl, k, os, rfl⟩
      have hl : (ss.mergeSort leB).length = ss.length := by simp
      refine ⟨rfl, ss.mergeSort leB, List.mergeSort_perm _ _, sorted_pairwise ss, fun e => ?_, ?_, ?_, ?_⟩
      · rw [e] at hl; simp at hl; omega
      · rw [hl]
        exact ownsRow_sorted hl hb hcur h1 h2 h3
      · exact h.gr.andThen (grownBy_sorted _) (fun j hj => by cases hj; exact .inl hb)
      · rw [(grownBy_sorted (w := wr) (g := g) (n := k) (os := os) (ss.mergeSort leB).toArray).block s (Nat.lt_of_lt_of_le hsl h.gr.size) (by simp; exact hsg)]
        exact h.st

theorem grown_back {w w' : World} {s B : Nat} (h0 : w.heap[s]? = some (oS 0 B)) (hg : w.grownBy w' (some s)) (h1 : w'.heap[s]? = some (oS 1 B)) : w.grownBy (w'.setCell ⟨s, 4, none⟩ (.int .i32 0)) none := by
  refine ⟨hg.os, hg.tape, hg.output, by simpa using hg.size, fun k hk _ => ?_⟩
  by_cases e : k = s
  · subst e; rw [store_set h1, h0]
  · rw [(grown_setCell w' s 4 (.int .i32 0)).block k (Nat.lt_of_lt_of_le hk hg.size) (by simpa using e)]
    exact hg.block k hk (by simpa using e)

set_option maxHeartbeats 4000000 in
set_option maxRecDepth 100000 in
theorem buckets_any (s B n : Nat) (w : World) (hs : w.heap[s]? = some (oS 0 B)) (D : DataW Unit) (ks : List Str) (ds : List Int) (ps : List Nat) (hm : w.ownsMap Yba.prog 9 ptrElem B n D) (hv : View D (ks.map slit) (ps.map blk)) (hpl : ps.length = ks.length) (hdl : ds.length = ks.length)
    (hok : ∀ x ∈ ks, x.length ≤ maxLen) (hbk : ∀ (j : Nat) x d p, ks[j]? = some x → ds[j]? = some d → ps[j]? = some p → Buck w B p x d) (hnd : ks.Nodup) (hlen : ks.length ≤ 1048576) :
    Calls Yba.prog 10 #[Pt s] w fun e w' => ∃ gv, ∃ ss : List Str, e = .returned gv ∧ ss.Perm (sel ks ds) ∧ ss.Pairwise (· ≤ ·) ∧ (ss = [] → gv = .slice none 0 0) ∧ w'.ownsRow w.heap.size 9 1 gv ss.length (scells ss) ∧ w.grownBy w' none := by
  obtain ⟨h0, h2, h3, h4, h6, h7, hz⟩ := store_cells hs
  have HL := hide (rlock0 s 0 _ _ w h0 h3 h4 hz)
  have hsB : ¬ s = B := by
    intro e; subst e
    obtain ⟨es, clock, hb, _⟩ := hm
    rw [hb] at hs; cases hs
  have hg1 := grown_setCell w s 4 (.int .i32 1)
  have hm1 := hm.kept hg1 (by simp; omega)
  have hs1 := store_set hs 1
  obtain ⟨w2, hrun, hrg, hg2, hs2⟩ := hm1.range law9 Yba.underlying49
  have hsl : s < w.heap.size := (Array.getElem?_eq_some_iff.1 hs).1
  have hs2' : w2.heap[s]? = some (oS 1 B) := by rw [hg2.block s (by simpa using hsl) (by simp)]; exact hs1
  have hg02 : w.grownBy w2 (some s) := hg1.trans (hg2.but _)
  have HR := hide hrun
  have hsz1 : (w.setCell ⟨s, 4, none⟩ (.int .i32 1)).heap.size = w.heap.size := by simp
  rw [hsz1] at hrg
  have HI := hide (BInv.mk (ks := ks) (ds := ds) (ss := []) (v := .slice none 0 0) hrg hs2' hg02 (Coll.start ks ds _ (fun x hx => (hv.has _).2 (List.mem_map_of_mem hx))) (World.ownsRow_nil _ _ _ _) (fun _ => rfl))
  have HS := hide hs
  have HV := hide (And.intro hv (And.intro hbk hok))
  have hselL : ∀ ss : List Str, ∀ left, Coll ks ds left ss → ss.length ≤ 1048576 := by
    intro ss left hc
    have : ss.length ≤ ks.length := len_le ss ks hc.1 (fun x hx => by obtain ⟨_, j, h, _⟩ := (hc.2 x).1 hx; exact List.mem_of_getElem? h)
    omega
  have HSL := hide hselL
  clear hrun hrg hs2' hg02 hg2 hs2 hs1 hm1 hg1 hs hv hbk hok hm hselL h2 h3 h7 hz
  go_enter_defers Yba.func10, Yba.ntmps10
  go_wp2_with fail
  refine (unhide HL).mono ?_
  rintro e w' ⟨rfl, rfl⟩
  go_wp2_with fail
  rw [unhide HR]
  clear HL HR h0 h4 h6
  go_wp2_with fail
  go_loopw [3] (fun v wr => Hid (∃ left cnt ss, BInv w s B w.heap.size n D ks ds v left cnt ss wr)) (fun _ wr => wr.rangeLeft B w.heap.size)
  case atStart => exact hide ⟨_, _, _, unhide HI⟩
  case round =>
    obtain ⟨left, cnt, ss, hI⟩ := unhide hrel
    have hssl := unhide HSL ss left hI.col
    rcases hI.rg.next law9 0 with ⟨hc0, hl0, hrun⟩ | ⟨key, v, kl, y, w3, cnt3, hkey, hleft, hRv, hat, hrun, hrg3, hlt3, hg3, hs3, hent⟩
    · have HN := hide hrun
      have ST := hide (strings_any hI hsl hssl)
      have HP := hide (hI.col.perm hnd hl0)
      clear hrun hrel HI HSL HV hI hc0 hl0
      go_wp2_with fail
      rw [unhide HN]
      go_wp2_with fail
      refine (unhide ST).mono ?_
      rintro e w' ⟨rfl, ts, hperm, hpw, hnil, hrow, hgr, hst⟩
      obtain ⟨q0, q2, q3, q4, q6, q7, qz⟩ := store_cells hst
      have U := hide (fun u => runlock1 s 0 _ _ u w' q0 q2 q4 qz)
      have FI := hide (And.intro (hperm.trans (unhide HP)) (And.intro hpw (And.intro hnil (And.intro (hrow.kept (grown_setCell w' s 4 (.int .i32 0)) (by
        right; intro e
        have := row_ge hrow s e
        omega)) (grown_back (unhide HS) hgr hst)))))
      clear hperm hpw hnil hrow hgr hst q0 q2 q3 q4 q6 q7 qz ST HP
      go_wp2_with fail
      refine leaves_cons (f := 22) (args := #[.pointer (some ⟨s, 0, none⟩)]) (by simp) (by simp [go_sem]) ?_
      refine (unhide U .returning).mono ?_
      rintro e u' w'' ⟨rfl, rfl, rfl⟩
      exact ⟨u3, by simp [results, Yba.results10, go_sem], u3, ts, rfl, unhide FI⟩
    · obtain ⟨hv, hbk, hok⟩ := unhide HV
      have hmem : kl ∈ ks.map slit := (hv.has kl).1 (has_true_of_atKey hat)
      obtain ⟨x, hx, rfl⟩ := List.mem_map.1 hmem
      obtain ⟨j, hj⟩ := List.getElem?_of_mem hx
      have hjl : j < ks.length := (List.getElem?_eq_some_iff.1 hj).1
      obtain ⟨p, hp⟩ : ∃ p, ps[j]? = some p := ⟨_, List.getElem?_eq_getElem (by omega)⟩
      obtain ⟨d, hd⟩ : ∃ d, ds[j]? = some d := ⟨_, List.getElem?_eq_getElem (by omega)⟩
      have hy : y.1 = blk p := by
        rw [← hat .nil]
        exact hv.look j (slit x) (blk p) (by rw [List.getElem?_map, hj]; rfl) (by rw [List.getElem?_map, hp]; rfl) .nil
      have hvp : v = Pt p := ptrElem_inv (ps := y.2) (by rw [hRv, ← hy])
      subst hvp
      obtain ⟨x', rfl, hx', _⟩ := Maps.keyOf_str Yba.underlying9 hkey
      have hxx : x' = x := slit_inj hx'.symm
      subst hxx
      have hgw3 : w.grownBy w3 (some s) := hI.gr.andThen hg3 (fun j hj => by cases hj; exact .inl (Nat.le_refl _))
      have hbk3 := (hbk j x' d p hj hd hp).keep (Stands.of_cells (unhide HS) (by decide) hgw3)
      have EM := hide (empty_any p B x' d w3 hbk3)
      obtain ⟨av, cv, rfl⟩ := row_shape hI.row
      have HN := hide hrun
      have HE := hide hent
      have hnot : ∀ (x : Bool) (w : World), (Op.unary .not (.bool x)).run Yba.prog w = .ok (.bool (!x)) w := fun _ _ => rfl
      by_cases hd2 : d = 2
      · subst hd2
        obtain ⟨g, cap, w4, hrunA, hB4, hl4⟩ := hI.app hsl hssl (hI.col.take hj hd hleft) hrg3 hg3 (Nat.le_refl _)
        have HA := hide hrunA
        have HB := hide hB4
        have HM := hide (show w4.rangeLeft B w.heap.size < wr.rangeLeft B w.heap.size by rw [hl4, hI.rg.left_eq]; exact hlt3)
        clear hrun hent hrel HI HSL HV hI hv hbk hok hmem hx hj hp hd hy hkey hleft hRv hat hrg3 hlt3 hg3 hs3 hgw3 hbk3 hrunA hB4 hl4 hx'
        go_wp2_with fail
        rw [unhide HN]
        go_wp2_with fail
        rw [unhide HE]
        go_wp2_with fail
        refine (unhide EM).mono ?_
        rintro e w' ⟨rfl, rfl⟩
        go_wp2_with (at_builtin; refine wpList_append_run (t := 47) rfl _ _ rfl rfl rfl rfl (unhide HA) ?_)
        go_roundw
        case rel => exact hide ⟨_, _, _, unhide HB⟩
        case measure => exact unhide HM
      · have HB := hide (hI.skip hsl (hI.col.skip hnd hj hd hd2 hleft) hrg3 hg3 (Nat.le_refl _))
        have HM := hide (show w3.rangeLeft B w.heap.size < wr.rangeLeft B w.heap.size by rw [hrg3.left_eq, hI.rg.left_eq]; exact hlt3)
        clear hrun hent hrel HI HSL HV hI hv hbk hok hmem hx hj hp hd hy hkey hleft hRv hat hrg3 hlt3 hg3 hs3 hgw3 hbk3 hx'
        go_wp2_with fail
        rw [unhide HN]
        go_wp2_with fail
        rw [unhide HE]
        go_wp2_with fail
        refine (unhide EM).mono ?_
        rintro e w' ⟨rfl, rfl⟩
        go_wp2_with fail
        go_roundw
        case rel => exact hide ⟨_, _, _, unhide HB⟩
        case measure => exact unhide HM
end Go.Proofs.Ybulkecbe.B
