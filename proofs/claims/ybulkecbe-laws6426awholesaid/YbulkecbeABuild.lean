import Derived.Test.YbulkecbeASteps
import Derived.WalkSpells
import Derived.WalkLawsBesides
namespace Go.Proofs.Ybulkecbe.A
open Go.ChangeShapes Go.WideShapes Go.ChangeAt Go.RowKit Go.Maps

theorem w4_false (wr : World) (e : Entry) : wr.grownBy ((((wr.alloc (oE e false)).alloc (oV e.key)).alloc (oL (wr.heap.size + 1 + 1 + 1))).alloc (oM e.foot)) none ∧
    ((((wr.alloc (oE e false)).alloc (oV e.key)).alloc (oL (wr.heap.size + 1 + 1 + 1))).alloc (oM e.foot)).heap[wr.heap.size + 1]? = some (oV e.key) ∧
    Foot ((((wr.alloc (oE e false)).alloc (oV e.key)).alloc (oL (wr.heap.size + 1 + 1 + 1))).alloc (oM e.foot)) (wr.heap.size + 1 + 1) e.foot := by
  refine ⟨(((World.grownBy_alloc wr _ none).trans (World.grownBy_alloc _ _ none)).trans (World.grownBy_alloc _ _ none)).trans (World.grownBy_alloc _ _ none), ?_, .inr ⟨.nilIface, wr.heap.size + 1 + 1 + 1, #[.slice none 0 0, .slice none 0 0, .int .i64 0, .int .i64 e.foot], ?_, ?_, rfl⟩⟩
  · rw [(MapKept.heap_alloc _ _).2 _ (by simp), (MapKept.heap_alloc _ _).2 _ (by simp)]
    have := (MapKept.heap_alloc (wr.alloc (oE e false)) (oV e.key)).1
    simpa using this
  · rw [(MapKept.heap_alloc _ _).2 _ (by simp)]
    have := (MapKept.heap_alloc ((wr.alloc (oE e false)).alloc (oV e.key)) (oL (wr.heap.size + 1 + 1 + 1))).1
    simpa using this
  · have := (MapKept.heap_alloc (((wr.alloc (oE e false)).alloc (oV e.key)).alloc (oL (wr.heap.size + 1 + 1 + 1))) (oM e.foot)).1
    simpa using this

/-- 'append' at the operation, by its run. -/
theorem wpList_append_run {P : Program} {w w' : World} {ops : Array Oper} {rest : List Oper} {o : Oper} {a : Act} {Q : Exit → Act → World → Prop} {t : TypeId} (hgd : o.guard = none) (s x : Operand)
    (ho : o.op = .call { callee := .builtin .append, args := #[s, x], argTypes := #[t, t] }) (hty : o.type = t) {sv xv v : Value} (hs : a.eval s = sv) (hx : a.eval x = xv)
    (hrun : (Builtin.append_ #[t, t] t #[sv, xv]).run P w = .ok v w') (h : wpList P ops Q rest (a.put o.dst v) w') : wpList P ops Q (o :: rest) a w := by
  refine wpList_plain hgd fun K hK => ?_
  unfold Oper.wp execOp
  simp only [ho, hty, resolve, invoke, builtin, Sem.run_bind, Sem.run_pure, Result.andThen_ok, List.map_toArray, List.map_cons, List.map_nil, hs, hx, hrun]
  exact hK _ _ h

/-- errors.New. -/
theorem errnew_any (t : ByteArray) (w : World) : Calls Yba.prog 16 #[.string t] w fun r w' => r = .returned (.iface 113 (Pt w.heap.size)) ∧ w' = w.alloc (.cells #[.string t] 115) := by
  go_enter Yba.func16, Yba.ntmps16
  go_wp2
  go_ret
  exact ⟨rfl, rfl⟩

abbrev oR (q : Nat) : Obj := .cells #[.pointer none, .iface 113 (Pt q)] 100
abbrev oS (t : ByteArray) : Obj := .cells #[.string t] 115
theorem w4_true (wr : World) (e : Entry) (t : ByteArray) : wr.grownBy ((((wr.alloc (oE e true)).alloc (oV e.key)).alloc (oR (wr.heap.size + 1 + 1 + 1))).alloc (oS t)) none ∧
    ((((wr.alloc (oE e true)).alloc (oV e.key)).alloc (oR (wr.heap.size + 1 + 1 + 1))).alloc (oS t)).heap[wr.heap.size + 1]? = some (oV e.key) ∧
    Foot ((((wr.alloc (oE e true)).alloc (oV e.key)).alloc (oR (wr.heap.size + 1 + 1 + 1))).alloc (oS t)) (wr.heap.size + 1 + 1) 0 := by
  refine ⟨(((World.grownBy_alloc wr _ none).trans (World.grownBy_alloc _ _ none)).trans (World.grownBy_alloc _ _ none)).trans (World.grownBy_alloc _ _ none), ?_, .inl ⟨.iface 113 (Pt (wr.heap.size + 1 + 1 + 1)), ?_, rfl⟩⟩
  · rw [(MapKept.heap_alloc _ _).2 _ (by simp), (MapKept.heap_alloc _ _).2 _ (by simp)]
    have := (MapKept.heap_alloc (wr.alloc (oE e true)) (oV e.key)).1
    simpa using this
  · rw [(MapKept.heap_alloc _ _).2 _ (by simp)]
    have := (MapKept.heap_alloc ((wr.alloc (oE e true)).alloc (oV e.key)) (oR (wr.heap.size + 1 + 1 + 1))).1
    simpa using this

set_option maxHeartbeats 4000000 in
set_option maxRecDepth 100000 in
theorem build_any (b off len cap : Nat) (w : World) (hlen : len ≤ 1048576) (hb : b < w.heap.size) (hin : Input w b off len) :
    Calls Yba.prog 6 #[.slice (some ⟨b, off, none⟩) len cap] w fun f w' => ∃ kv lv fv ks ps fs, Inv w w.heap.size kv lv fv ks ps fs len w' ∧ f = .returned (.tuple #[.map (some w.heap.size), kv, lv, fv]) := by
  have hmm := @run_makeMap Yba.prog
  have heq := fun (w : World) a n c => Lib.run_eql_slice_nil (P := Yba.prog) (w := w) 22 a n c
  have HI := hide (Inv.start w)
  go_enter Yba.func6, Yba.ntmps6
  go_wp2_with fail
  go_loopw [8, 9, 10, 24] (fun kv lv fv i wr => ∃ k : Nat, k ≤ len ∧ i = .int .i64 k ∧ Hid (∃ ks ps fs, Inv w w.heap.size kv lv fv ks ps fs k wr)) (fun _ _ _ i _ => len - (intOf i).toNat)
  case atStart => exact ⟨0, Nat.zero_le _, rfl, hide ⟨_, _, _, unhide HI⟩⟩
  case round =>
    clear HI
    obtain ⟨k, hk, rfl, hinv⟩ := hrel
    obtain ⟨ks, ps, fs, hinv⟩ := unhide hinv
    by_cases hlt : k < len
    · obtain ⟨e, he⟩ := hin k hlt
      have hbel : Below w.heap.size w wr := by obtain ⟨_, _, c, _⟩ := hinv.core; exact c.below
      have c0 := hbel.cell (p := ⟨b, off + k * 5, none⟩) hb
      have c1 := hbel.cell (p := ⟨b, off + k * 5 + 1, none⟩) hb
      have c2 := hbel.cell (p := ⟨b, off + k * 5 + 2, none⟩) hb
      have c3 := hbel.cell (p := ⟨b, off + k * 5 + 3, none⟩) hb
      have c4 := hbel.cell (p := ⟨b, off + k * 5 + 4, none⟩) hb
      rw [he.c0] at c0
      rw [he.c1] at c1
      rw [he.c2] at c2
      rw [he.c3] at c3
      rw [he.c4] at c4
      have KO := hide he.ok
      have FO := hide he.fok
      have hkl : k < maxLen := by unfold maxLen; omega
      have hnl := hinv.len
      have hnl2 : ks.length ≤ 1048576 := by omega
      have G := hide hinv
      have hshape : (∃ a c, u8 = .slice a ks.length c) ∧ (∃ a c, u9 = .slice a ks.length c) ∧ (∃ a c, u10 = .slice a ks.length c) := by
        obtain ⟨_, _, c, _⟩ := hinv.core
        exact ⟨row_shape c.kr, row_shape c.lr, row_shape c.fr⟩
      clear he hinv hbel
      cases hr : e.ref with
      | false =>
        rw [hr] at c4
        clear hr
        have ST := hide (step1 (unhide G) (unhide KO) (w4_false wr e).1 (w4_false wr e).2.1 (by omega) (w4_false wr e).2.2 hkl)
        by_cases hmem : e.key ∈ ks
        · obtain ⟨j, hj⟩ := List.getElem?_of_mem hmem
          have hjl : j < ks.length := (List.getElem?_eq_some_iff.1 hj).1
          have HJ := hide hj
          have hform : ∃ gl cl gf cf, u9 = .slice (some ⟨gl, 0, none⟩) ks.length cl ∧ u10 = .slice (some ⟨gf, 0, none⟩) ks.length cf ∧ ¬ gl = gf := by
            obtain ⟨_, _, c, _⟩ := (unhide G).core
            obtain ⟨gl, cl, h1, _⟩ := c.lr.form (by omega)
            obtain ⟨gf, cf, h2, _⟩ := c.fr.form (by omega)
            refine ⟨gl, cl, gf, cf, h1, h2, ?_⟩
            rcases row_ne_row c.lr c.fr (by decide) with h | h
            · rw [h1] at h; simp [Value.ownBlock] at h
            · rw [h1, h2] at h; simpa [Value.ownBlock] using h
          obtain ⟨gl, cl, gf, cf, rfl, rfl, hglf⟩ := hform
          clear hj hmem hshape
          go_wp2_with fail
          obtain ⟨w5, hrun, mid, hs5⟩ := unhide ST
          rw [hrun]
          clear hrun ST
          obtain ⟨v0, v1, v2, v3, v4⟩ := mid.vcell
          have LK := hide (mid.look_found (unhide KO) (unhide HJ))
          have FI := hide (mid.found (unhide G).plen (unhide G).flen (unhide G).ok (unhide G).fok (unhide G).len (unhide HJ) (unhide FO))
          have hlc : ∃ u, w5.cell? ⟨gl, j, none⟩ = some u := by
            obtain ⟨_, _, c, _⟩ := mid.core
            have := c.lr.cellAt j (by omega)
            rw [this]
            exact ⟨_, List.getElem?_eq_getElem (by rw [c.lr.1]; omega)⟩
          have hfc : ∃ u, w5.cell? ⟨gf, j, none⟩ = some u := by
            obtain ⟨_, _, c, _⟩ := mid.core
            have := c.fr.cellAt j (by omega)
            rw [this]
            exact ⟨_, List.getElem?_eq_getElem (by rw [c.fr.1]; omega)⟩
          have hlz : w5.frozen? ⟨gl, j, none⟩ = false := by obtain ⟨_, _, c, _⟩ := mid.core; exact c.lr.frozenAt j
          have hfz : w5.frozen? ⟨gf, j, none⟩ = false := by obtain ⟨_, _, c, _⟩ := mid.core; exact c.fr.frozenAt j
          obtain ⟨ul, hlc⟩ := hlc
          obtain ⟨uf, hfc⟩ := hfc
          clear mid
          go_wp2_with fail
          rw [unhide LK]
          clear LK
          go_wp2_with fail
          go_roundw
          case rel => exact ⟨k + 1, by omega, by go_num, hide ⟨_, _, _, unhide FI⟩⟩
          case measure => simp [intOf]; omega
        · obtain ⟨⟨ak, ck, rfl⟩, ⟨al, cl, rfl⟩, ⟨af, cf, rfl⟩⟩ := hshape
          go_wp2_with fail
          obtain ⟨w5, hrun, mid, hs5⟩ := unhide ST
          rw [hrun]
          clear hrun ST
          obtain ⟨v0, v1, v2, v3, v4⟩ := mid.vcell
          have LK := hide (mid.look_new (unhide KO) (unhide G).ok hmem)
          have MX := hide (mid.idx (unhide KO) hkl hnl2)
          clear mid
          go_wp2_with fail
          rw [unhide LK]
          clear LK
          go_wp2_with fail
          obtain ⟨w6, hrun, mix, hv6⟩ := unhide MX
          rw [hrun]
          clear hrun MX v0 v1 v2 v3 v4
          have v0 : w6.cell? ⟨wr.heap.size + 1, 0, none⟩ = some (.int .u64 e.key.dev) := by simp [World.cell?, hv6]
          have v1 : w6.cell? ⟨wr.heap.size + 1, 1, none⟩ = some (.int .u64 e.key.ino) := by simp [World.cell?, hv6]
          have v2 : w6.cell? ⟨wr.heap.size + 1, 2, none⟩ = some (.int .i64 e.key.siz) := by simp [World.cell?, hv6]
          have v3 : w6.cell? ⟨wr.heap.size + 1, 3, none⟩ = some (.int .i64 0) := by simp [World.cell?, hv6]
          have v4 : w6.cell? ⟨wr.heap.size + 1, 4, none⟩ = some (.int .i64 0) := by simp [World.cell?, hv6]
          obtain ⟨g7, cap7, w7, r7, mix7⟩ := mix.appK hnl2 mix.size
          obtain ⟨g8, cap8, w8, r8, mix8⟩ := mix7.appL hnl2 mix7.size
          obtain ⟨g9, cap9, w9, r9, mix⟩ := mix8.appF hnl2 mix8.size
          have R7 := hide r7
          have R8 := hide r8
          have R9 := hide r9
          clear r7 r8 r9 mix7 mix8 hv6
          have FI := hide (mix.fin (unhide KO) hmem (unhide G).plen (unhide G).flen (unhide G).ok (unhide G).fok (unhide G).len (unhide FO))
          clear mix
          go_wp2_with (first | (at_builtin; refine wpList_append_run (t := 24) rfl _ _ rfl rfl rfl rfl (unhide R7) ?_) | (at_builtin; refine wpList_append_run (t := 25) rfl _ _ rfl rfl rfl rfl (unhide R8) ?_) | (at_builtin; refine wpList_append_run (t := 26) rfl _ _ rfl rfl rfl rfl (unhide R9) ?_))
          go_roundw
          case rel => exact ⟨k + 1, by omega, by go_num, hide ⟨_, _, _, unhide FI⟩⟩
          case measure => simp [intOf]; omega
      | true =>
        rw [hr] at c4
        clear hr
        have ST := hide (step1 (unhide G) (unhide KO) (w4_true wr e ⟨#[114, 101, 102, 117, 115, 101, 100]⟩).1 (w4_true wr e ⟨#[114, 101, 102, 117, 115, 101, 100]⟩).2.1 (by omega) (w4_true wr e ⟨#[114, 101, 102, 117, 115, 101, 100]⟩).2.2 hkl)
        by_cases hmem : e.key ∈ ks
        · obtain ⟨j, hj⟩ := List.getElem?_of_mem hmem
          have hjl : j < ks.length := (List.getElem?_eq_some_iff.1 hj).1
          have HJ := hide hj
          have hform : ∃ gl cl gf cf, u9 = .slice (some ⟨gl, 0, none⟩) ks.length cl ∧ u10 = .slice (some ⟨gf, 0, none⟩) ks.length cf ∧ ¬ gl = gf := by
            obtain ⟨_, _, c, _⟩ := (unhide G).core
            obtain ⟨gl, cl, h1, _⟩ := c.lr.form (by omega)
            obtain ⟨gf, cf, h2, _⟩ := c.fr.form (by omega)
            refine ⟨gl, cl, gf, cf, h1, h2, ?_⟩
            rcases row_ne_row c.lr c.fr (by decide) with h | h
            · rw [h1] at h; simp [Value.ownBlock] at h
            · rw [h1, h2] at h; simpa [Value.ownBlock] using h
          obtain ⟨gl, cl, gf, cf, rfl, rfl, hglf⟩ := hform
          clear hj hmem hshape
          go_wp2_with (go_at_call 16; refine (errnew_any _ _).mono ?_; rintro r w' ⟨rfl, rfl⟩)
          obtain ⟨w5, hrun, mid, hs5⟩ := unhide ST
          rw [hrun]
          clear hrun ST
          obtain ⟨v0, v1, v2, v3, v4⟩ := mid.vcell
          have LK := hide (mid.look_found (unhide KO) (unhide HJ))
          have FI := hide (mid.found (unhide G).plen (unhide G).flen (unhide G).ok (unhide G).fok (unhide G).len (unhide HJ) (by decide))
          have hlc : ∃ u, w5.cell? ⟨gl, j, none⟩ = some u := by
            obtain ⟨_, _, c, _⟩ := mid.core
            have := c.lr.cellAt j (by omega)
            rw [this]
            exact ⟨_, List.getElem?_eq_getElem (by rw [c.lr.1]; omega)⟩
          have hfc : ∃ u, w5.cell? ⟨gf, j, none⟩ = some u := by
            obtain ⟨_, _, c, _⟩ := mid.core
            have := c.fr.cellAt j (by omega)
            rw [this]
            exact ⟨_, List.getElem?_eq_getElem (by rw [c.fr.1]; omega)⟩
          have hlz : w5.frozen? ⟨gl, j, none⟩ = false := by obtain ⟨_, _, c, _⟩ := mid.core; exact c.lr.frozenAt j
          have hfz : w5.frozen? ⟨gf, j, none⟩ = false := by obtain ⟨_, _, c, _⟩ := mid.core; exact c.fr.frozenAt j
          obtain ⟨ul, hlc⟩ := hlc
          obtain ⟨uf, hfc⟩ := hfc
          clear mid
          go_wp2_with fail
          rw [unhide LK]
          clear LK
          go_wp2_with fail
          go_roundw
          case rel => exact ⟨k + 1, by omega, by go_num, hide ⟨_, _, _, unhide FI⟩⟩
          case measure => simp [intOf]; omega
        · obtain ⟨⟨ak, ck, rfl⟩, ⟨al, cl, rfl⟩, ⟨af, cf, rfl⟩⟩ := hshape
          go_wp2_with (go_at_call 16; refine (errnew_any _ _).mono ?_; rintro r w' ⟨rfl, rfl⟩)
          obtain ⟨w5, hrun, mid, hs5⟩ := unhide ST
          rw [hrun]
          clear hrun ST
          obtain ⟨v0, v1, v2, v3, v4⟩ := mid.vcell
          have LK := hide (mid.look_new (unhide KO) (unhide G).ok hmem)
          have MX := hide (mid.idx (unhide KO) hkl hnl2)
          clear mid
          go_wp2_with fail
          rw [unhide LK]
          clear LK
          go_wp2_with fail
          obtain ⟨w6, hrun, mix, hv6⟩ := unhide MX
          rw [hrun]
          clear hrun MX v0 v1 v2 v3 v4
          have v0 : w6.cell? ⟨wr.heap.size + 1, 0, none⟩ = some (.int .u64 e.key.dev) := by simp [World.cell?, hv6]
          have v1 : w6.cell? ⟨wr.heap.size + 1, 1, none⟩ = some (.int .u64 e.key.ino) := by simp [World.cell?, hv6]
          have v2 : w6.cell? ⟨wr.heap.size + 1, 2, none⟩ = some (.int .i64 e.key.siz) := by simp [World.cell?, hv6]
          have v3 : w6.cell? ⟨wr.heap.size + 1, 3, none⟩ = some (.int .i64 0) := by simp [World.cell?, hv6]
          have v4 : w6.cell? ⟨wr.heap.size + 1, 4, none⟩ = some (.int .i64 0) := by simp [World.cell?, hv6]
          obtain ⟨g7, cap7, w7, r7, mix7⟩ := mix.appK hnl2 mix.size
          obtain ⟨g8, cap8, w8, r8, mix8⟩ := mix7.appL hnl2 mix7.size
          obtain ⟨g9, cap9, w9, r9, mix⟩ := mix8.appF hnl2 mix8.size
          have R7 := hide r7
          have R8 := hide r8
          have R9 := hide r9
          clear r7 r8 r9 mix7 mix8 hv6
          have FI := hide (mix.fin (unhide KO) hmem (unhide G).plen (unhide G).flen (unhide G).ok (unhide G).fok (unhide G).len (by decide))
          clear mix
          go_wp2_with (first | (at_builtin; refine wpList_append_run (t := 24) rfl _ _ rfl rfl rfl rfl (unhide R7) ?_) | (at_builtin; refine wpList_append_run (t := 25) rfl _ _ rfl rfl rfl rfl (unhide R8) ?_) | (at_builtin; refine wpList_append_run (t := 26) rfl _ _ rfl rfl rfl rfl (unhide R9) ?_))
          go_roundw
          case rel => exact ⟨k + 1, by omega, by go_num, hide ⟨_, _, _, unhide FI⟩⟩
          case measure => simp [intOf]; omega
    · have hkl : k = len := by omega
      subst hkl
      have G := hide hinv
      clear hinv hin
      go_wp2_with fail
      exact bodyPost_ret (v := .tuple #[.map (some w.heap.size), u8, u9, u10]) (by simp [results, Yba.results6, go_sem]) rfl ⟨_, _, _, _, _, _, unhide G, rfl⟩
end Go.Proofs.Ybulkecbe.A
