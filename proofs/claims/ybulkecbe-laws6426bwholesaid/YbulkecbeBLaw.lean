import Derived.Test.YbulkecbeBFacts
namespace Go.Proofs.Ybulkecbe.B
open Go.ChangeShapes Go.WideShapes Go.ChangeAt Go.RowKit Go.Maps

def Names (w : World) (a : Option Addr) (len : Nat) : Prop := 0 < len → ∃ b off, a = some ⟨b, off, none⟩ ∧ b < w.heap.size ∧ ∀ i, i < len → ∃ x : Str, w.cell? ⟨b, off + i, none⟩ = some (.string ⟨x.toArray⟩) ∧ x.length ≤ maxLen
def Flags (w : World) (a : Option Addr) (len : Nat) : Prop := 0 < len → ∃ b off, a = some ⟨b, off, none⟩ ∧ b < w.heap.size ∧ ∀ i, i < len → ∃ f : Int, w.cell? ⟨b, off + i, none⟩ = some (.int .u8 f) ∧ 0 ≤ f ∧ f < 256

set_option maxHeartbeats 4000000 in
set_option maxRecDepth 100000 in
theorem law_of (a : Option Addr) (la ca : Nat) (b : Option Addr) (lb cb : Nat) (w : World) (hA : Names w a la) (hB : Flags w b lb) (hl : la ≤ 4096) (hlb : lb ≤ 140737488355328) :
    Calls Yba.prog 4 #[.slice a la ca, .slice b lb cb] w fun e w' => e = .returned (.bool true) ∧ Below w.heap.size w w' := by
  have hl1 : (la : Int) ≤ 4096 := by omega
  have hlb1 : (lb : Int) ≤ 140737488355328 := by omega
  have HA := hide hA
  have HB := hide hB
  clear hA hB
  have hmm := @run_makeMap Yba.prog
  have HI := hide (Inv.start w)
  go_enter Yba.func4, Yba.ntmps4
  go_wp2_with fail
  go_loopw [5, 6, 30] (fun kv dv i wr => ∃ k : Nat, k ≤ la ∧ i = .int .i64 k ∧ Hid (∃ ks ds ps, Inv w w.heap.size kv dv ks ds ps k wr)) (fun _ _ i _ => la - (intOf i).toNat)
  case atStart => exact ⟨0, Nat.zero_le _, rfl, hide ⟨_, _, _, unhide HI⟩⟩
  case round =>
    clear HI
    obtain ⟨k, hk, rfl, hinv⟩ := hrel
    obtain ⟨ks, ds, ps, hinv⟩ := unhide hinv
    by_cases hlt : k < la
    · obtain ⟨ba, oa, rfl, hba, hin⟩ := unhide HA (by omega)
      obtain ⟨x, hx, hxl⟩ := hin k hlt
      have hbel : Below w.heap.size w wr := by obtain ⟨_, c, _⟩ := hinv.core; exact c.below
      have cx := hbel.cell (p := ⟨ba, oa + k, none⟩) hba
      rw [hx] at cx
      have hwB : w.heap.size < wr.heap.size := by obtain ⟨_, c, _⟩ := hinv.core; have := c.size; omega
      have hkl : k < maxLen := by unfold maxLen; omega
      have hnl := hinv.len
      have hnl2 : ks.length ≤ 1048576 := by omega
      have G := hide hinv
      obtain ⟨ak, ck, rfl⟩ : ∃ a c, u5 = .slice a ks.length c := by obtain ⟨_, c, _⟩ := hinv.core; exact row_shape c.kr
      obtain ⟨ad, cd, rfl⟩ : ∃ a c, u6 = .slice a ks.length c := by obtain ⟨_, c, _⟩ := hinv.core; exact row_shape c.dr
      have hkl1 : (k : Int) < (la : Int) := by omega
      have hnl1 : (ks.length : Int) ≤ 4096 := by omega
      have HXL := hide hxl
      clear hinv hin hx HA
      by_cases hkf : k < lb
      · obtain ⟨bb, ob, rfl, hbb, hfl⟩ := unhide HB (by omega)
        obtain ⟨f, hf, hf0, hf1⟩ := hfl k hkf
        have cf := hbel.cell (p := ⟨bb, ob + k, none⟩) hbb
        rw [hf] at cf
        have hkf1 : (k : Int) < (lb : Int) := by omega
        clear hfl hbel hf
        have h3 : f % 3 = 0 ∨ f % 3 = 1 ∨ f % 3 = 2 := by omega
        rcases h3 with h3 | h3 | h3
        · have htm : Int.tmod f 3 = 0 := by rw [Int.tmod_eq_emod_of_nonneg hf0]; exact h3
          have ST := hide (step1 (unhide G) (unhide HXL) (buck0 wr w.heap.size x 0 (by decide)).1 (buck0 wr w.heap.size x 0 (by decide)).2 hkl)
          go_wp2_with fail
          obtain ⟨w5, hrun, mid⟩ := unhide ST
          rw [hrun]
          clear hrun ST
          have M := hide mid
          clear mid
          go_wp2_with fail
          go_loop [12, 13] (fun f j => f = .int .i64 (-1) ∧ ∃ m : Nat, m ≤ ks.length ∧ j = .int .i64 m ∧ Hid (∀ t, t < m → ks[t]? ≠ some x)) (fun _ j => ks.length - (intOf j).toNat)
          case atStart => exact ⟨rfl, 0, Nat.zero_le _, rfl, hide (fun t ht => by omega)⟩
          case round =>
            obtain ⟨rfl, m, hm, rfl, hne⟩ := hrel
            by_cases hml : m < ks.length
            · obtain ⟨y, hy⟩ : ∃ y, ks[m]? = some y := ⟨_, List.getElem?_eq_getElem hml⟩
              have hml1 : (m : Int) < (ks.length : Int) := by omega
              obtain ⟨gk, ck', hform, hcy⟩ : ∃ g c, Value.slice ak ks.length ck = .slice (some ⟨g, 0, none⟩) ks.length c ∧ w5.cell? ⟨g, m, none⟩ = some (.string ⟨y.toArray⟩) := by
                obtain ⟨_, c, _⟩ := (unhide M).core
                obtain ⟨g, c', h1, _⟩ := c.kr.form (by omega)
                rw [h1] at c
                exact ⟨g, c', h1, row_at c.kr hy⟩
              injection hform with e1 e2 e3
              subst e1 e3
              clear e2
              by_cases hyx : y = x
              · subst hyx
                obtain ⟨gd, cd', hformd, ⟨ud, hcd⟩, hfd⟩ : ∃ g c, Value.slice ad ks.length cd = .slice (some ⟨g, 0, none⟩) ks.length c ∧ (∃ u, w5.cell? ⟨g, m, none⟩ = some u) ∧ w5.frozen? ⟨g, m, none⟩ = false := by
                  obtain ⟨_, c, _⟩ := (unhide M).core
                  obtain ⟨g, c', h1, _⟩ := c.dr.form (by omega)
                  rw [h1] at c
                  refine ⟨g, c', h1, ?_, c.dr.frozenAt m⟩
                  rw [c.dr.cellAt m (by omega)]
                  exact ⟨_, List.getElem?_eq_getElem (by rw [c.dr.1]; omega)⟩
                injection hformd with e1 e2 e3
                subst e1 e3
                clear e2
                have FI := hide ((unhide M).found (unhide G).plen (unhide G).dlen (unhide G).ok (unhide G).dok (unhide G).len (unhide G).nodup hy (by decide))
                clear hy hne M G
                go_wp2_with fail
                go_roundw
                case rel => exact ⟨k + 1, by omega, by go_num, hide ⟨_, _, _, unhide FI⟩⟩
                case measure => simp [intOf]; omega
              · have hbe : (y == x) = false := by simpa using hyx
                have HN := hide (show ∀ t, t < m + 1 → ks[t]? ≠ some x from fun t ht => by
                  by_cases e : t = m
                  · subst e; rw [hy]; simpa using hyx
                  · exact unhide hne t (by omega))
                clear hy hne hyx
                go_wp2_with fail
                go_round
                case rel => exact ⟨rfl, m + 1, by omega, by go_num, unhide HN⟩
                case measure => simp [intOf]; omega
            · have hmn : m = ks.length := by omega
              subst hmn
              have hmem : x ∉ ks := fun hx => by
                obtain ⟨t, ht⟩ := List.getElem?_of_mem hx
                exact unhide hne t (List.getElem?_eq_some_iff.1 ht).1 ht
              obtain ⟨g7, cap7, w7, r7, mid7⟩ := (unhide M).appK hnl2
              obtain ⟨g8, cap8, w8, r8, mid8⟩ := mid7.appD hnl2
              have R7 := hide r7
              have R8 := hide r8
              have FI := hide (mid8.fin (unhide HXL) hmem (unhide G).plen (unhide G).dlen (unhide G).ok (unhide G).dok (unhide G).len (unhide G).nodup (by decide))
              clear r7 r8 mid7 mid8 hmem hne M G
              go_wp2_with (first | (at_builtin; refine wpList_append_run (t := 47) rfl _ _ rfl rfl rfl rfl (unhide R7) ?_) | (at_builtin; refine wpList_append_run (t := 48) rfl _ _ rfl rfl rfl rfl (unhide R8) ?_))
              go_roundw
              case rel => exact ⟨k + 1, by omega, by go_num, hide ⟨_, _, _, unhide FI⟩⟩
              case measure => simp [intOf]; omega
        · have htm : Int.tmod f 3 = 1 := by rw [Int.tmod_eq_emod_of_nonneg hf0]; exact h3
          have ST := hide (step1 (unhide G) (unhide HXL) (buck1 wr w.heap.size hwB x).1 (buck1 wr w.heap.size hwB x).2 hkl)
          go_wp2_with fail
          obtain ⟨w5, hrun, mid⟩ := unhide ST
          rw [hrun]
          clear hrun ST
          have M := hide mid
          clear mid
          go_wp2_with fail
          go_loop [12, 13] (fun f j => f = .int .i64 (-1) ∧ ∃ m : Nat, m ≤ ks.length ∧ j = .int .i64 m ∧ Hid (∀ t, t < m → ks[t]? ≠ some x)) (fun _ j => ks.length - (intOf j).toNat)
          case atStart => exact ⟨rfl, 0, Nat.zero_le _, rfl, hide (fun t ht => by omega)⟩
          case round =>
            obtain ⟨rfl, m, hm, rfl, hne⟩ := hrel
            by_cases hml : m < ks.length
            · obtain ⟨y, hy⟩ : ∃ y, ks[m]? = some y := ⟨_, List.getElem?_eq_getElem hml⟩
              have hml1 : (m : Int) < (ks.length : Int) := by omega
              obtain ⟨gk, ck', hform, hcy⟩ : ∃ g c, Value.slice ak ks.length ck = .slice (some ⟨g, 0, none⟩) ks.length c ∧ w5.cell? ⟨g, m, none⟩ = some (.string ⟨y.toArray⟩) := by
                obtain ⟨_, c, _⟩ := (unhide M).core
                obtain ⟨g, c', h1, _⟩ := c.kr.form (by omega)
                rw [h1] at c
                exact ⟨g, c', h1, row_at c.kr hy⟩
              injection hform with e1 e2 e3
              subst e1 e3
              clear e2
              by_cases hyx : y = x
              · subst hyx
                obtain ⟨gd, cd', hformd, ⟨ud, hcd⟩, hfd⟩ : ∃ g c, Value.slice ad ks.length cd = .slice (some ⟨g, 0, none⟩) ks.length c ∧ (∃ u, w5.cell? ⟨g, m, none⟩ = some u) ∧ w5.frozen? ⟨g, m, none⟩ = false := by
                  obtain ⟨_, c, _⟩ := (unhide M).core
                  obtain ⟨g, c', h1, _⟩ := c.dr.form (by omega)
                  rw [h1] at c
                  refine ⟨g, c', h1, ?_, c.dr.frozenAt m⟩
                  rw [c.dr.cellAt m (by omega)]
                  exact ⟨_, List.getElem?_eq_getElem (by rw [c.dr.1]; omega)⟩
                injection hformd with e1 e2 e3
                subst e1 e3
                clear e2
                have FI := hide ((unhide M).found (unhide G).plen (unhide G).dlen (unhide G).ok (unhide G).dok (unhide G).len (unhide G).nodup hy (by decide))
                clear hy hne M G
                go_wp2_with fail
                go_roundw
                case rel => exact ⟨k + 1, by omega, by go_num, hide ⟨_, _, _, unhide FI⟩⟩
                case measure => simp [intOf]; omega
              · have hbe : (y == x) = false := by simpa using hyx
                have HN := hide (show ∀ t, t < m + 1 → ks[t]? ≠ some x from fun t ht => by
                  by_cases e : t = m
                  · subst e; rw [hy]; simpa using hyx
                  · exact unhide hne t (by omega))
                clear hy hne hyx
                go_wp2_with fail
                go_round
                case rel => exact ⟨rfl, m + 1, by omega, by go_num, unhide HN⟩
                case measure => simp [intOf]; omega
            · have hmn : m = ks.length := by omega
              subst hmn
              have hmem : x ∉ ks := fun hx => by
                obtain ⟨t, ht⟩ := List.getElem?_of_mem hx
                exact unhide hne t (List.getElem?_eq_some_iff.1 ht).1 ht
              obtain ⟨g7, cap7, w7, r7, mid7⟩ := (unhide M).appK hnl2
              obtain ⟨g8, cap8, w8, r8, mid8⟩ := mid7.appD hnl2
              have R7 := hide r7
              have R8 := hide r8
              have FI := hide (mid8.fin (unhide HXL) hmem (unhide G).plen (unhide G).dlen (unhide G).ok (unhide G).dok (unhide G).len (unhide G).nodup (by decide))
              clear r7 r8 mid7 mid8 hmem hne M G
              go_wp2_with (first | (at_builtin; refine wpList_append_run (t := 47) rfl _ _ rfl rfl rfl rfl (unhide R7) ?_) | (at_builtin; refine wpList_append_run (t := 48) rfl _ _ rfl rfl rfl rfl (unhide R8) ?_))
              go_roundw
              case rel => exact ⟨k + 1, by omega, by go_num, hide ⟨_, _, _, unhide FI⟩⟩
              case measure => simp [intOf]; omega
        · have htm : Int.tmod f 3 = 2 := by rw [Int.tmod_eq_emod_of_nonneg hf0]; exact h3
          obtain ⟨w2, hrun2, hg2, hs2, hbk2⟩ := buck2 wr w.heap.size hwB
          have H2 := hide hrun2
          have ST := hide (step1 (unhide G) (unhide HXL) (hg2.trans (World.grownBy_alloc w2 (oB x (.map (some wr.heap.size))) none)) (hbk2 x) hkl)
          clear hrun2 hg2 hbk2
          go_wp2_with fail
          rw [unhide H2]
          clear H2
          go_wp2_with fail
          obtain ⟨w5, hrun, mid⟩ := unhide ST
          rw [hrun]
          clear hrun ST
          have M := hide mid
          clear mid
          go_wp2_with fail
          go_loop [12, 13] (fun f j => f = .int .i64 (-1) ∧ ∃ m : Nat, m ≤ ks.length ∧ j = .int .i64 m ∧ Hid (∀ t, t < m → ks[t]? ≠ some x)) (fun _ j => ks.length - (intOf j).toNat)
          case atStart => exact ⟨rfl, 0, Nat.zero_le _, rfl, hide (fun t ht => by omega)⟩
          case round =>
            obtain ⟨rfl, m, hm, rfl, hne⟩ := hrel
            by_cases hml : m < ks.length
            · obtain ⟨y, hy⟩ : ∃ y, ks[m]? = some y := ⟨_, List.getElem?_eq_getElem hml⟩
              have hml1 : (m : Int) < (ks.length : Int) := by omega
              obtain ⟨gk, ck', hform, hcy⟩ : ∃ g c, Value.slice ak ks.length ck = .slice (some ⟨g, 0, none⟩) ks.length c ∧ w5.cell? ⟨g, m, none⟩ = some (.string ⟨y.toArray⟩) := by
                obtain ⟨_, c, _⟩ := (unhide M).core
                obtain ⟨g, c', h1, _⟩ := c.kr.form (by omega)
                rw [h1] at c
                exact ⟨g, c', h1, row_at c.kr hy⟩
              injection hform with e1 e2 e3
              subst e1 e3
              clear e2
              by_cases hyx : y = x
              · subst hyx
                obtain ⟨gd, cd', hformd, ⟨ud, hcd⟩, hfd⟩ : ∃ g c, Value.slice ad ks.length cd = .slice (some ⟨g, 0, none⟩) ks.length c ∧ (∃ u, w5.cell? ⟨g, m, none⟩ = some u) ∧ w5.frozen? ⟨g, m, none⟩ = false := by
                  obtain ⟨_, c, _⟩ := (unhide M).core
                  obtain ⟨g, c', h1, _⟩ := c.dr.form (by omega)
                  rw [h1] at c
                  refine ⟨g, c', h1, ?_, c.dr.frozenAt m⟩
                  rw [c.dr.cellAt m (by omega)]
                  exact ⟨_, List.getElem?_eq_getElem (by rw [c.dr.1]; omega)⟩
                injection hformd with e1 e2 e3
                subst e1 e3
                clear e2
                have FI := hide ((unhide M).found (unhide G).plen (unhide G).dlen (unhide G).ok (unhide G).dok (unhide G).len (unhide G).nodup hy (by decide))
                clear hy hne M G
                go_wp2_with fail
                go_roundw
                case rel => exact ⟨k + 1, by omega, by go_num, hide ⟨_, _, _, unhide FI⟩⟩
                case measure => simp [intOf]; omega
              · have hbe : (y == x) = false := by simpa using hyx
                have HN := hide (show ∀ t, t < m + 1 → ks[t]? ≠ some x from fun t ht => by
                  by_cases e : t = m
                  · subst e; rw [hy]; simpa using hyx
                  · exact unhide hne t (by omega))
                clear hy hne hyx
                go_wp2_with fail
                go_round
                case rel => exact ⟨rfl, m + 1, by omega, by go_num, unhide HN⟩
                case measure => simp [intOf]; omega
            · have hmn : m = ks.length := by omega
              subst hmn
              have hmem : x ∉ ks := fun hx => by
                obtain ⟨t, ht⟩ := List.getElem?_of_mem hx
                exact unhide hne t (List.getElem?_eq_some_iff.1 ht).1 ht
              obtain ⟨g7, cap7, w7, r7, mid7⟩ := (unhide M).appK hnl2
              obtain ⟨g8, cap8, w8, r8, mid8⟩ := mid7.appD hnl2
              have R7 := hide r7
              have R8 := hide r8
              have FI := hide (mid8.fin (unhide HXL) hmem (unhide G).plen (unhide G).dlen (unhide G).ok (unhide G).dok (unhide G).len (unhide G).nodup (by decide))
              clear r7 r8 mid7 mid8 hmem hne M G
              go_wp2_with (first | (at_builtin; refine wpList_append_run (t := 47) rfl _ _ rfl rfl rfl rfl (unhide R7) ?_) | (at_builtin; refine wpList_append_run (t := 48) rfl _ _ rfl rfl rfl rfl (unhide R8) ?_))
              go_roundw
              case rel => exact ⟨k + 1, by omega, by go_num, hide ⟨_, _, _, unhide FI⟩⟩
              case measure => simp [intOf]; omega
      · have hkf1 : (lb : Int) ≤ (k : Int) := by omega
        clear hbel HB
        have ST := hide (step1 (unhide G) (unhide HXL) (buck0 wr w.heap.size x 0 (by decide)).1 (buck0 wr w.heap.size x 0 (by decide)).2 hkl)
        go_wp2_with fail
        obtain ⟨w5, hrun, mid⟩ := unhide ST
        rw [hrun]
        clear hrun ST
        have M := hide mid
        clear mid
        go_wp2_with fail
        go_loop [12, 13] (fun f j => f = .int .i64 (-1) ∧ ∃ m : Nat, m ≤ ks.length ∧ j = .int .i64 m ∧ Hid (∀ t, t < m → ks[t]? ≠ some x)) (fun _ j => ks.length - (intOf j).toNat)
        case atStart => exact ⟨rfl, 0, Nat.zero_le _, rfl, hide (fun t ht => by omega)⟩
        case round =>
          obtain ⟨rfl, m, hm, rfl, hne⟩ := hrel
          by_cases hml : m < ks.length
          · obtain ⟨y, hy⟩ : ∃ y, ks[m]? = some y := ⟨_, List.getElem?_eq_getElem hml⟩
            have hml1 : (m : Int) < (ks.length : Int) := by omega
            obtain ⟨gk, ck', hform, hcy⟩ : ∃ g c, Value.slice ak ks.length ck = .slice (some ⟨g, 0, none⟩) ks.length c ∧ w5.cell? ⟨g, m, none⟩ = some (.string ⟨y.toArray⟩) := by
              obtain ⟨_, c, _⟩ := (unhide M).core
              obtain ⟨g, c', h1, _⟩ := c.kr.form (by omega)
              rw [h1] at c
              exact ⟨g, c', h1, row_at c.kr hy⟩
            injection hform with e1 e2 e3
            subst e1 e3
            clear e2
            by_cases hyx : y = x
            · subst hyx
              obtain ⟨gd, cd', hformd, ⟨ud, hcd⟩, hfd⟩ : ∃ g c, Value.slice ad ks.length cd = .slice (some ⟨g, 0, none⟩) ks.length c ∧ (∃ u, w5.cell? ⟨g, m, none⟩ = some u) ∧ w5.frozen? ⟨g, m, none⟩ = false := by
                obtain ⟨_, c, _⟩ := (unhide M).core
                obtain ⟨g, c', h1, _⟩ := c.dr.form (by omega)
                rw [h1] at c
                refine ⟨g, c', h1, ?_, c.dr.frozenAt m⟩
                rw [c.dr.cellAt m (by omega)]
                exact ⟨_, List.getElem?_eq_getElem (by rw [c.dr.1]; omega)⟩
              injection hformd with e1 e2 e3
              subst e1 e3
              clear e2
              have FI := hide ((unhide M).found (unhide G).plen (unhide G).dlen (unhide G).ok (unhide G).dok (unhide G).len (unhide G).nodup hy (by decide))
              clear hy hne M G
              go_wp2_with fail
              go_roundw
              case rel => exact ⟨k + 1, by omega, by go_num, hide ⟨_, _, _, unhide FI⟩⟩
              case measure => simp [intOf]; omega
            · have hbe : (y == x) = false := by simpa using hyx
              have HN := hide (show ∀ t, t < m + 1 → ks[t]? ≠ some x from fun t ht => by
                by_cases e : t = m
                · subst e; rw [hy]; simpa using hyx
                · exact unhide hne t (by omega))
              clear hy hne hyx
              go_wp2_with fail
              go_round
              case rel => exact ⟨rfl, m + 1, by omega, by go_num, unhide HN⟩
              case measure => simp [intOf]; omega
          · have hmn : m = ks.length := by omega
            subst hmn
            have hmem : x ∉ ks := fun hx => by
              obtain ⟨t, ht⟩ := List.getElem?_of_mem hx
              exact unhide hne t (List.getElem?_eq_some_iff.1 ht).1 ht
            obtain ⟨g7, cap7, w7, r7, mid7⟩ := (unhide M).appK hnl2
            obtain ⟨g8, cap8, w8, r8, mid8⟩ := mid7.appD hnl2
            have R7 := hide r7
            have R8 := hide r8
            have FI := hide (mid8.fin (unhide HXL) hmem (unhide G).plen (unhide G).dlen (unhide G).ok (unhide G).dok (unhide G).len (unhide G).nodup (by decide))
            clear r7 r8 mid7 mid8 hmem hne M G
            go_wp2_with (first | (at_builtin; refine wpList_append_run (t := 47) rfl _ _ rfl rfl rfl rfl (unhide R7) ?_) | (at_builtin; refine wpList_append_run (t := 48) rfl _ _ rfl rfl rfl rfl (unhide R8) ?_))
            go_roundw
            case rel => exact ⟨k + 1, by omega, by go_num, hide ⟨_, _, _, unhide FI⟩⟩
            case measure => simp [intOf]; omega
    · have hkl : k = la := by omega
      subst hkl
      have hnl := hinv.len
      have hnl2 : ks.length ≤ 1048576 := by omega
      have hnl1 : (ks.length : Int) ≤ 4096 := by omega
      obtain ⟨ak, ck, rfl⟩ : ∃ a c, u5 = .slice a ks.length c := by obtain ⟨_, c, _⟩ := hinv.core; exact row_shape c.kr
      obtain ⟨ad, cd, rfl⟩ : ∃ a c, u6 = .slice a ks.length c := by obtain ⟨_, c, _⟩ := hinv.core; exact row_shape c.dr
      obtain ⟨w6, hmk, hfil, hg6⟩ := made52 wr ks.length hnl2
      have hwr : w.heap.size ≤ wr.heap.size := by obtain ⟨_, c, _⟩ := hinv.core; have := c.size; omega
      have HMK := hide hmk
      have G6 := hide (And.intro (hinv.none hg6) (hfil ps))
      clear hmk hfil hg6 hinv HA HB hlt hk
      generalize wr.heap.size = gp at *
      go_wp2_with fail
      rw [unhide HMK]
      clear HMK
      go_wp2_with fail
      go_loopw [15] (fun j wz => ∃ m : Nat, m ≤ ks.length ∧ j = .int .i64 m ∧ Hid (Inv w w.heap.size (.slice ak ks.length ck) (.slice ad ks.length cd) ks ds ps k wz ∧ Filled wz gp gp ks.length m ps)) (fun j _ => ks.length - (intOf j).toNat)
      case atStart => exact ⟨0, Nat.zero_le _, rfl, G6⟩
      case round => as_aux_lemma =>
        clear G6
        obtain ⟨m, hm, rfl, hr⟩ := hrel
        obtain ⟨hinv, hfil⟩ := unhide hr
        by_cases hml : m < ks.length
        · have hml1 : (m : Int) < (ks.length : Int) := by omega
          obtain ⟨x, hx⟩ : ∃ x, ks[m]? = some x := ⟨_, List.getElem?_eq_getElem hml⟩
          obtain ⟨p, hp⟩ : ∃ p, ps[m]? = some p := ⟨_, List.getElem?_eq_getElem (by have := hinv.plen; omega)⟩
          obtain ⟨gk, ck', hform, hcx⟩ : ∃ g c, Value.slice ak ks.length ck = .slice (some ⟨g, 0, none⟩) ks.length c ∧ wr.cell? ⟨g, m, none⟩ = some (.string ⟨x.toArray⟩) := by
            obtain ⟨_, c, _⟩ := hinv.core
            obtain ⟨g, c', h1, _⟩ := c.kr.form (by omega)
            rw [h1] at c
            exact ⟨g, c', h1, row_at c.kr hx⟩
          injection hform with e1 e2 e3
          subst e1 e3
          clear e2
          have hlk : (Instr.lookup 49 (.map (some w.heap.size)) (.string ⟨x.toArray⟩) false).run Yba.prog wr = .ok (Pt p) wr := by
            obtain ⟨D, c, vm⟩ := hinv.core
            exact at_name c.m vm hx hp (hinv.ok x (List.mem_of_getElem? hx))
          obtain ⟨⟨uc, hcc⟩, hfz⟩ := hfil.cell hml
          have FI := hide (And.intro (by
            obtain ⟨zs, r, _⟩ := hfil
            exact hinv.other r hwr (by decide) (by decide) (by decide) (grown_setCell wr gp m (Pt p))) (hfil.step hml hp))
          have LK := hide hlk
          clear hr hinv hfil hx hp hlk
          go_wp2_with fail
          rw [unhide LK]
          clear LK
          go_wp2_with fail
          go_roundw
          case rel => exact ⟨m + 1, by omega, by go_num, FI⟩
          case measure => simp [intOf]; omega
        · have hmn : m = ks.length := by omega
          subst hmn
          have hgs := World.grownBy_alloc wr (oS 0 w.heap.size) none
          have hI := hinv.none hgs
          have hP := row_none (hfil.all hinv.plen) hgs
          have hst : (wr.alloc (oS 0 w.heap.size)).heap[wr.heap.size]? = some (oS 0 w.heap.size) := (MapKept.heap_alloc wr _).1
          obtain ⟨D, c, vm⟩ := hI.core
          have BU := hide (buckets_any wr.heap.size w.heap.size k _ hst D ks ds ps c.m vm hI.plen hI.dlen hI.ok c.buck hI.nodup hnl2)
          have BE := hide c.below
          have FX := hide (Facts.mk (gv := .slice none 0 0) (ss := []) ⟨_, D, c.m, vm⟩ (row_base c.kr (Nat.zero_le _)) (row_base c.dr (Nat.zero_le _)) (row_base hP (Nat.zero_le _)) (World.ownsRow_nil _ _ _ _) hst c.buck hI.plen hI.dlen hI.ok)
          clear hgs hI hP hst c vm hinv hfil hr hml hm
          go_wp2_with fail
          refine (unhide BU).mono ?_
          rintro e w4 ⟨gv, ss, rfl, hperm, hpw, hnil, hrow, hg4⟩
          generalize wr.alloc (oS 0 w.heap.size) = w3 at *
          generalize wr.heap.size = sb at *
          have F4 := hide ((unhide FX).got hg4 hrow)
          have B4 := hide ((unhide BE).grown hg4 (unhide BE).size (by simp))
          have SS := hide (And.intro hperm (And.intro hpw hnil))
          obtain ⟨ag, cg, rfl⟩ := row_shape hrow
          clear hperm hpw hnil hrow hg4 BU FX BE
          go_wp2_with fail
          go_loopw [18, 19] (fun v j wz => ∃ m : Nat, m ≤ ks.length ∧ j = .int .i64 m ∧ Hid (w4.grownBy wz none ∧ wz.ownsRow w4.heap.size 9 1 v (sel (ks.take m) (ds.take m)).length (scells (sel (ks.take m) (ds.take m))))) (fun _ j _ => ks.length - (intOf j).toNat)
          case atStart => exact ⟨0, Nat.zero_le _, rfl, hide ⟨World.grownBy.refl _ _, by simpa [sel, scells] using World.ownsRow_nil _ _ _ _⟩⟩
          case round => as_aux_lemma =>
            obtain ⟨m, hm, rfl, hr⟩ := hrel
            obtain ⟨hgr, hrow⟩ := unhide hr
            by_cases hml : m < ks.length
            · have hml1 : (m : Int) < (ks.length : Int) := by omega
              have F5 := (unhide F4).later hgr
              obtain ⟨x, hx⟩ : ∃ x, ks[m]? = some x := ⟨_, List.getElem?_eq_getElem hml⟩
              obtain ⟨d, hd⟩ : ∃ d, ds[m]? = some d := ⟨_, List.getElem?_eq_getElem (by have := F5.dlen; omega)⟩
              obtain ⟨gk, rfl, hck⟩ := srow_form F5.kr hx
              obtain ⟨gd, rfl, hcd⟩ := drow_form F5.dr hd
              have hsc := sel_succ ks ds m x d hx hd
              have hsl : (sel (ks.take m) (ds.take m)).length ≤ 1048576 := by
                have := sel_len (ks.take m) (ds.take m)
                have : (ks.take m).length ≤ ks.length := by simp; omega
                omega
              by_cases hd2 : d = 2
              · subst hd2
                rw [if_pos rfl] at hsc
                obtain ⟨g, cap, w5, hrun, hg5, hrow5⟩ := want_app hrow hgr hsl x
                rw [← hsc] at hrow5
                obtain ⟨av, cv, rfl⟩ := row_shape hrow
                have R := hide hrun
                have FI := hide (And.intro hg5 hrow5)
                clear hr hgr hrow F5 hx hd hsc hrun hg5 hrow5 hsl
                generalize (sel (ks.take m) (ds.take m)).length = nw at *
                go_wp2_with (at_builtin; refine wpList_append_run (t := 47) rfl _ _ rfl rfl rfl rfl (unhide R) ?_)
                go_roundw
                case rel => exact ⟨m + 1, by omega, by go_num, FI⟩
                case measure => simp [intOf]; omega
              · have hdb : (d == 2) = false := by simpa using hd2
                rw [if_neg hd2, List.append_nil] at hsc
                rw [← hsc] at hrow
                have FI := hide (And.intro hgr hrow)
                clear hr hgr hrow F5 hx hd hsc hsl
                go_wp2_with fail
                go_roundw
                case rel => exact ⟨m + 1, by omega, by go_num, FI⟩
                case measure => simp [intOf]; omega
            · have hmn : m = ks.length := by omega
              subst hmn
              have e1 : ks.take ks.length = ks := List.take_length
              have e2 : ds.take ks.length = ds := List.take_of_length_le (by have := (unhide F4).dlen; omega)
              rw [e1, e2] at hrow
              have hsl : (sel ks ds).length ≤ 1048576 := by have := sel_len ks ds; omega
              have hsl1 : ((sel ks ds).length : Int) ≤ 4096 := by have := sel_len ks ds; omega
              have SO := hide (sorted_any _ (sel ks ds) w4.heap.size (sel ks ds).length wr.heap.size wr hrow hsl rfl rfl)
              have HG := hide hgr
              obtain ⟨av, cv, rfl⟩ := row_shape hrow
              clear hr hrow hgr e1 e2 hml hm
              go_wp2_with fail
              refine (unhide SO).mono ?_
              rintro e wf ⟨ts, rfl, hperm, hpw, hrowt, hgf⟩
              have hst : ss = ts := same_sorted (unhide SS).1 hperm (unhide SS).2.1 hpw
              have hln : ss.length = (sel ks ds).length := (unhide SS).1.length_eq
              subst hst
              have FF := hide ((unhide F4).later ((unhide HG).trans hgf))
              have BF := hide ((unhide B4).grown ((unhide HG).trans hgf) (unhide B4).size (by simp))
              have HW := hide hrowt
              have hneq := neq47
              have hssl : (ss.length : Int) ≤ 4096 := by omega
              rw [← hln] at *
              generalize wr.heap.size = gw at *
              by_cases h0 : ss.length = 0
              · have hnil := (unhide SS).2.2 (List.eq_nil_of_length_eq_zero h0)
                injection hnil with e1 e2 e3
                subst e1
                have h00 : (ss.length : Int) = 0 := by omega
                clear SO hperm hpw hrowt hgf HG F4 B4 SS HW
                have hmp := (unhide FF).maplen
                obtain ⟨q0, q2, q3, q4, q6, q7, qz⟩ := store_cells (unhide FF).st
                clear q0 q2 q3 q4 qz
                go_wp2_with fail
                clear hmp q6 q7
                go_loopw [21] (fun i wz => ∃ m : Nat, m ≤ ks.length ∧ i = .int .i64 m ∧ Hid (wf.grownBy wz none)) (fun i _ => ks.length - (intOf i).toNat)
                case atStart => exact ⟨0, Nat.zero_le _, rfl, hide (World.grownBy.refl _ _)⟩
                case round => as_aux_lemma =>
                  obtain ⟨m, hm, rfl, hgr⟩ := hrel
                  by_cases hml : m < ks.length
                  · have hml1 : (m : Int) < (ks.length : Int) := by omega
                    have hml0 : (0 : Int) ≤ (m : Int) := by omega
                    have F5 := (unhide FF).later (unhide hgr)
                    obtain ⟨x, hx⟩ : ∃ x, ks[m]? = some x := ⟨_, List.getElem?_eq_getElem hml⟩
                    obtain ⟨p, hp⟩ : ∃ p, ps[m]? = some p := ⟨_, List.getElem?_eq_getElem (by have := F5.plen; omega)⟩
                    obtain ⟨d, hd⟩ : ∃ d, ds[m]? = some d := ⟨_, List.getElem?_eq_getElem (by have := F5.dlen; omega)⟩
                    obtain ⟨gk, rfl, hck⟩ := srow_form F5.kr hx
                    obtain ⟨gd, rfl, hcd⟩ := drow_form F5.dr hd
                    have hcp := prow_at F5.pr hp
                    obtain ⟨sv, hb, hser⟩ := F5.buck m x d p hx hd hp
                    have b0 : wr.cell? ⟨p, 0, none⟩ = some (.string ⟨x.toArray⟩) := by simp [World.cell?, hb]
                    have b9 : wr.cell? ⟨p, 9, none⟩ = some sv := by simp [World.cell?, hb]
                    obtain ⟨q0, q2, q3, q4, q6, q7, qz⟩ := store_cells F5.st
                    have hlk := fun n => (F5.later (grown_drewN wr n)).at hx hp
                    have hne := neq52
                    have hsr := fun n ty => ser_len (hser.keep (Stands.of_none (grown_drewN wr n))) ty
                    clear hb hser F5 hx hp hd q0 q2 q3 q4 q7 qz
                    by_cases hd2 : d = 2
                    · subst hd2
                      simp only [held, if_pos] at hsr
                      go_wp2_with fail
                      go_quiet (fail)
                      go_wp2_with fail
                      go_quiet (fail)
                      go_wp2_with fail
                      exact ⟨⟨m + 1, by omega, by go_num, hide ((unhide hgr).trans (grown_drewN _ _))⟩, by simp [intOf]; omega⟩
                    · have hdb : (d == 2) = false := by simpa using hd2
                      simp only [held, if_neg hd2] at hsr
                      go_wp2_with fail
                      go_quiet (fail)
                      go_wp2_with fail
                      go_quiet (fail)
                      go_wp2_with fail
                      exact ⟨⟨m + 1, by omega, by go_num, hide ((unhide hgr).trans (grown_drewN _ _))⟩, by simp [intOf]; omega⟩
                  · have hmn : m = ks.length := by omega
                    subst hmn
                    go_wp2_with fail
                    go_ret
                    exact ⟨rfl, (unhide BF).grown (unhide hgr) (unhide BF).size (by simp)⟩
              · have h00 : ¬ (ss.length : Int) = 0 := by omega
                clear SO hperm hpw hrowt hgf HG F4 B4 SS
                go_wp2_with fail
                go_loopw [20] (fun i wz => ∃ m : Nat, m ≤ ss.length ∧ i = .int .i64 m ∧ Hid (wf.grownBy wz none)) (fun i _ => ss.length - (intOf i).toNat)
                case atStart => exact ⟨0, Nat.zero_le _, rfl, hide (World.grownBy.refl _ _)⟩
                case round => as_aux_lemma =>
                  obtain ⟨m, hm, rfl, hgr⟩ := hrel
                  by_cases hml : m < ss.length
                  · have hml1 : (m : Int) < (ss.length : Int) := by omega
                    have hml0 : (0 : Int) ≤ (m : Int) := by omega
                    obtain ⟨x, hx⟩ : ∃ x, ss[m]? = some x := ⟨_, List.getElem?_eq_getElem hml⟩
                    obtain ⟨gg, rfl, hcg⟩ := srow_form ((unhide FF).later (unhide hgr)).gr hx
                    have hcw := row_at (row_none (unhide HW) (unhide hgr)) hx
                    clear hx
                    go_wp2_with fail
                    go_quiet (fail)
                    go_wp2_with fail
                    exact ⟨⟨m + 1, by omega, by go_num, hide ((unhide hgr).trans (grown_drewN _ _))⟩, by simp [intOf]; omega⟩
                  · have hmn : m = ss.length := by omega
                    subst hmn
                    have FF2 := hide ((unhide FF).later (unhide hgr))
                    have BF2 := hide ((unhide BF).grown (unhide hgr) (unhide BF).size (by simp))
                    clear FF BF hgr HW hml hm
                    have hmp := (unhide FF2).maplen
                    obtain ⟨q0, q2, q3, q4, q6, q7, qz⟩ := store_cells (unhide FF2).st
                    clear q0 q2 q3 q4 qz
                    go_wp2_with fail
                    clear hmp q6 q7
                    go_loopw [21] (fun i wz => ∃ m : Nat, m ≤ ks.length ∧ i = .int .i64 m ∧ Hid (wr.grownBy wz none)) (fun i _ => ks.length - (intOf i).toNat)
                    case atStart => exact ⟨0, Nat.zero_le _, rfl, hide (World.grownBy.refl _ _)⟩
                    case round => as_aux_lemma =>
                      obtain ⟨m, hm, rfl, hgr⟩ := hrel
                      by_cases hml : m < ks.length
                      · have hml1 : (m : Int) < (ks.length : Int) := by omega
                        have hml0 : (0 : Int) ≤ (m : Int) := by omega
                        have F5 := (unhide FF2).later (unhide hgr)
                        obtain ⟨x, hx⟩ : ∃ x, ks[m]? = some x := ⟨_, List.getElem?_eq_getElem hml⟩
                        obtain ⟨p, hp⟩ : ∃ p, ps[m]? = some p := ⟨_, List.getElem?_eq_getElem (by have := F5.plen; omega)⟩
                        obtain ⟨d, hd⟩ : ∃ d, ds[m]? = some d := ⟨_, List.getElem?_eq_getElem (by have := F5.dlen; omega)⟩
                        obtain ⟨gk, rfl, hck⟩ := srow_form F5.kr hx
                        obtain ⟨gd, rfl, hcd⟩ := drow_form F5.dr hd
                        have hcp := prow_at F5.pr hp
                        obtain ⟨sv, hb, hser⟩ := F5.buck m x d p hx hd hp
                        have b0 : wr.cell? ⟨p, 0, none⟩ = some (.string ⟨x.toArray⟩) := by simp [World.cell?, hb]
                        have b9 : wr.cell? ⟨p, 9, none⟩ = some sv := by simp [World.cell?, hb]
                        obtain ⟨q0, q2, q3, q4, q6, q7, qz⟩ := store_cells F5.st
                        have hlk := fun n => (F5.later (grown_drewN wr n)).at hx hp
                        have hne := neq52
                        have hsr := fun n ty => ser_len (hser.keep (Stands.of_none (grown_drewN wr n))) ty
                        clear hb hser F5 hx hp hd q0 q2 q3 q4 q7 qz
                        by_cases hd2 : d = 2
                        · subst hd2
                          simp only [held, if_pos] at hsr
                          go_wp2_with fail
                          go_quiet (fail)
                          go_wp2_with fail
                          go_quiet (fail)
                          go_wp2_with fail
                          exact ⟨⟨m + 1, by omega, by go_num, hide ((unhide hgr).trans (grown_drewN _ _))⟩, by simp [intOf]; omega⟩
                        · have hdb : (d == 2) = false := by simpa using hd2
                          simp only [held, if_neg hd2] at hsr
                          go_wp2_with fail
                          go_quiet (fail)
                          go_wp2_with fail
                          go_quiet (fail)
                          go_wp2_with fail
                          exact ⟨⟨m + 1, by omega, by go_num, hide ((unhide hgr).trans (grown_drewN _ _))⟩, by simp [intOf]; omega⟩
                      · have hmn : m = ks.length := by omega
                        subst hmn
                        go_wp2_with fail
                        go_ret
                        exact ⟨rfl, (unhide BF2).grown (unhide hgr) (unhide BF2).size (by simp)⟩
end Go.Proofs.Ybulkecbe.B
