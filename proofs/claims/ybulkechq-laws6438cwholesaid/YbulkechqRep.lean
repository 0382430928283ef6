import Derived.Test.YbulkechqFloat
import Derived.Laws.FloatArith
namespace Go.Proofs.Ybulkechq
open Ieee

theorem log2_shift (n c : Nat) (hn : n ≠ 0) : (n * 2 ^ c).log2 = n.log2 + c := by
  have h1 := Nat.log2_self_le hn
  have h2 := Nat.lt_log2_self (n := n)
  have hp := pow_pos2 c
  have hne : n * 2 ^ c ≠ 0 := Nat.ne_of_gt (Nat.mul_pos (by omega) hp)
  rw [Nat.log2_eq_iff hne]
  constructor
  · rw [Nat.pow_add]; exact Nat.mul_le_mul_right _ h1
  · rw [show n.log2 + c + 1 = (n.log2 + 1) + c by omega, Nat.pow_add]
    exact Nat.mul_lt_mul_of_pos_right h2 hp

theorem cut_scale (neg : Bool) (n drop c : Nat) (hn : n ≠ 0) : Toward.even.cut neg (n * 2 ^ c) (drop + c) = Toward.even.cut neg n drop := by
  unfold Toward.cut
  rw [log2_shift n c hn]
  have e : min (drop + c) (n.log2 + c + 2) = min drop (n.log2 + 2) + c := by omega
  simp only [e, Nat.shiftLeft_eq, Nat.one_mul]
  generalize min drop (n.log2 + 2) = g
  have hp := pow_pos2 c
  have e1 : n * 2 ^ c / 2 ^ (g + c) = n / 2 ^ g := by
    rw [Nat.pow_add]; exact Nat.mul_div_mul_right _ _ hp
  have e2 : n * 2 ^ c % 2 ^ (g + c) = n % 2 ^ g * 2 ^ c := by
    rw [Nat.pow_add]; exact Nat.mul_mod_mul_right _ _ _
  rw [e1, e2, Nat.pow_add]
  have e3 : decide (2 ^ g * 2 ^ c < 2 * (n % 2 ^ g * 2 ^ c)) = decide (2 ^ g < 2 * (n % 2 ^ g)) := by
    rw [← Nat.mul_assoc]
    exact decide_eq_decide.2 (Nat.mul_lt_mul_right hp)
  have e4 : (2 ^ g * 2 ^ c == 2 * (n % 2 ^ g * 2 ^ c)) = (2 ^ g == 2 * (n % 2 ^ g)) := by
    rw [← Nat.mul_assoc, Bool.eq_iff_iff, beq_iff_eq, beq_iff_eq]
    exact ⟨fun h => Nat.eq_of_mul_eq_mul_right hp h, fun h => congrArg (· * 2 ^ c) h⟩
  rw [e3, e4]

theorem near_val_le (s : Bool) (n : Nat) (p : Int) (c : Nat) : double.nearest s (n * 2 ^ c) p = double.nearest s n (p + c) := by
  by_cases hn : n = 0
  · subst hn; simp [Format.nearest]
  have hp := pow_pos2 c
  have hne : n * 2 ^ c ≠ 0 := Nat.ne_of_gt (Nat.mul_pos (by omega) hp)
  unfold Format.nearest
  rw [if_neg hn, if_neg hne, log2_shift n c hn]
  simp only [double_frac, double_least, double_binade, double_inf]
  have el : max (p + ((n.log2 + c : Nat) : Int) - ((52 : Nat) : Int)) (-1074) = max (p + (c : Int) + (n.log2 : Int) - ((52 : Nat) : Int)) (-1074) := by omega
  rw [el]
  generalize max (p + (c : Int) + (n.log2 : Int) - ((52 : Nat) : Int)) (-1074) = last
  have ec : Toward.even.cut s ((n * 2 ^ c) <<< (p - last).toNat) (last - p).toNat = Toward.even.cut s (n <<< (p + c - last).toNat) (last - (p + c)).toNat := by
    rw [Nat.shiftLeft_eq, Nat.shiftLeft_eq]
    by_cases h1 : last ≤ p
    · rw [show (last - p).toNat = 0 by omega, show (last - (p + c)).toNat = 0 by omega, cut_zero, cut_zero, Nat.mul_assoc, ← Nat.pow_add]
      congr 2
      omega
    · by_cases h2 : last ≤ p + c
      · rw [show (p - last).toNat = 0 by omega, show (last - (p + c)).toNat = 0 by omega, cut_zero, Nat.pow_zero, Nat.mul_one]
        refine cut_exact _ _ _ _ _ ?_ (Nat.mul_pos (by omega) (pow_pos2 _))
        rw [Nat.mul_assoc, ← Nat.pow_add]
        congr 2
        omega
      · rw [show (p - last).toNat = 0 by omega, show (p + c - last).toNat = 0 by omega, Nat.pow_zero, Nat.mul_one, Nat.mul_one, show (last - p).toNat = (last - (p + c)).toNat + c by omega]
        exact cut_scale _ _ _ _ hn
  rw [ec]

/-- The nearest word hangs on the value alone. -/
theorem near_val (s : Bool) (n m : Nat) (p q : Int) (L : Int) (hp : L ≤ p) (hq : L ≤ q) (h : n * 2 ^ (p - L).toNat = m * 2 ^ (q - L).toNat) : double.nearest s n p = double.nearest s m q := by
  by_cases hpq : p ≤ q
  · have e : n = m * 2 ^ (q - p).toNat := by
      rw [show (q - L).toNat = (q - p).toNat + (p - L).toNat by omega, Nat.pow_add, ← Nat.mul_assoc] at h
      exact Nat.eq_of_mul_eq_mul_right (pow_pos2 _) h
    rw [e, near_val_le]
    congr 1
    omega
  · have e : m = n * 2 ^ (p - q).toNat := by
      rw [show (p - L).toNat = (p - q).toNat + (q - L).toNat by omega, Nat.pow_add, ← Nat.mul_assoc] at h
      exact (Nat.eq_of_mul_eq_mul_right (pow_pos2 _) h).symm
    rw [e, near_val_le]
    congr 1
    omega

/-! ### Values -/
def Same (k : Nat) (j : Int) (N : Nat) (g : Int) : Prop := ∀ L : Int, L ≤ j → L ≤ g → k * 2 ^ (j - L).toNat = N * 2 ^ (g - L).toNat

theorem same_of {k N : Nat} {j g : Int} (L : Int) (h1 : L ≤ j) (h2 : L ≤ g) (h : k * 2 ^ (j - L).toNat = N * 2 ^ (g - L).toNat) : Same k j N g := by
  intro L' h1' h2'
  by_cases hl : L' ≤ L
  · rw [show (j - L').toNat = (j - L).toNat + (L - L').toNat by omega, show (g - L').toNat = (g - L).toNat + (L - L').toNat by omega, Nat.pow_add, Nat.pow_add, ← Nat.mul_assoc, ← Nat.mul_assoc, h]
  · rw [show (j - L).toNat = (j - L').toNat + (L' - L).toNat by omega, show (g - L).toNat = (g - L').toNat + (L' - L).toNat by omega, Nat.pow_add, Nat.pow_add, ← Nat.mul_assoc, ← Nat.mul_assoc] at h
    exact Nat.eq_of_mul_eq_mul_right (pow_pos2 _) h
theorem Same.refl (k : Nat) (j : Int) : Same k j k j := fun _ _ _ => rfl
theorem Same.symm {k N : Nat} {j g : Int} (h : Same k j N g) : Same N g k j := fun L h1 h2 => (h L h2 h1).symm
theorem Same.trans {k N M : Nat} {j g i : Int} (h : Same k j N g) (h' : Same N g M i) : Same k j M i :=
  same_of (min (min j g) i) (by omega) (by omega) ((h _ (by omega) (by omega)).trans (h' _ (by omega) (by omega)))
theorem same_shift (N c : Nat) (g : Int) : Same N g (N * 2 ^ c) (g - c) := by
  refine same_of (g - c) (by omega) (by omega) ?_
  rw [show (g - (g - (c : Int))).toNat = c by omega, show (g - (c : Int) - (g - c)).toNat = 0 by omega]
  simp
theorem near_same {s : Bool} {n m : Nat} {p q : Int} (h : Same n p m q) : double.nearest s n p = double.nearest s m q :=
  near_val s n m p q (min p q) (by omega) (by omega) (h _ (by omega) (by omega))

/-- A whole number with its sign. -/
def sg (s : Bool) (N : Nat) : Int := if s then -(N : Int) else N
theorem vz_int (L : Int) (s : Bool) (m : Nat) (i : Int) (N : Nat) (h : m * 2 ^ (i - L).toNat = N) : vz L s m i = sg s N := by
  rw [vz_def, h]; unfold sg; cases s <;> simp
theorem sg_mul (s : Bool) (N c : Nat) : sg s (N * c) = sg s N * c := by
  unfold sg; cases s <;> simp [Int.neg_mul]
theorem sg_neg (s : Bool) (N : Nat) : sg (!s) N = - sg s N := by
  unfold sg; cases s <;> simp

/-- The word p stands for (-1)^s * N * 2^g. -/
def Rep (p : Nat) (s : Bool) (N : Nat) (g : Int) : Prop := p < 2 ^ 64 ∧ ∃ k j, double.read p = .number s k j ∧ Same k j N g

theorem Rep.lt {p : Nat} {s : Bool} {N : Nat} {g : Int} (h : Rep p s N g) : p < 2 ^ 64 := h.1
theorem Rep.same {p : Nat} {s : Bool} {N M : Nat} {g i : Int} (h : Rep p s N g) (h' : Same N g M i) : Rep p s M i := by
  obtain ⟨h1, k, j, h2, h3⟩ := h
  exact ⟨h1, k, j, h2, h3.trans h'⟩

theorem Rep.mul {p q : Nat} {s t : Bool} {N M : Nat} {g h : Int} (hp : Rep p s N g) (hq : Rep q t M h) : double.mul p q = some (double.nearest (s ^^ t) (N * M) (g + h)) := by
  obtain ⟨_, k, j, h2, h3⟩ := hp
  obtain ⟨_, k', j', h2', h3'⟩ := hq
  unfold Format.mul
  rw [h2, h2']
  show some (double.nearest (s ^^ t) (k * k') (j + j')) = _
  congr 1
  refine near_same (same_of (min j g + min j' h) (by omega) (by omega) ?_)
  have e1 := h3 (min j g) (by omega) (by omega)
  have e2 := h3' (min j' h) (by omega) (by omega)
  rw [show (j + j' - (min j g + min j' h)).toNat = (j - min j g).toNat + (j' - min j' h).toNat by omega, show (g + h - (min j g + min j' h)).toNat = (g - min j g).toNat + (h - min j' h).toNat by omega, Nat.pow_add, Nat.pow_add]
  have c1 : ∀ a b c d : Nat, a * b * (c * d) = (a * c) * (b * d) := fun a b c d => by
    simp only [Nat.mul_assoc, Nat.mul_left_comm]
  rw [c1 k k', c1 N M, e1, e2]

theorem sum_rep {s t : Bool} {k k' N M : Nat} {j j' g : Int} (h : Same k j N g) (h' : Same k' j' M g) :
    ∃ m b, Datum.sum (.number s k j) (.number t k' j') = some (.number (if sg s N + sg t M = 0 then s && t else decide (sg s N + sg t M < 0)) m b) ∧ Same m b (sg s N + sg t M).natAbs g := by
  obtain ⟨tot, h1, h2, _⟩ := sum_vz (min (min j j') g) s t k k' j j' (by omega) (by omega)
  rw [vz_int _ _ _ _ _ (h _ (by omega) (by omega)), vz_int _ _ _ _ _ (h' _ (by omega) (by omega)), sg_mul, sg_mul, ← Int.add_mul] at h2
  have hx := pow_pos2 (min j j' - min (min j j') g).toNat
  have hy := pow_pos2 (g - min (min j j') g).toNat
  have hz : tot = 0 ↔ sg s N + sg t M = 0 := by
    constructor
    · intro h; subst h
      rw [Int.zero_mul] at h2
      rcases Int.mul_eq_zero.1 h2.symm with h | h
      · exact h
      · omega
    · intro h; rw [h, Int.zero_mul] at h2
      rcases Int.mul_eq_zero.1 h2 with h | h
      · exact h
      · omega
  have hlt : tot < 0 ↔ sg s N + sg t M < 0 := by
    have a1 : tot * ((2 ^ (min j j' - min (min j j') g).toNat : Nat) : Int) < 0 ↔ tot < 0 := by
      constructor
      · intro h; exact Int.lt_of_not_ge fun h' => by have := Int.mul_nonneg h' (Int.natCast_nonneg (2 ^ (min j j' - min (min j j') g).toNat)); omega
      · intro h; exact Int.mul_neg_of_neg_of_pos h (by omega)
    have a2 : (sg s N + sg t M) * ((2 ^ (g - min (min j j') g).toNat : Nat) : Int) < 0 ↔ sg s N + sg t M < 0 := by
      constructor
      · intro h; exact Int.lt_of_not_ge fun h' => by have := Int.mul_nonneg h' (Int.natCast_nonneg (2 ^ (g - min (min j j') g).toNat)); omega
      · intro h; exact Int.mul_neg_of_neg_of_pos h (by omega)
    rw [← a1, ← a2, h2]
  refine ⟨tot.natAbs, min j j', ?_, ?_⟩
  · rw [h1]
    congr 2
    by_cases h : tot = 0
    · rw [if_pos h, if_pos (hz.1 h)]
    · rw [if_neg h, if_neg (fun h' => h (hz.2 h'))]
      exact decide_eq_decide.2 hlt
  · refine same_of (min (min j j') g) (by omega) (by omega) ?_
    have := congrArg Int.natAbs h2
    rw [Int.natAbs_mul, Int.natAbs_mul, Int.natAbs_natCast, Int.natAbs_natCast] at this
    exact this

theorem Rep.add {p q : Nat} {s t : Bool} {N M : Nat} {g : Int} (hp : Rep p s N g) (hq : Rep q t M g) :
    double.add p q = some (double.nearest (if sg s N + sg t M = 0 then s && t else decide (sg s N + sg t M < 0)) (sg s N + sg t M).natAbs g) := by
  obtain ⟨_, k, j, h2, h3⟩ := hp
  obtain ⟨_, k', j', h2', h3'⟩ := hq
  obtain ⟨m, b, h4, h5⟩ := sum_rep (s := s) (t := t) h3 h3'
  unfold Format.add
  rw [h2, h2', h4]
  show some (double.nearest _ m b) = _
  rw [near_same h5]
theorem Rep.sub {p q : Nat} {s t : Bool} {N M : Nat} {g : Int} (hp : Rep p s N g) (hq : Rep q t M g) :
    double.sub p q = some (double.nearest (if sg s N + sg (!t) M = 0 then s && !t else decide (sg s N + sg (!t) M < 0)) (sg s N + sg (!t) M).natAbs g) := by
  obtain ⟨_, k, j, h2, h3⟩ := hp
  obtain ⟨_, k', j', h2', h3'⟩ := hq
  obtain ⟨m, b, h4, h5⟩ := sum_rep (s := s) (t := !t) h3 h3'
  unfold Format.sub
  rw [h2, h2']
  show Option.map double.write (Datum.sum (.number s k j) (.number (!t) k' j')) = _
  rw [h4]
  show some (double.nearest _ m b) = _
  rw [near_same h5]

theorem Rep.order {p q : Nat} {s t : Bool} {N M : Nat} {g : Int} (hp : Rep p s N g) (hq : Rep q t M g) : double.order p q = some (compare (sg s N) (sg t M)) := by
  obtain ⟨_, k, j, h2, h3⟩ := hp
  obtain ⟨_, k', j', h2', h3'⟩ := hq
  unfold Format.order
  rw [h2, h2', order_vz (min (min j j') g) _ _ _ _ _ _ (by omega) (by omega), vz_int _ _ _ _ _ (h3 _ (by omega) (by omega)), vz_int _ _ _ _ _ (h3' _ (by omega) (by omega)), sg_mul, sg_mul, compare_scale]
  have := pow_pos2 (g - min (min j j') g).toNat
  omega

theorem Rep.flip {p : Nat} {s : Bool} {N : Nat} {g : Int} (h : Rep p s N g) : Rep (p ^^^ 2 ^ 63) (!s) N g := by
  obtain ⟨h1, k, j, h2, h3⟩ := h
  refine ⟨Nat.xor_lt_two_pow h1 (by decide), k, j, ?_, h3⟩
  rw [read_flip p h1, h2]
  rfl

/-- The word of a representable number. -/
theorem rep_near (s : Bool) {N : Nat} {g : Int} (hN : N ≤ 2 ^ 53) (h1 : -1074 ≤ g) (h2 : g ≤ 800) : Rep (double.nearest s N g) s N g := by
  refine ⟨double.nearest_lt _ _ _, ?_⟩
  by_cases h0 : N = 0
  · subst h0
    refine ⟨0, -1074, ?_, ?_⟩
    · unfold Format.nearest
      rw [if_pos rfl, read_word s 0 (by decide), if_pos (by decide)]
    · intro L _ _; simp
  · by_cases h53 : N = 2 ^ 53
    · subst h53
      have e := near_val_le s 1 g 53
      rw [Nat.one_mul] at e
      rw [e]
      obtain ⟨k, j, a1, _, _, a2, a3, a4⟩ := near_rep s 1 (g + (53 : Nat)) (-1074) 1 (g + (53 : Nat)) (by omega) (by decide) (by omega) (by omega) (by omega) (by omega) rfl
      refine ⟨k, j, a1, (same_of (-1074) (by omega) (by omega) (a4 (by omega))).trans ?_⟩
      have := same_shift 1 53 (g + (53 : Nat))
      rw [Nat.one_mul, show g + ((53 : Nat) : Int) - ((53 : Nat) : Int) = g by omega] at this
      exact this
    · obtain ⟨k, j, a1, _, _, a2, a3, a4⟩ := near_rep s N g (-1074) N g (by omega) (by omega) (by omega) (by omega) (by omega) (by omega) rfl
      exact ⟨k, j, a1, same_of (-1074) (by omega) (by omega) (a4 (by omega))⟩
theorem rep_near_same (s : Bool) {N M : Nat} {g i : Int} (h : Same N g M i) (hM : M ≤ 2 ^ 53) (h1 : -1074 ≤ i) (h2 : i ≤ 800) : Rep (double.nearest s N g) s N g := by
  rw [near_same h]
  exact (rep_near s hM h1 h2).same h.symm

/-- The word of a power of two. -/
theorem rep_pow2 (e : Int) (h1 : -1022 ≤ e) (h2 : e ≤ 1023) : Rep ((e + 1023).toNat * 2 ^ 52) false 1 e := by
  have hlt : (e + 1023).toNat * 2 ^ 52 < 2047 * 2 ^ 52 := Nat.mul_lt_mul_of_pos_right (by omega) (by decide)
  have hge : 2 ^ 52 ≤ (e + 1023).toNat * 2 ^ 52 := Nat.le_mul_of_pos_left _ (by omega)
  refine ⟨by omega, 2 ^ 52, e - 52, ?_, ?_⟩
  · have := read_word false ((e + 1023).toNat * 2 ^ 52) (by omega)
    rw [if_neg (by omega), if_pos hlt] at this
    have e1 : (e + 1023).toNat * 2 ^ 52 % 2 ^ 52 = 0 := Nat.mul_mod_left _ _
    have e2 : (e + 1023).toNat * 2 ^ 52 / 2 ^ 52 = (e + 1023).toNat := Nat.mul_div_cancel _ (by decide)
    rw [e1, e2, Nat.add_zero, show (-1074 + (((e + 1023).toNat - 1 : Nat) : Int)) = e - 52 by omega] at this
    simpa [Format.word] using this
  · have := (same_shift 1 52 e).symm
    rw [Nat.one_mul] at this
    exact this

theorem rep_int (z : Int) {M : Nat} {i : Int} (h : Same z.natAbs 0 M i) (hM : M ≤ 2 ^ 53) (h1 : -1074 ≤ i) (h2 : i ≤ 800) : Rep (floatOfInt .f64 z) (decide (z < 0)) z.natAbs 0 := by
  have : floatOfInt .f64 z = double.nearest (decide (z < 0)) z.natAbs 0 := rfl
  rw [this]
  exact rep_near_same _ h hM h1 h2
end Go.Proofs.Ybulkechq
