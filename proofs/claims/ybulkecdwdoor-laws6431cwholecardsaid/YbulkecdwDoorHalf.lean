import Derived.Test.YbulkecdwDoorFloat
import Derived.Laws.FloatArith
namespace Go.Proofs.YbulkecdwDoor
open Ieee

/-- The words of 10^0 .. 10^20. -/
def pw : List Nat := [4607182418800017408, 4621819117588971520, 4636737291354636288, 4652007308841189376, 4666723172467343360, 4681608360884174848, 4696837146684686336, 4711630319722168320, 4726483295884279808, 4741671816366391296, 4756540486875873280, 4771362005757984768, 4786511204640096256, 4801453603149578240, 4816244402031689728, 4831355200913801216, 4846369599423283200, 4861130398305394688, 4876203697187506176, 4891288408196988160, 4906019910204099648]

def pwOk (d : Nat) : Bool := match double.mul 4611686018427387904 (pw.getD d 0) with
  | none => false
  | some mw => match double.read mw with
    | .number s md me => !s && decide (mw < 2 ^ 64) && decide (-60 ≤ me) && decide (me ≤ 20) && decide (md * 2 ^ (me + 60).toNat = 2 * 10 ^ d * 2 ^ 60)
    | _ => false
theorem pwOk_all : ∀ d, d < 21 → pwOk d = true := by decide +kernel

theorem pw_at (d : Nat) (hd : d < 21) : ∃ mw md me, double.mul 4611686018427387904 (pw.getD d 0) = some mw ∧ double.read mw = .number false md me ∧ mw < 2 ^ 64 ∧ -60 ≤ me ∧ me ≤ 20 ∧ md * 2 ^ (me + 60).toNat = 2 * 10 ^ d * 2 ^ 60 := by
  have h := pwOk_all d hd
  unfold pwOk at h
  split at h
  · cases h
  · rename_i mw hmw
    split at h
    · rename_i s md me hr
      simp only [Bool.and_eq_true, Bool.not_eq_true', decide_eq_true_eq] at h
      obtain ⟨⟨⟨⟨rfl, h1⟩, h2⟩, h3⟩, h4⟩ := h
      exact ⟨mw, md, me, hmw, hr, h1, h2, h3, h4⟩
    · cases h

/-- The product's value. -/
theorem prod_val {L : Int} (hL : L ≤ -1200) {M d md : Nat} {E me : Int} (hE : -1074 ≤ E) (h1 : -60 ≤ me) (hm : md * 2 ^ (me + 60).toNat = 2 * 10 ^ d * 2 ^ 60) :
    M * md * 2 ^ (E + me - L).toNat = M * 2 ^ (E - L).toNat * (2 * 10 ^ d) := by
  have e1 : (E + me - L).toNat = (me + 60).toNat + (E - L - 60).toNat := by omega
  have e2 : (E - L).toNat = 60 + (E - L - 60).toNat := by omega
  rw [e1, e2, Nat.pow_add, Nat.pow_add]
  calc M * md * (2 ^ (me + 60).toNat * 2 ^ (E - L - 60).toNat) = M * (md * 2 ^ (me + 60).toNat) * 2 ^ (E - L - 60).toNat := by
        simp only [Nat.mul_assoc]
    _ = M * (2 * 10 ^ d * 2 ^ 60) * 2 ^ (E - L - 60).toNat := by rw [hm]
    _ = _ := by simp only [Nat.mul_assoc, Nat.mul_comm, Nat.mul_left_comm]

theorem ten_pow (d : Nat) : 2 * 10 ^ d = 5 ^ d * 2 ^ (d + 1) := by
  rw [show (10 : Nat) = 5 * 2 by rfl, Nat.mul_pow, Nat.pow_succ]
  simp only [Nat.mul_assoc, Nat.mul_comm]

theorem five_odd (d : Nat) : 5 ^ d % 2 = 1 := by
  induction d with
  | zero => rfl
  | succ n ih => rw [Nat.pow_succ, Nat.mul_mod, ih]
theorem odd_mul {a b : Nat} (ha : a % 2 = 1) (hb : b % 2 = 1) : (a * b) % 2 = 1 := by rw [Nat.mul_mod, ha, hb]

theorem odd_unique_le {a b x y : Nat} (ha : a % 2 = 1) (hxy : x ≤ y) (h : a * 2 ^ x = b * 2 ^ y) : x = y ∧ a = b := by
  have e : y = (y - x) + x := by omega
  rw [e, Nat.pow_add, ← Nat.mul_assoc] at h
  have h := Nat.eq_of_mul_eq_mul_right (pow_pos2 x) h
  by_cases hz : y - x = 0
  · rw [hz] at h
    exact ⟨by omega, by simpa using h⟩
  · exfalso
    rw [show y - x = (y - x - 1) + 1 by omega, Nat.pow_succ, ← Nat.mul_assoc] at h
    omega
theorem odd_unique {a b x y : Nat} (ha : a % 2 = 1) (hb : b % 2 = 1) (h : a * 2 ^ x = b * 2 ^ y) : x = y ∧ a = b := by
  by_cases hxy : x ≤ y
  · exact odd_unique_le ha hxy h
  · obtain ⟨h1, h2⟩ := odd_unique_le hb (by omega) h.symm
    exact ⟨h1.symm, h2.symm⟩

/-- The value of v times 2 * 10^d, by the odd part. -/
theorem val_odd {L : Int} {M d o t : Nat} {E : Int} (hM : M = o * 2 ^ t) :
    M * 2 ^ (E - L).toNat * (2 * 10 ^ d) = o * 5 ^ d * 2 ^ (t + (E - L).toNat + (d + 1)) := by
  rw [ten_pow, hM, show 2 ^ (t + (E - L).toNat + (d + 1)) = 2 ^ t * 2 ^ (E - L).toNat * 2 ^ (d + 1) by rw [Nat.pow_add, Nat.pow_add]]
  generalize 2 ^ (d + 1) = x
  generalize 2 ^ (E - L).toNat = y
  generalize 2 ^ t = z
  simp only [Nat.mul_assoc, Nat.mul_comm, Nat.mul_left_comm]

theorem val_yes {L : Int} (hL : L ≤ -1200) {M d o t : Nat} {E : Int} (hE : -1074 ≤ E) (hM : M = o * 2 ^ t) (hz : E + t + 1 + d = 0) :
    M * 2 ^ (E - L).toNat * (2 * 10 ^ d) = o * 5 ^ d * 2 ^ (-L).toNat := by
  rw [val_odd hM]
  congr 2
  omega

theorem val_no {L : Int} (hL : L ≤ -1200) {M d o t : Nat} {E : Int} (hE : -1074 ≤ E) (hM : M = o * 2 ^ t) (ho : o % 2 = 1) (hz : ¬ (E + t + 1 + d = 0 ∧ o * 5 ^ d < 2 ^ 53)) :
    ∀ q, q % 2 = 1 → q < 2 ^ 53 → M * 2 ^ (E - L).toNat * (2 * 10 ^ d) ≠ q * 2 ^ (-L).toNat := by
  intro q h1 h2 h3
  rw [val_odd hM] at h3
  obtain ⟨h4, h5⟩ := odd_unique (odd_mul ho (five_odd d)) h1 h3
  apply hz
  constructor
  · omega
  · omega
theorem val_no_zero {L : Int} {d : Nat} {E : Int} :
    ∀ q, q % 2 = 1 → q < 2 ^ 53 → 0 * 2 ^ (E - L).toNat * (2 * 10 ^ d) ≠ q * 2 ^ (-L).toNat := by
  intro q h1 h2 h3
  have := Nat.mul_pos (show 0 < q by omega) (pow_pos2 (-L).toNat)
  simp only [Nat.zero_mul] at h3
  omega

/-- A whole number with its sign. -/
def sg (s : Bool) (N : Nat) : Int := if s then -(N : Int) else N
theorem sg_signed (s : Bool) (N : Nat) : signed s N 0 = sg s N := by
  unfold signed sg; simp [Nat.shiftLeft_eq]

theorem c53 : double.read 4845873199050653696 = .number false (2 ^ 52) 1 := by decide +kernel
theorem c0 : double.read 0 = .number false 0 (-1074) := by decide +kernel

theorem vz_int (L : Int) (s : Bool) (m : Nat) (i : Int) (N : Nat) (h : m * 2 ^ (i - L).toNat = N) : vz L s m i = sg s N := by
  rw [vz_def, h]; unfold sg; cases s <;> simp

theorem sg_inj {s t : Bool} {a b : Nat} (ha : 0 < a) (h : sg s a = sg t b) : s = t ∧ a = b := by
  unfold sg at h
  cases s <;> cases t <;> simp at h <;> simp <;> omega

/-- The word of a whole number. -/
theorem int_word {L : Int} (hL : L ≤ -1200) (s : Bool) (N : Nat) (hN : 0 < N) (h53 : N < 2 ^ 53) : ∃ k j, double.read (floatOfInt .f64 (sg s N)) = .number s k j ∧ -1074 ≤ j ∧ j ≤ 0 ∧ k * 2 ^ (j - L).toNat = N * 2 ^ (-L).toNat := by
  obtain ⟨k, j, h1, _, _, h2, h3, h4⟩ := near_rep s N 0 L N 0 hN h53 (by omega) (by omega) (by omega) (by omega) rfl
  have e : floatOfInt .f64 (sg s N) = double.nearest s N 0 := by
    unfold floatOfInt FloatKind.nearest FloatKind.encode
    show double.nearest _ _ _ = _
    unfold sg
    cases s
    · simp; congr 1
    · simp; congr 1; simp; omega
  refine ⟨k, j, by rw [e]; exact h1, h2, h3, ?_⟩
  simpa using h4 (by omega)

/-- What the walk of 'halfway' needs where v lies halfway. -/
theorem half_yes {v d o t M : Nat} {s : Bool} {E : Int} (hd : d < 21) (hv : double.read v = .number s M E) (hM : M = o * 2 ^ t) (ho : o % 2 = 1) (hz : E + t + 1 + d = 0) (hN : o * 5 ^ d < 2 ^ 53) :
    ∃ mw p, double.mul 4611686018427387904 (pw.getD d 0) = some mw ∧ double.mul v mw = some p ∧ p < 2 ^ 64 ∧ double.order (p % 2 ^ 63) 4845873199050653696 = some .lt
      ∧ floatToIntVal .f64 p .i64 = some (sg s (o * 5 ^ d)) ∧ double.order (floatOfInt .f64 (sg s (o * 5 ^ d))) p = some .eq ∧ double.fma v mw (p ^^^ 2 ^ 63) = some 0 ∧ ((double.order v 0 == some .lt) = s) := by
  obtain ⟨mw, md, me, hmw, hrm, hmlt, hme1, hme2, hmd⟩ := pw_at d hd
  obtain ⟨L, hL⟩ : ∃ L : Int, L ≤ -1200 := ⟨-1200, by omega⟩
  obtain ⟨hb1, hb2, hb3⟩ := read_bounds hv
  have hprod := prod_val hL (M := M) (E := E) hb2 hme1 hmd
  rw [val_yes hL hb2 hM hz] at hprod
  have hNpos : 0 < o * 5 ^ d := Nat.mul_pos (by omega) (Nat.pow_pos (by omega))
  generalize o * 5 ^ d = N at *
  obtain ⟨k, j, hp1, hk0, hk53, hj1, hj2, hkj⟩ := near_rep s (M * md) (E + me) L N 0 hNpos hN (by omega) (by omega) (by omega) (by omega) (by simpa using hprod)
  have hkj : k * 2 ^ (j - L).toNat = N * 2 ^ (-L).toNat := by simpa using hkj (by omega)
  have hmul : double.mul v mw = some (double.nearest s (M * md) (E + me)) := by
    unfold Format.mul
    rw [hv, hrm]
    simp [Datum.product, Format.write]
  have hplt : double.nearest s (M * md) (E + me) < 2 ^ 64 := double.nearest_lt _ _ _
  refine ⟨mw, _, hmw, hmul, hplt, ?_, ?_, ?_, ?_, ?_⟩
  · unfold Format.order
    rw [read_abs _ hplt, hp1, c53]
    refine (order_lt L _ _ _ _ _ _ (by omega) (by omega)).2 ?_
    rw [vz_int L _ _ _ _ hkj, vz_int L _ _ _ _ rfl]
    have e1 : (1 - L).toNat = (-L).toNat + 1 := by omega
    have h2 : N * 2 ^ (-L).toNat < 2 ^ 52 * 2 ^ (1 - L).toNat := by
      rw [e1, ← Nat.pow_add, show 52 + ((-L).toNat + 1) = 53 + (-L).toNat by omega, Nat.pow_add]
      exact Nat.mul_lt_mul_of_pos_right hN (pow_pos2 _)
    unfold sg
    simp only [Bool.false_eq_true, if_false]
    exact Int.ofNat_lt.2 h2
  · unfold floatToIntVal FloatKind.decode
    have e : k * 2 ^ j.toNat = N * 2 ^ (-j).toNat := by
      have e1 : (-L).toNat = (-j).toNat + (j - L).toNat := by omega
      rw [e1, Nat.pow_add, ← Nat.mul_assoc] at hkj
      have := Nat.eq_of_mul_eq_mul_right (pow_pos2 _) hkj
      rw [show j.toNat = 0 by omega]
      simpa using this
    show (match (double.read _).toInt .zero with | some n => _ | none => _) = _
    rw [hp1, toInt_exact s k j N hNpos e, sg_signed]
    have : IntKind.i64.min ≤ sg s N ∧ sg s N ≤ IntKind.i64.max := by
      have e1 : IntKind.i64.min = -9223372036854775808 := by decide
      have e2 : IntKind.i64.max = 9223372036854775807 := by decide
      rw [e1, e2]
      unfold sg
      cases s <;> simp <;> omega
    show (if _ then some _ else Option.none) = _
    rw [if_pos this]
  · obtain ⟨k', j', h1, h2, h3, h4⟩ := int_word hL s N hNpos hN
    unfold Format.order
    rw [h1, hp1]
    refine (order_eq L _ _ _ _ _ _ (by omega) (by omega)).2 ?_
    rw [vz_int L _ _ _ _ hkj, vz_int L _ _ _ _ h4]
  · unfold Format.fma
    rw [read_flip _ hplt, hp1, hv, hrm]
    simp only [Datum.product, Option.bind_some, Datum.opposite]
    obtain ⟨tot, ht1, ht2, _⟩ := sum_vz L (s ^^ false) (!s) (M * md) k (E + me) j (by omega) (by omega)
    have : tot = 0 := by
      rw [vz_int L _ _ _ _ hkj, vz_int L _ _ _ _ hprod] at ht2
      have hz : sg (s ^^ false) (N * 2 ^ (-L).toNat) + sg (!s) (N * 2 ^ (-L).toNat) = 0 := by
        unfold sg; cases s <;> simp <;> omega
      rw [hz] at ht2
      rcases Int.mul_eq_zero.1 ht2 with h | h
      · exact h
      · have := pow_pos2 (min (E + me) j - L).toNat
        omega
    subst this
    rw [ht1]
    simp [Format.write, Format.nearest, Format.word]
  · unfold Format.order
    rw [hv, c0, order_vz L _ _ _ _ _ _ (by omega) (by omega), vz_int L _ _ _ _ rfl, vz_int L false 0 _ 0 (by simp)]
    have hMpos : 0 < M := by
      rw [hM]; exact Nat.mul_pos (by omega) (pow_pos2 _)
    have hpos := Nat.mul_pos hMpos (pow_pos2 (E - L).toNat)
    generalize M * 2 ^ (E - L).toNat = X at hpos
    rw [Int.compare_eq_ite_lt]
    unfold sg
    cases s
    · simp only [Bool.false_eq_true, if_false]
      rw [if_neg (by omega), if_pos (by omega)]
      rfl
    · simp only [Bool.false_eq_true, if_false, if_true]
      rw [if_pos (by omega)]
      rfl

theorem cmp_one (s : Bool) (r : Nat) (h0 : 0 < r) (h1 : r ≤ 2047 * 2 ^ 52) : double.order (double.word s r) 0 ≠ some .eq := by
  unfold Format.order
  rw [read_word s r (by omega), c0]
  have hne : ∀ (m : Nat) (i : Int), 0 < m → -1074 ≤ i → Datum.order (.number s m i) (.number false 0 (-1074)) ≠ some .eq := by
    intro m i hm hi h
    have := (order_eq (-1074) s false m 0 i (-1074) hi (by omega)).1 h
    rw [vz_int _ _ _ _ _ rfl, vz_int _ false 0 _ 0 (by simp)] at this
    have hp := Nat.mul_pos hm (pow_pos2 (i - -1074).toNat)
    generalize m * 2 ^ (i - -1074).toNat = X at *
    unfold sg at this
    cases s <;> simp at this <;> omega
  by_cases a1 : r < 2 ^ 52
  · rw [if_pos a1]; exact hne _ _ h0 (by omega)
  · rw [if_neg a1]
    by_cases a2 : r < 2047 * 2 ^ 52
    · rw [if_pos a2]; exact hne _ _ (by omega) (by omega)
    · rw [if_neg a2, if_pos (by omega)]
      cases s <;> simp [Datum.order]

theorem pow_dvd_of {x y : Nat} (a : Nat) (h : x ≤ y) : 2 ^ x ∣ a * 2 ^ y := by
  rw [show y = (y - x) + x by omega, Nat.pow_add, ← Nat.mul_assoc]
  exact Nat.dvd_mul_left _ _

theorem dvd_signed {s : Bool} {m u a : Nat} (h : 2 ^ a ∣ m * 2 ^ u) : ((2 ^ a : Nat) : Int) ∣ signed s m u := by
  rw [signed_def]
  exact Int.dvd_trans (Int.natCast_dvd_natCast.2 h) (Int.dvd_mul_left _ _)

/-- What the walk of 'halfway' needs where v does not lie halfway. -/
theorem half_no {v d M : Nat} {s : Bool} {E L : Int} (hL : L ≤ -1200) (hd : d < 21) (hv : double.read v = .number s M E)
    (hno : ∀ q, q % 2 = 1 → q < 2 ^ 53 → M * 2 ^ (E - L).toNat * (2 * 10 ^ d) ≠ q * 2 ^ (-L).toNat) :
    ∃ mw p, double.mul 4611686018427387904 (pw.getD d 0) = some mw ∧ double.mul v mw = some p ∧ p < 2 ^ 64 ∧ (double.order (p % 2 ^ 63) 4845873199050653696 = some .lt →
      ∃ n : Int, floatToIntVal .f64 p .i64 = some n ∧ -9007199254740992 < n ∧ n < 9007199254740992 ∧ (double.order (floatOfInt .f64 n) p = some .eq → ¬ Int.tmod n 2 = 0 → ∃ r, double.fma v mw (p ^^^ 2 ^ 63) = some r ∧ double.order r 0 ≠ some .eq)) := by
  obtain ⟨mw, md, me, hmw, hrm, hmlt, hme1, hme2, hmd⟩ := pw_at d hd
  obtain ⟨hb1, hb2, hb3⟩ := read_bounds hv
  have hprod := prod_val hL (M := M) (E := E) hb2 hme1 hmd
  have hmul : double.mul v mw = some (double.nearest s (M * md) (E + me)) := by
    unfold Format.mul
    rw [hv, hrm]
    simp [Datum.product, Format.write]
  have hplt : double.nearest s (M * md) (E + me) < 2 ^ 64 := double.nearest_lt _ _ _
  refine ⟨mw, _, hmw, hmul, hplt, ?_⟩
  clear hmul
  generalize double.nearest s (M * md) (E + me) = p at *
  intro hlt
  unfold Format.order at hlt
  rw [read_abs _ hplt, c53] at hlt
  cases hp : double.read p with
  | infinity s' => rw [hp] at hlt; simp [Datum.order] at hlt
  | nan s' t => rw [hp] at hlt; simp [Datum.order] at hlt
  | number s' k j =>
    rw [hp] at hlt
    obtain ⟨hk1, hj1, hj2⟩ := read_bounds hp
    have hlt' := (order_lt L _ _ _ _ _ _ (by omega) (by omega)).1 hlt
    rw [vz_int L _ _ _ _ rfl, vz_int L _ _ _ _ rfl] at hlt'
    unfold sg at hlt'
    simp only [Bool.false_eq_true, if_false] at hlt'
    have hlt2 : k * 2 ^ (j - L).toNat < 2 ^ 53 * 2 ^ (-L).toNat := by
      have := Int.ofNat_lt.1 hlt'
      rw [← Nat.pow_add, show 52 + (1 - L).toNat = 53 + (-L).toNat by omega, Nat.pow_add] at this
      exact this
    obtain ⟨q, hq1, hq2⟩ := toInt_le s' k j
    have hq3 : q * 2 ^ (-L).toNat ≤ k * 2 ^ (j - L).toNat := by
      by_cases hj : 0 ≤ j
      · rw [show (-j).toNat = 0 by omega, Nat.pow_zero, Nat.mul_one] at hq2
        rw [show (j - L).toNat = j.toNat + (-L).toNat by omega, Nat.pow_add, ← Nat.mul_assoc]
        exact Nat.mul_le_mul_right _ hq2
      · rw [show j.toNat = 0 by omega, Nat.pow_zero, Nat.mul_one] at hq2
        rw [show (-L).toNat = (-j).toNat + (j - L).toNat by omega, Nat.pow_add, ← Nat.mul_assoc]
        exact Nat.mul_le_mul_right _ hq2
    have hq53 : q < 2 ^ 53 := Nat.lt_of_mul_lt_mul_right (Nat.lt_of_le_of_lt hq3 hlt2)
    have hnr : -9007199254740992 < sg s' q ∧ sg s' q < 9007199254740992 := by
      unfold sg
      cases s' <;> simp <;> omega
    refine ⟨sg s' q, ?_, hnr.1, hnr.2, ?_⟩
    · unfold floatToIntVal FloatKind.decode
      show (match (double.read _).toInt .zero with | some n => _ | none => _) = _
      rw [hp, hq1, sg_signed]
      have : IntKind.i64.min ≤ sg s' q ∧ sg s' q ≤ IntKind.i64.max := by
        have e1 : IntKind.i64.min = -9223372036854775808 := by decide
        have e2 : IntKind.i64.max = 9223372036854775807 := by decide
        rw [e1, e2]
        omega
      show (if _ then some _ else Option.none) = _
      rw [if_pos this]
    · intro heq hodd
      have hqodd : q % 2 = 1 := by
        unfold sg at hodd
        cases s'
        · simp only [Bool.false_eq_true, if_false] at hodd
          rw [Int.tmod_eq_emod_of_nonneg (by omega)] at hodd
          omega
        · simp only [if_true, Int.neg_tmod] at hodd
          rw [Int.tmod_eq_emod_of_nonneg (by omega)] at hodd
          omega
      obtain ⟨k', j', h1, h2, h3, h4⟩ := int_word hL s' q (by omega) hq53
      unfold Format.order at heq
      rw [h1, hp] at heq
      have heq' := (order_eq L _ _ _ _ _ _ (by omega) (by omega)).1 heq
      rw [vz_int L _ _ _ _ h4, vz_int L _ _ _ _ rfl] at heq'
      have hpos := Nat.mul_pos (show 0 < q by omega) (pow_pos2 (-L).toNat)
      obtain ⟨_, hkq⟩ := sg_inj hpos heq'
      obtain ⟨tot, ht1, ht2, ht3⟩ := sum_vz L (s ^^ false) (!s') (M * md) k (E + me) j (by omega) (by omega)
      have hfma : double.fma v mw (p ^^^ 2 ^ 63) = some (double.nearest (if tot = 0 then (s ^^ false) && !s' else decide (tot < 0)) tot.natAbs (min (E + me) j)) := by
        unfold Format.fma
        rw [read_flip _ hplt, hp, hv, hrm]
        simp only [Datum.product, Option.bind_some, Datum.opposite]
        rw [ht1]
        rfl
      refine ⟨_, hfma, ?_⟩
      have htot : tot ≠ 0 := by
        intro h0
        subst h0
        rw [vz_int L _ _ _ _ hprod, vz_int L _ _ _ _ hkq.symm, Int.zero_mul] at ht2
        refine hno q hqodd hq53 ?_
        have : sg (s ^^ false) (M * 2 ^ (E - L).toNat * (2 * 10 ^ d)) = sg s' (q * 2 ^ (-L).toNat) := by
          generalize M * 2 ^ (E - L).toNat * (2 * 10 ^ d) = X at *
          generalize q * 2 ^ (-L).toNat = Y at *
          unfold sg at ht2 ⊢
          cases s <;> cases s' <;> simp at ht2 ⊢ <;> omega
        exact (sg_inj hpos this.symm).2.symm
      obtain ⟨r, hr1, hr2, hr3⟩ := near_ne (if tot = 0 then (s ^^ false) && !s' else decide (tot < 0)) tot.natAbs (min (E + me) j) (by omega) (by
        intro hpl
        have hmin : min (E + me) j = E + me := by omega
        rw [hmin] at hpl ht3 ⊢
        have hd1 : ((2 ^ (-1074 - (E + me)).toNat : Nat) : Int) ∣ tot := by
          rw [ht3]
          refine Int.dvd_add (dvd_signed ?_) (dvd_signed ?_)
          · have hme : me < 0 := by omega
            have hmd' : md = 2 * 10 ^ d * 2 ^ (-me).toNat := by
              have e : 2 * 10 ^ d * 2 ^ 60 = 2 * 10 ^ d * 2 ^ (-me).toNat * 2 ^ (me + 60).toNat := by
                rw [Nat.mul_assoc _ (2 ^ (-me).toNat), ← Nat.pow_add, show (-me).toNat + (me + 60).toNat = 60 by omega]
              rw [e] at hmd
              exact Nat.eq_of_mul_eq_mul_right (pow_pos2 _) hmd
            rw [show (E + me - (E + me)).toNat = 0 by omega, Nat.pow_zero, Nat.mul_one, hmd', ← Nat.mul_assoc]
            exact pow_dvd_of _ (by omega)
          · exact pow_dvd_of _ (by omega)
        have hd2 := Int.natAbs_dvd_natAbs.2 hd1
        rw [Int.natAbs_natCast] at hd2
        exact Nat.le_of_dvd (by omega) hd2)
      rw [hr1]
      exact cmp_one _ _ hr2 hr3

/-- An infinity. -/
theorem half_inf {v d : Nat} {s : Bool} (hd : d < 21) (hv : double.read v = .infinity s) :
    ∃ mw p, double.mul 4611686018427387904 (pw.getD d 0) = some mw ∧ double.mul v mw = some p ∧ p < 2 ^ 64 ∧ double.order (p % 2 ^ 63) 4845873199050653696 ≠ some .lt := by
  obtain ⟨mw, md, me, hmw, hrm, hmlt, hme1, hme2, hmd⟩ := pw_at d hd
  have hmd0 : md ≠ 0 := by
    rintro rfl
    rw [Nat.zero_mul] at hmd
    have := Nat.mul_pos (Nat.mul_pos (show 0 < 2 by omega) (Nat.pow_pos (n := d) (show 0 < 10 by omega))) (pow_pos2 60)
    omega
  have hmul : double.mul v mw = some (double.word s (2047 * 2 ^ 52)) := by
    unfold Format.mul
    rw [hv, hrm]
    simp [Datum.product, Format.write, hmd0, double_inf]
  have hplt : double.word s (2047 * 2 ^ 52) < 2 ^ 64 := by cases s <;> decide
  refine ⟨mw, _, hmw, hmul, hplt, ?_⟩
  unfold Format.order
  rw [read_abs _ hplt, read_word s _ (by decide), c53]
  simp [Datum.order]

/-- A NaN. -/
theorem half_nan {v d t : Nat} {s : Bool} (hd : d < 21) (hv : double.read v = .nan s t) :
    ∃ mw, double.mul 4611686018427387904 (pw.getD d 0) = some mw ∧ double.mul v mw = none := by
  obtain ⟨mw, md, me, hmw, hrm, hmlt, hme1, hme2, hmd⟩ := pw_at d hd
  refine ⟨mw, hmw, ?_⟩
  unfold Format.mul
  rw [hv, hrm]
  rfl
theorem nan_cmp (p : Nat) (h2 : 2047 * 2 ^ 52 < p % 2 ^ 63) : double.order (p % 2 ^ 63) 4845873199050653696 ≠ some .lt := by
  unfold Format.order
  have : double.read (p % 2 ^ 63) = .nan false (p % 2 ^ 63 - 2047 * 2 ^ 52) := by
    have := read_word false (p % 2 ^ 63) (by omega)
    rw [if_neg (by omega), if_neg (by omega), if_neg (by omega)] at this
    simpa [Format.word] using this
  rw [this, c53]
  simp [Datum.order]
end Go.Proofs.YbulkecdwDoor
