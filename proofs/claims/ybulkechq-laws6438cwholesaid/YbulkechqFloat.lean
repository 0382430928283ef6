import Ieee.Arith
namespace Go.Proofs.Ybulkechq
open Ieee

/-! ### Powers -/
theorem pow_lt_inv {a b : Nat} (h : 2 ^ a < 2 ^ b) : a < b := (Nat.pow_lt_pow_iff_right (by omega)).1 h
theorem pow_add_split {a b c : Nat} (h : a = b + c) : 2 ^ a = 2 ^ b * 2 ^ c := by rw [h, Nat.pow_add]
theorem pow_pos2 (a : Nat) : 0 < 2 ^ a := Nat.two_pow_pos a

theorem double_least : double.leastPlace = -1074 := by decide
theorem double_binade : double.binade = 2 ^ 52 := rfl
theorem double_frac : double.fractionBits = 52 := rfl
theorem double_inf : double.infRung = 2047 * 2 ^ 52 := by decide
theorem double_sign : double.signWeight = 2 ^ 63 := by decide

/-! ### Reading a word of a sign and a rung -/
theorem read_word (s : Bool) (r : Nat) (hr : r < 2 ^ 63) : double.read (double.word s r) =
    if r < 2 ^ 52 then .number s r (-1074)
    else if r < 2047 * 2 ^ 52 then .number s (2 ^ 52 + r % 2 ^ 52) (-1074 + (r / 2 ^ 52 - 1 : Nat))
    else if r = 2047 * 2 ^ 52 then .infinity s else .nan s (r - 2047 * 2 ^ 52) := by
  have h1 : double.word s r / 2 ^ 63 % 2 = if s then 1 else 0 := by
    unfold Format.word
    rw [double_sign]
    cases s
    · simp; omega
    · simp; omega
  have h2 : double.word s r % 2 ^ 63 = r := by
    unfold Format.word
    rw [double_sign]
    cases s
    · simp; omega
    · simp; omega
  have h3 : (double.word s r / 2 ^ 63 % 2 == 1) = s := by
    rw [h1]; cases s <;> rfl
  unfold Format.read
  simp only [double_sign, double_binade, double_inf, double_least, h2, h3]

/-- A rung that is built of a place above the least and a significand reads as that significand at that place. -/
theorem read_kept (s : Bool) (u k : Nat) (hk : k ≤ 2 ^ 53) (hu : u = 0 ∨ 2 ^ 52 ≤ k) (hr : u * 2 ^ 52 + k < 2047 * 2 ^ 52) :
    double.read (double.word s (u * 2 ^ 52 + k)) = if k = 2 ^ 53 then .number s (2 ^ 52) (-1074 + u + 1) else .number s k (-1074 + u) := by
  rw [read_word s _ (by omega)]
  by_cases e : k = 2 ^ 53
  · subst e
    rw [if_neg (by omega), if_pos hr, if_pos rfl]
    have a1 : (u * 2 ^ 52 + 2 ^ 53) % 2 ^ 52 = 0 := by omega
    have a2 : (u * 2 ^ 52 + 2 ^ 53) / 2 ^ 52 - 1 = u + 1 := by omega
    rw [a1, a2, Nat.add_zero, show (-1074 + ((u + 1 : Nat) : Int)) = -1074 + (u : Int) + 1 by omega]
  · rw [if_neg e]
    by_cases h1 : u * 2 ^ 52 + k < 2 ^ 52
    · rw [if_pos h1]
      have : u = 0 := by omega
      subst this
      simp
    · rw [if_neg h1, if_pos hr]
      have hk' : 2 ^ 52 ≤ k := by omega
      have a1 : (u * 2 ^ 52 + k) % 2 ^ 52 = k - 2 ^ 52 := by omega
      have a2 : (u * 2 ^ 52 + k) / 2 ^ 52 - 1 = u := by omega
      rw [a1, a2, show 2 ^ 52 + (k - 2 ^ 52) = k by omega]

/-! ### Cutting -/
theorem cut_zero (neg : Bool) (n : Nat) (way : Toward) : way.cut neg n 0 = n := by
  unfold Toward.cut
  simp [Nat.shiftLeft_eq, Nat.mod_one]
  cases way <;> simp

/-- What is dropped is nothing: the exact quotient. -/
theorem cut_exact (way : Toward) (neg : Bool) (n q drop : Nat) (hn : n = q * 2 ^ drop) (hq : 0 < q) : way.cut neg n drop = q := by
  have hp := pow_pos2 drop
  have hle : 2 ^ drop ≤ n := by rw [hn]; exact Nat.le_mul_of_pos_left _ hq
  have hlog : drop ≤ n.log2 := (Nat.le_log2 (by omega)).2 hle
  have hmin : min drop (n.log2 + 2) = drop := by omega
  unfold Toward.cut
  simp only [hmin, Nat.shiftLeft_eq, Nat.one_mul]
  have h1 : n / 2 ^ drop = q := by rw [hn]; exact Nat.mul_div_cancel _ hp
  have h2 : n % 2 ^ drop = 0 := by rw [hn]; exact Nat.mul_mod_left _ _
  rw [h1, h2]
  have : (2 ^ drop == 2 * 0) = false := by simp
  cases way <;> simp

/-- The word of a representable number reads as that number. -/
theorem near_rep (s : Bool) (mag : Nat) (place : Int) (L : Int) (N : Nat) (e : Int) (hN : 0 < N) (hN53 : N < 2 ^ 53) (he : -1074 ≤ e) (he2 : e ≤ 900) (hL1 : L ≤ place) (hL2 : L ≤ e)
    (hv : mag * 2 ^ (place - L).toNat = N * 2 ^ (e - L).toNat) :
    ∃ k j, double.read (double.nearest s mag place) = .number s k j ∧ 0 < k ∧ k < 2 ^ 53 ∧ -1074 ≤ j ∧ j ≤ e ∧ (L ≤ j → k * 2 ^ (j - L).toNat = N * 2 ^ (e - L).toNat) := by
  have hmag : mag ≠ 0 := by
    rintro rfl
    rw [Nat.zero_mul] at hv
    have := Nat.mul_pos hN (pow_pos2 (e - L).toNat)
    omega
  have hlo := Nat.log2_self_le hmag
  have hhi := Nat.lt_log2_self (n := mag)
  have hlog : place + mag.log2 ≤ e + 52 := by
    have h1 : 2 ^ mag.log2 * 2 ^ (place - L).toNat < 2 ^ 53 * 2 ^ (e - L).toNat := by
      calc _ ≤ mag * 2 ^ (place - L).toNat := Nat.mul_le_mul_right _ hlo
        _ = N * 2 ^ (e - L).toNat := hv
        _ < _ := Nat.mul_lt_mul_of_pos_right hN53 (pow_pos2 _)
    rw [← Nat.pow_add, ← Nat.pow_add] at h1
    have := pow_lt_inv h1
    omega
  unfold Format.nearest
  rw [if_neg hmag]
  simp only [double_frac, double_least, double_binade, double_inf]
  generalize hlast : max (place + (mag.log2 : Int) - ((52 : Nat) : Int)) (-1074) = last
  have hl0 : -1074 ≤ last := by omega
  have hl1 : last ≤ e := by omega
  -- the kept significand
  obtain ⟨k, hk, hkv, hk53, hk52⟩ : ∃ k, Toward.even.cut s (mag <<< (place - last).toNat) (last - place).toNat = k ∧ (L ≤ last → k * 2 ^ (last - L).toNat = N * 2 ^ (e - L).toNat) ∧ 0 < k ∧ k < 2 ^ 53 ∧ (last = -1074 ∨ 2 ^ 52 ≤ k) := by
    by_cases hp : last ≤ place
    · have e1 : (last - place).toNat = 0 := by omega
      rw [e1, cut_zero, Nat.shiftLeft_eq]
      refine ⟨_, rfl, fun hLl => ?_, Nat.mul_pos (by omega) (pow_pos2 _), ?_, ?_⟩
      · rw [Nat.mul_assoc, ← Nat.pow_add, ← hv]
        congr 2
        omega
      · calc mag * 2 ^ (place - last).toNat < 2 ^ (mag.log2 + 1) * 2 ^ (place - last).toNat := Nat.mul_lt_mul_of_pos_right hhi (pow_pos2 _)
          _ = 2 ^ (mag.log2 + 1 + (place - last).toNat) := by rw [← Nat.pow_add]
          _ ≤ 2 ^ 53 := Nat.pow_le_pow_right (by omega) (by omega)
      · by_cases hx : last = -1074
        · exact .inl hx
        · right
          calc 2 ^ 52 ≤ 2 ^ (mag.log2 + (place - last).toNat) := Nat.pow_le_pow_right (by omega) (by omega)
            _ = 2 ^ mag.log2 * 2 ^ (place - last).toNat := by rw [← Nat.pow_add]
            _ ≤ _ := Nat.mul_le_mul_right _ hlo
    · have e1 : (place - last).toNat = 0 := by omega
      rw [e1]
      have hmagN : mag = N * 2 ^ (e - place).toNat := by
        have : (e - L).toNat = (e - place).toNat + (place - L).toNat := by omega
        rw [this, Nat.pow_add, ← Nat.mul_assoc] at hv
        exact Nat.eq_of_mul_eq_mul_right (pow_pos2 _) hv
      have hsplit : mag = (N * 2 ^ (e - last).toNat) * 2 ^ (last - place).toNat := by
        rw [hmagN, Nat.mul_assoc, ← Nat.pow_add]
        congr 2
        omega
      have hq : 0 < N * 2 ^ (e - last).toNat := Nat.mul_pos hN (pow_pos2 _)
      refine ⟨N * 2 ^ (e - last).toNat, ?_, fun hLl => ?_, hq, ?_, ?_⟩
      · exact cut_exact _ _ _ _ _ (by simpa [Nat.shiftLeft_eq] using hsplit) hq
      · rw [Nat.mul_assoc, ← Nat.pow_add]
        congr 2
        omega
      · have h1 : N * 2 ^ (e - last).toNat * 2 ^ (last - place).toNat < 2 ^ 53 * 2 ^ (last - place).toNat := by
          rw [← hsplit]
          calc mag < 2 ^ (mag.log2 + 1) := hhi
            _ ≤ 2 ^ (53 + (last - place).toNat) := Nat.pow_le_pow_right (by omega) (by omega)
            _ = _ := by rw [Nat.pow_add]
        exact Nat.lt_of_mul_lt_mul_right h1
      · by_cases hx : last = -1074
        · exact .inl hx
        · right
          have h1 : 2 ^ 52 * 2 ^ (last - place).toNat ≤ N * 2 ^ (e - last).toNat * 2 ^ (last - place).toNat := by
            rw [← hsplit]
            calc 2 ^ 52 * 2 ^ (last - place).toNat = 2 ^ (52 + (last - place).toNat) := by rw [Nat.pow_add]
              _ ≤ 2 ^ mag.log2 := Nat.pow_le_pow_right (by omega) (by omega)
              _ ≤ mag := hlo
          exact Nat.le_of_mul_le_mul_right h1 (pow_pos2 _)
  rw [hk]
  have hr : (last - -1074).toNat * 2 ^ 52 + k < 2047 * 2 ^ 52 := by omega
  rw [Nat.min_eq_left (by omega), read_kept s _ k (by omega) (by omega) hr, if_neg (by omega)]
  exact ⟨k, last, by rw [show (-1074 + ((last - -1074).toNat : Int)) = last by omega], hk53, hk52.1, hl0, hl1, hkv⟩

/-- A number of at least the least magnitude is not written as nought. -/
theorem near_ne (s : Bool) (mag : Nat) (place : Int) (hm : mag ≠ 0) (hb : place < -1074 → 2 ^ (-1074 - place).toNat ≤ mag) :
    ∃ r, double.nearest s mag place = double.word s r ∧ 0 < r ∧ r ≤ 2047 * 2 ^ 52 := by
  unfold Format.nearest
  rw [if_neg hm]
  simp only [double_frac, double_least, double_binade, double_inf]
  refine ⟨_, rfl, ?_, Nat.min_le_right _ _⟩
  have hlo := Nat.log2_self_le hm
  generalize hlast : max (place + (mag.log2 : Int) - ((52 : Nat) : Int)) (-1074) = last
  by_cases hx : last = -1074
  · subst hx
    refine Nat.lt_min.2 ⟨?_, by decide⟩
    have : 0 < Toward.even.cut s (mag <<< (place - -1074).toNat) (-1074 - place).toNat := by
      by_cases hp : -1074 ≤ place
      · have e1 : (-1074 - place).toNat = 0 := by omega
        rw [e1, cut_zero, Nat.shiftLeft_eq]
        exact Nat.mul_pos (by omega) (pow_pos2 _)
      · have e1 : (place - -1074).toNat = 0 := by omega
        have hb := hb (by omega)
        rw [e1]
        have hlog : (-1074 - place).toNat ≤ mag.log2 := (Nat.le_log2 hm).2 hb
        unfold Toward.cut
        have e2 : mag <<< 0 = mag := rfl
        rw [e2]
        simp only [Nat.shiftLeft_eq, Nat.one_mul]
        rw [Nat.min_eq_left (by omega)]
        have := Nat.div_pos hb (pow_pos2 _)
        omega
    omega
  · refine Nat.lt_min.2 ⟨?_, by decide⟩
    have : 0 < (last - -1074).toNat := by omega
    exact Nat.lt_of_lt_of_le (Nat.mul_pos this (pow_pos2 52)) (Nat.le_add_right _ _)

theorem signed_def (s : Bool) (m u : Nat) : signed s m u = (if s then -1 else 1) * ((m * 2 ^ u : Nat) : Int) := by
  unfold signed
  rw [Nat.shiftLeft_eq]
  cases s <;> simp

theorem signed_scale (s : Bool) (m u t : Nat) : signed s m u * ((2 ^ t : Nat) : Int) = signed s m (u + t) := by
  rw [signed_def, signed_def, Nat.pow_add, Int.mul_assoc, ← Int.natCast_mul, Nat.mul_assoc]

/-- The value, in units of 2 ^ L. -/
def vz (L : Int) (s : Bool) (m : Nat) (i : Int) : Int := signed s m (i - L).toNat

theorem vz_def (L : Int) (s : Bool) (m : Nat) (i : Int) : vz L s m i = (if s then -1 else 1) * ((m * 2 ^ (i - L).toNat : Nat) : Int) := signed_def _ _ _

theorem compare_scale (a b c : Int) (hc : 0 < c) : compare (a * c) (b * c) = compare a b := by
  rw [Int.compare_eq_ite_lt, Int.compare_eq_ite_lt]
  have h1 : a * c < b * c ↔ a < b := Int.mul_lt_mul_right hc
  have h2 : b * c < a * c ↔ b < a := Int.mul_lt_mul_right hc
  simp only [h1, h2]

theorem order_vz (L : Int) (s t : Bool) (m n : Nat) (i j : Int) (hi : L ≤ i) (hj : L ≤ j) :
    Datum.order (.number s m i) (.number t n j) = some (compare (vz L s m i) (vz L t n j)) := by
  have h1 : vz L s m i = signed s m (i - min i j).toNat * ((2 ^ (min i j - L).toNat : Nat) : Int) := by
    rw [signed_scale]; unfold vz; congr 1; omega
  have h2 : vz L t n j = signed t n (j - min i j).toNat * ((2 ^ (min i j - L).toNat : Nat) : Int) := by
    rw [signed_scale]; unfold vz; congr 1; omega
  rw [h1, h2, compare_scale _ _ _ (by have := pow_pos2 (min i j - L).toNat; omega)]
  rfl

theorem order_eq (L : Int) (s t : Bool) (m n : Nat) (i j : Int) (hi : L ≤ i) (hj : L ≤ j) :
    Datum.order (.number s m i) (.number t n j) = some .eq ↔ vz L s m i = vz L t n j := by
  rw [order_vz L s t m n i j hi hj]
  simp

theorem order_lt (L : Int) (s t : Bool) (m n : Nat) (i j : Int) (hi : L ≤ i) (hj : L ≤ j) :
    Datum.order (.number s m i) (.number t n j) = some .lt ↔ vz L s m i < vz L t n j := by
  rw [order_vz L s t m n i j hi hj]
  simp [Int.compare_eq_lt]

theorem sum_vz (L : Int) (s t : Bool) (m n : Nat) (i j : Int) (hi : L ≤ i) (hj : L ≤ j) :
    ∃ tot : Int, Datum.sum (.number s m i) (.number t n j) = some (.number (if tot = 0 then s && t else decide (tot < 0)) tot.natAbs (min i j)) ∧ tot * ((2 ^ (min i j - L).toNat : Nat) : Int) = vz L s m i + vz L t n j ∧ tot = signed s m (i - min i j).toNat + signed t n (j - min i j).toNat := by
  refine ⟨_, rfl, ?_, rfl⟩
  rw [Int.add_mul, signed_scale, signed_scale]
  unfold vz
  congr 2 <;> omega

/-! ### To an integer, towards zero -/
theorem toInt_le (s : Bool) (m : Nat) (i : Int) : ∃ q, Datum.toInt .zero (.number s m i) = some (signed s q 0) ∧ q * 2 ^ (-i).toNat ≤ m * 2 ^ i.toNat := by
  refine ⟨_, rfl, ?_⟩
  unfold Toward.cut
  simp only [Nat.shiftLeft_eq, Nat.one_mul]
  generalize m * 2 ^ i.toNat = n
  generalize (-i).toNat = drop
  have hhi := Nat.lt_log2_self (n := n)
  by_cases h : drop ≤ n.log2 + 2
  · rw [Nat.min_eq_left h]
    simp
    exact Nat.div_mul_le_self _ _
  · rw [Nat.min_eq_right (by omega)]
    have : n / 2 ^ (n.log2 + 2) = 0 := Nat.div_eq_of_lt (by rw [show n.log2 + 2 = n.log2 + 1 + 1 by omega, Nat.pow_succ]; omega)
    rw [this]
    simp

theorem toInt_exact (s : Bool) (m : Nat) (i : Int) (N : Nat) (hN : 0 < N) (h : m * 2 ^ i.toNat = N * 2 ^ (-i).toNat) : Datum.toInt .zero (.number s m i) = some (signed s N 0) := by
  show some _ = _
  rw [Nat.shiftLeft_eq, cut_exact .zero s _ N _ h hN]

/-! ### Words -/
theorem xor_top (r : Nat) (hr : r < 2 ^ 63) : r ^^^ 2 ^ 63 = 2 ^ 63 + r := by
  apply Nat.eq_of_testBit_eq
  intro i
  rw [Nat.testBit_xor, Nat.testBit_two_pow]
  by_cases h : i < 63
  · rw [Nat.testBit_two_pow_add_gt h]
    have : ¬ 63 = i := by omega
    simp [this]
  · by_cases h2 : i = 63
    · subst h2
      rw [Nat.testBit_two_pow_add_eq]
      simp
    · have e1 : r.testBit i = false := Nat.testBit_lt_two_pow (Nat.lt_of_lt_of_le hr (Nat.pow_le_pow_right (by omega) (by omega)))
      have e2 : (2 ^ 63 + r).testBit i = false := by
        refine Nat.testBit_lt_two_pow (Nat.lt_of_lt_of_le (m := 2 ^ 64) (by omega) (Nat.pow_le_pow_right (by omega) (by omega)))
      have : ¬ 63 = i := by omega
      rw [e1, e2]
      simp [this]

theorem word_flip (s : Bool) (r : Nat) (hr : r < 2 ^ 63) : double.word s r ^^^ 2 ^ 63 = double.word (!s) r := by
  unfold Format.word
  rw [double_sign]
  cases s
  · simpa using xor_top r hr
  · have := xor_top r hr
    simp only [Bool.not_true, if_true]
    rw [← this, Nat.xor_assoc, Nat.xor_self, Nat.xor_zero]
    rfl

theorem is_word (p : Nat) (hp : p < 2 ^ 64) : ∃ s r, r < 2 ^ 63 ∧ p = double.word s r := by
  unfold Format.word
  rw [double_sign]
  by_cases h : p < 2 ^ 63
  · exact ⟨false, p, h, by simp⟩
  · exact ⟨true, p - 2 ^ 63, by omega, by simp; omega⟩

theorem read_flip (p : Nat) (hp : p < 2 ^ 64) : double.read (p ^^^ 2 ^ 63) = (double.read p).opposite := by
  obtain ⟨s, r, hr, rfl⟩ := is_word p hp
  rw [word_flip s r hr, read_word _ _ hr, read_word _ _ hr]
  split
  · rfl
  · split
    · rfl
    · split <;> rfl

theorem read_abs (p : Nat) (hp : p < 2 ^ 64) : double.read (p % 2 ^ 63) = match double.read p with | .number _ m i => .number false m i | .infinity _ => .infinity false | .nan _ t => .nan false t := by
  obtain ⟨s, r, hr, rfl⟩ := is_word p hp
  have e : double.word s r % 2 ^ 63 = double.word false r := by
    unfold Format.word
    rw [double_sign]
    cases s
    · simp; omega
    · simp; omega
  rw [e, read_word _ _ hr, read_word _ _ hr]
  by_cases h1 : r < 2 ^ 52
  · rw [if_pos h1, if_pos h1]
  · rw [if_neg h1, if_neg h1]
    by_cases h2 : r < 2047 * 2 ^ 52
    · rw [if_pos h2, if_pos h2]
    · rw [if_neg h2, if_neg h2]
      by_cases h3 : r = 2047 * 2 ^ 52
      · rw [if_pos h3, if_pos h3]
      · rw [if_neg h3, if_neg h3]

/-- Every number that is read lies on the grid of the least place. -/
theorem read_bounds {p : Nat} {s : Bool} {m : Nat} {i : Int} (h : double.read p = .number s m i) : m < 2 ^ 53 ∧ -1074 ≤ i ∧ i ≤ 971 := by
  unfold Format.read at h
  simp only [double_sign, double_binade, double_inf, double_least] at h
  generalize p % 2 ^ 63 = r at h
  split at h
  · injection h with _ h1 h2
    omega
  · split at h
    · injection h with _ h1 h2
      have := Nat.mod_lt r (pow_pos2 52)
      have h3 : r / 2 ^ 52 < 2047 := Nat.div_lt_of_lt_mul (by omega)
      omega
    · split at h <;> cases h
end Go.Proofs.Ybulkechq
