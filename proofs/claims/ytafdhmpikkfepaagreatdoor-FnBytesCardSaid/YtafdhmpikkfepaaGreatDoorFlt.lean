import Derived.Laws.FloatArith
namespace Go.Proofs.YtafdhmpikkfepaaGreatDoor
open Ieee

def fl (n : Nat) : Nat := floatOfInt .f64 (n : Int)

theorem fl_int (n : Nat) : floatOfInt .f64 (n : Int) = fl n := rfl

theorem cut_even_zero (s : Bool) (m : Nat) : Toward.even.cut s m 0 = m := by
  simp [Toward.cut, Nat.mod_one]

theorem min_K (a m K : Nat) (h : m < 2 * K) (ha : a ≤ 1074) : min (a * K + m) (2047 * K) = a * K + m := by
  have := Nat.mul_le_mul_right K ha
  exact Nat.min_eq_left (by omega)

theorem log2_of (m : Nat) (k : Nat) (h : 2 ^ k ≤ m) (h' : m < 2 ^ (k + 1)) : m.log2 = k := by
  have hm : m ≠ 0 := by
    have : 0 < 2 ^ k := Nat.two_pow_pos k
    omega
  have h1 : m.log2 < k + 1 := (Nat.log2_lt hm).2 h'
  have h2 : ¬ m.log2 < k := fun h3 => by
    have := (Nat.log2_lt hm).1 h3
    omega
  omega

theorem mul8 (m : Nat) : (8 * m) / 8 = m := by omega

theorem cut_even_three (s : Bool) (m : Nat) (h : 2 ^ 52 ≤ m) (h' : m < 2 ^ 53) : Toward.even.cut s (8 * m) 3 = m := by
  have hl : (8 * m).log2 = 55 := log2_of _ _ (by omega) (by omega)
  simp only [Toward.cut, hl]
  have e : (1 : Nat) <<< min 3 (55 + 2) = 8 := by decide
  rw [e]
  have e2 : 8 * m % 8 = 0 := by omega
  simp [e2]

theorem nearest_left (s : Bool) (n : Nat) (h0 : n ≠ 0) (h : n < 2 ^ 53) : double.nearest s n 0 = double.word s ((n.log2 + 1022) * 2 ^ 52 + n * 2 ^ (52 - n.log2)) := by
  have hL : n.log2 < 53 := (Nat.log2_lt h0).2 h
  have hlo : 2 ^ n.log2 ≤ n := Nat.log2_self_le h0
  have hhi : n < 2 ^ (n.log2 + 1) := Nat.lt_log2_self
  unfold Format.nearest
  rw [if_neg h0]
  have hlp : double.leastPlace = -1074 := by decide
  have hfb : (double.fractionBits : Int) = 52 := rfl
  have e1 : max ((0 : Int) + n.log2 - double.fractionBits) double.leastPlace = (n.log2 : Int) - 52 := by
    rw [hlp, hfb]; omega
  simp only [e1]
  rw [hlp]
  have e2 : ((0 : Int) - ((n.log2 : Int) - 52)).toNat = 52 - n.log2 := by omega
  have e3 : (((n.log2 : Int) - 52) - 0).toNat = 0 := by omega
  have e4 : (((n.log2 : Int) - 52) - -1074).toNat = n.log2 + 1022 := by omega
  rw [e2, e3, e4, cut_even_zero, Nat.shiftLeft_eq]
  have hb : double.binade = 2 ^ 52 := rfl
  have hr : double.infRung = 2047 * 2 ^ 52 := by decide
  rw [hb, hr]
  congr 1
  have hm : n * 2 ^ (52 - n.log2) < 2 ^ 53 := by
    calc n * 2 ^ (52 - n.log2) < 2 ^ (n.log2 + 1) * 2 ^ (52 - n.log2) := Nat.mul_lt_mul_of_pos_right hhi (Nat.two_pow_pos _)
      _ = 2 ^ 53 := by rw [← Nat.pow_add]; congr 1; omega
  exact min_K _ _ _ hm (by omega)

theorem sig_bounds (n : Nat) (h0 : n ≠ 0) (h : n < 2 ^ 53) : 2 ^ 52 ≤ n * 2 ^ (52 - n.log2) ∧ n * 2 ^ (52 - n.log2) < 2 ^ 53 := by
  have hL : n.log2 < 53 := (Nat.log2_lt h0).2 h
  have hlo : 2 ^ n.log2 ≤ n := Nat.log2_self_le h0
  have hhi : n < 2 ^ (n.log2 + 1) := Nat.lt_log2_self
  constructor
  · calc 2 ^ 52 = 2 ^ n.log2 * 2 ^ (52 - n.log2) := by rw [← Nat.pow_add]; congr 1; omega
      _ ≤ _ := Nat.mul_le_mul_right _ hlo
  · calc n * 2 ^ (52 - n.log2) < 2 ^ (n.log2 + 1) * 2 ^ (52 - n.log2) := Nat.mul_lt_mul_of_pos_right hhi (Nat.two_pow_pos _)
      _ = 2 ^ 53 := by rw [← Nat.pow_add]; congr 1; omega

theorem read_word (m k : Nat) (h : 2 ^ 52 ≤ m) (h' : m < 2 ^ 53) (hk : k < 2000) :
    double.read (k * 2 ^ 52 + m) = .number false m (-1074 + (k : Int)) := by
  have hb : double.binade = 2 ^ 52 := rfl
  have hr : double.infRung = 2047 * 2 ^ 52 := by decide
  have hs : double.signWeight = 2 ^ 63 := rfl
  have hlp : double.leastPlace = -1074 := by decide
  have hkk : k * 2 ^ 52 ≤ 1999 * 2 ^ 52 := Nat.mul_le_mul_right _ (by omega)
  have hlt : k * 2 ^ 52 + m < 2 ^ 63 := by omega
  unfold Format.read
  simp only [hb, hr, hs, hlp]
  rw [Nat.mod_eq_of_lt hlt, Nat.div_eq_of_lt hlt]
  rw [if_neg (by omega), if_pos (by omega)]
  have e1 : (k * 2 ^ 52 + m) % 2 ^ 52 = m - 2 ^ 52 := by omega
  have e2 : (k * 2 ^ 52 + m) / 2 ^ 52 - 1 = k := by omega
  rw [e1, e2]
  have e3 : 2 ^ 52 + (m - 2 ^ 52) = m := by omega
  rw [e3]
  rfl

theorem fl_eq (n : Nat) (h0 : n ≠ 0) (h : n < 2 ^ 53) : fl n = (n.log2 + 1022) * 2 ^ 52 + n * 2 ^ (52 - n.log2) := by
  unfold fl floatOfInt FloatKind.nearest FloatKind.encode
  have e : decide ((n : Int) < 0) = false := by simp
  rw [e]
  show double.nearest false (n : Int).natAbs 0 = _
  rw [Int.natAbs_natCast, nearest_left false n h0 h]
  rfl

theorem fl_zero : fl 0 = 0 := by decide

theorem zero_pow (d : Nat) : 0 = 0 * 2 ^ d := (Nat.zero_mul _).symm

/-- what the float of a small whole number reads as -/
theorem read_fl (n : Nat) (h : n < 2 ^ 53) : ∃ m d : Nat, double.read (fl n) = .number false m (-(d : Int)) ∧ m = n * 2 ^ d ∧ (n ≠ 0 → 2 ^ 52 ≤ m ∧ m < 2 ^ 53 ∧ d ≤ 52) := by
  by_cases h0 : n = 0
  · subst h0
    exact ⟨0, 1074, by rw [fl_zero]; decide, zero_pow 1074, fun h => absurd rfl h⟩
  · have hL : n.log2 < 53 := (Nat.log2_lt h0).2 h
    obtain ⟨b1, b2⟩ := sig_bounds n h0 h
    refine ⟨n * 2 ^ (52 - n.log2), 52 - n.log2, ?_, rfl, fun _ => ⟨b1, b2, by omega⟩⟩
    rw [fl_eq n h0 h, read_word _ _ b1 b2 (by omega)]
    have e : (-1074 + ((n.log2 + 1022 : Nat) : Int)) = -((52 - n.log2 : Nat) : Int) := by omega
    rw [e]

theorem order_fl (a b : Nat) (ha : a < 2 ^ 53) (hb : b < 2 ^ 53) : FloatKind.f64.format.order (fl a) (fl b) = some (compare a b) := by
  obtain ⟨m, d, h1, h2, -⟩ := read_fl a ha
  obtain ⟨m', d', h1', h2', -⟩ := read_fl b hb
  show (double.read (fl a)).order (double.read (fl b)) = _
  rw [h1, h1']
  unfold Datum.order
  simp only [signed, Bool.false_eq_true, if_false, Nat.shiftLeft_eq]
  congr 1
  have e1 : (-(d : Int) - min (-(d : Int)) (-(d' : Int))).toNat = max d d' - d := by omega
  have e2 : (-(d' : Int) - min (-(d : Int)) (-(d' : Int))).toNat = max d d' - d' := by omega
  rw [e1, e2, h2, h2', Nat.mul_assoc, Nat.mul_assoc, ← Nat.pow_add, ← Nat.pow_add]
  have e3 : d + (max d d' - d) = max d d' := by omega
  have e4 : d' + (max d d' - d') = max d d' := by omega
  rw [e3, e4]
  have hp : 0 < 2 ^ max d d' := Nat.two_pow_pos _
  generalize 2 ^ max d d' = K at hp
  simp only [compare, compareOfLessAndEq, Int.ofNat_lt, Int.ofNat_inj]
  have l1 : (a * K < b * K) ↔ a < b := Nat.mul_lt_mul_right hp
  have l2 : (a * K = b * K) ↔ a = b := ⟨fun h => Nat.eq_of_mul_eq_mul_right hp h, fun h => by rw [h]⟩
  simp only [l1, l2]

theorem order_eq (a b : Nat) (ha : a < 2 ^ 53) (hb : b < 2 ^ 53) : (FloatKind.f64.format.order (fl a) (fl b) == some .eq) = decide (a = b) := by
  rw [order_fl a b ha hb]
  by_cases h : a = b
  · subst h; simp [compare, compareOfLessAndEq]
  · by_cases h' : a < b <;> simp [compare, compareOfLessAndEq, h, h']

theorem order_lt (a b : Nat) (ha : a < 2 ^ 53) (hb : b < 2 ^ 53) : (FloatKind.f64.format.order (fl a) (fl b) == some .lt) = decide (a < b) := by
  rw [order_fl a b ha hb]
  by_cases h' : a < b
  · simp [compare, compareOfLessAndEq, h']
  · by_cases h : a = b <;> simp [compare, compareOfLessAndEq, h, h']

theorem order_gt (a b : Nat) (ha : a < 2 ^ 53) (hb : b < 2 ^ 53) : (FloatKind.f64.format.order (fl a) (fl b) == some .gt) = decide (b < a) := by
  rw [order_fl a b ha hb]
  by_cases h' : a < b
  · have : ¬ b < a := by omega
    simp [compare, compareOfLessAndEq, h', this]
  · by_cases h : a = b
    · subst h; simp [compare, compareOfLessAndEq]
    · have : b < a := by omega
      simp [compare, compareOfLessAndEq, h, h', this]

theorem cut_zero (s : Bool) (n d : Nat) (h : n ≠ 0 → 2 ^ 52 ≤ n * 2 ^ d ∧ n * 2 ^ d < 2 ^ 53 ∧ d ≤ 52) : Toward.zero.cut s (n * 2 ^ d) d = n := by
  by_cases h0 : n = 0
  · subst h0; simp [Toward.cut]
  · obtain ⟨h1, h2, h3⟩ := h h0
    have hl : (n * 2 ^ d).log2 = 52 := log2_of _ _ h1 h2
    simp only [Toward.cut, hl]
    have e : min d (52 + 2) = d := by omega
    rw [e, Nat.shiftLeft_eq, Nat.one_mul, Nat.mul_div_cancel _ (Nat.two_pow_pos d)]
    simp

theorem toInt_fl (n : Nat) (h : n < 2 ^ 53) : floatToIntVal .f64 (fl n) .i64 = some (n : Int) := by
  obtain ⟨m, d, h1, h2, h3⟩ := read_fl n h
  unfold floatToIntVal
  have e : (FloatKind.f64.decode (fl n)) = .number false m (-(d : Int)) := h1
  rw [e]
  have e2 : (Datum.number false m (-(d : Int))).toInt .zero = some (n : Int) := by
    unfold Datum.toInt Datum.integral
    have e3 : (-(d : Int)).toNat = 0 := by omega
    have e4 : (- -(d : Int)).toNat = d := by omega
    simp only [e3, e4, Nat.shiftLeft_zero]
    rw [h2, cut_zero false n d (by rw [h2] at h3; exact h3)]
    simp [signed]
  rw [e2]
  have h5 : IntKind.min .i64 ≤ (n : Int) ∧ (n : Int) ≤ IntKind.max .i64 := by
    have : IntKind.min .i64 = -9223372036854775808 := by decide
    have : IntKind.max .i64 = 9223372036854775807 := by decide
    omega
  simp only [h5, and_self, if_true]

theorem nearest_right (m : Nat) (h : 2 ^ 52 ≤ m) (h' : m < 2 ^ 53) (d : Nat) (hd : d ≤ 52) :
    double.nearest false (8 * m) (-(d : Int) - 3) = (1074 - d) * 2 ^ 52 + m := by
  have hl : (8 * m).log2 = 55 := log2_of _ _ (by omega) (by omega)
  unfold Format.nearest
  rw [if_neg (by omega)]
  have hlp : double.leastPlace = -1074 := by decide
  have hfb : (double.fractionBits : Int) = 52 := rfl
  have e1 : max (-(d : Int) - 3 + ((8 * m).log2 : Int) - double.fractionBits) double.leastPlace = -(d : Int) := by
    rw [hlp, hfb, hl]; omega
  simp only [e1]
  rw [hlp]
  have e2 : (-(d : Int) - 3 - -(d : Int)).toNat = 0 := by omega
  have e3 : (-(d : Int) - (-(d : Int) - 3)).toNat = 3 := by omega
  have e4 : (-(d : Int) - -1074).toNat = 1074 - d := by omega
  rw [e2, e3, e4, Nat.shiftLeft_zero, cut_even_three _ m h h']
  have hb : double.binade = 2 ^ 52 := rfl
  have hr : double.infRung = 2047 * 2 ^ 52 := by decide
  rw [hb, hr]
  rw [min_K _ _ _ h' (by omega)]
  rfl

theorem div_one (n : Nat) (h : n < 2 ^ 53) : floatBits .quo .f64 (fl n) (fl 1) = some (fl n) := by
  have r1 : double.read (fl 1) = .number false (2 ^ 52) (-52) := by decide
  show ((double.read (fl n)).quotient (double.fractionBits + 2) (double.read (fl 1))).map double.write = _
  rw [r1]
  obtain ⟨m, d, h1, h2, h3⟩ := read_fl n h
  rw [h1]
  by_cases h0 : n = 0
  · subst h0
    simp only [Nat.zero_mul] at h2
    subst h2
    have hl2 : (2 ^ 52 : Nat).log2 = 52 := log2_of _ _ (by omega) (by omega)
    simp [Datum.quotient, double, hl2, Format.write, Format.nearest, Format.word, fl_zero]
  · obtain ⟨b1, b2, b3⟩ := h3 h0
    have hl2 : (2 ^ 52 : Nat).log2 = 52 := log2_of _ _ (by omega) (by omega)
    have hl : m.log2 = 52 := log2_of _ _ b1 b2
    have hq : Datum.quotient (double.fractionBits + 2) (.number false m (-(d : Int))) (.number false (2 ^ 52) (-52)) = some (.number false (8 * m) (-(d : Int) - 3)) := by
      unfold Datum.quotient
      have ep : ¬ ((2 : Nat) ^ 52 = 0) := by omega
      simp only [ep, if_false, hl2, hl]
      have hfb : double.fractionBits = 52 := rfl
      rw [hfb]
      have e0 : 52 + 2 + 52 - 52 = 54 := by omega
      rw [e0, Nat.shiftLeft_eq]
      have e1 : m * 2 ^ 54 / 2 ^ 52 = 4 * m := by omega
      have e2 : m * 2 ^ 54 % 2 ^ 52 = 0 := by omega
      rw [e1, e2]
      have e3 : 2 * (4 * m) + ((0 : Nat) != 0).toNat = 8 * m := by
        have : ((0 : Nat) != 0).toNat = 0 := by decide
        omega
      rw [e3]
      have e4 : (-(d : Int) - -52 - ((54 : Nat) : Int) - 1) = -(d : Int) - 3 := by omega
      rw [e4]
      rfl
    rw [hq]
    show some (double.nearest false (8 * m) (-(d : Int) - 3)) = _
    rw [nearest_right m b1 b2 d b3, fl_eq n h0 h]
    have hL : n.log2 < 53 := (Nat.log2_lt h0).2 h
    -- the rung again
    have r2 : double.read (fl n) = .number false (n * 2 ^ (52 - n.log2)) (-1074 + ((n.log2 + 1022 : Nat) : Int)) := by
      obtain ⟨c1, c2⟩ := sig_bounds n h0 h
      rw [fl_eq n h0 h, read_word _ _ c1 c2 (by omega)]
    rw [r2] at h1
    obtain ⟨-, g1, g2⟩ := (Datum.number.injEq ..).mp h1
    rw [← g1]
    have : 1074 - d = n.log2 + 1022 := by omega
    rw [this]

end Go.Proofs.YtafdhmpikkfepaaGreatDoor
