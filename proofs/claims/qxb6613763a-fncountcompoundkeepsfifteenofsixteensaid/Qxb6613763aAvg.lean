/-
  A float64 from 1 to 2^30: what int64 of it is; and if it is whole it is the word of that whole number.
-/
import Derived.Test.Qxb6613763aFloat
namespace Go.Proofs.Qxb6613763a
open Ieee

theorem compare_lt_of {x y : Int} (h : x < y) : compare x y = .lt := Int.compare_eq_lt.2 h
theorem compare_gt_of {x y : Int} (h : y < x) : compare x y = .gt := Int.compare_eq_gt.2 h

theorem order_neg (m : Nat) (i : Int) : Datum.order (.number true m i) (.number false 4503599627370496 (-52)) = some .lt := by
  simp only [Datum.order, Option.some.injEq]
  refine compare_lt_of ?_
  have hp := Nat.two_pow_pos (-52 - min i (-52)).toNat
  have h0 : 0 < 4503599627370496 <<< (-52 - min i (-52)).toNat := by
    rw [Nat.shiftLeft_eq]; exact Nat.mul_pos (by omega) hp
  unfold signed
  rw [if_pos rfl, if_neg Bool.false_ne_true]
  generalize 4503599627370496 <<< (-52 - min i (-52)).toNat = u at h0 ⊢
  generalize m <<< (i - min i (-52)).toNat = v
  omega

theorem order_small (m : Nat) (i : Int) (hm : m < 9007199254740992) (hi : i < -52) : Datum.order (.number false m i) (.number false 4503599627370496 (-52)) = some .lt := by
  simp only [Datum.order, Option.some.injEq]
  refine compare_lt_of ?_
  rw [Int.min_eq_left (by omega)]
  obtain ⟨t, ht⟩ : ∃ t : Nat, (-52 - i).toNat = t + 1 := ⟨(-52 - i).toNat - 1, by omega⟩
  have hp := Nat.two_pow_pos t
  have h0 : 9007199254740992 ≤ 4503599627370496 <<< (t + 1) := by
    rw [Nat.shiftLeft_eq, Nat.pow_succ]
    generalize 2 ^ t = u at hp ⊢
    omega
  unfold signed
  rw [if_neg Bool.false_ne_true, if_neg Bool.false_ne_true, ht, Int.sub_self]
  generalize 4503599627370496 <<< (t + 1) = u at h0 ⊢
  show ((m <<< 0 : Nat) : Int) < _
  rw [Nat.shiftLeft_zero]
  omega

theorem order_large (m : Nat) (i : Int) (hm : 4503599627370496 ≤ m) (hi : -22 < i) : Datum.order (.number false m i) (.number false 4503599627370496 (-22)) = some .gt := by
  simp only [Datum.order, Option.some.injEq]
  refine compare_gt_of ?_
  rw [Int.min_eq_right (by omega)]
  obtain ⟨t, ht⟩ : ∃ t : Nat, (i - -22).toNat = t + 1 := ⟨(i - -22).toNat - 1, by omega⟩
  have hp := Nat.two_pow_pos t
  have h0 : m * 2 ≤ m <<< (t + 1) := by
    rw [Nat.shiftLeft_eq, Nat.pow_succ, Nat.mul_comm (2 ^ t) 2, ← Nat.mul_assoc]
    exact Nat.le_mul_of_pos_right _ hp
  unfold signed
  rw [if_neg Bool.false_ne_true, if_neg Bool.false_ne_true, ht, Int.sub_self]
  generalize m <<< (t + 1) = u at h0 ⊢
  show ((4503599627370496 <<< 0 : Nat) : Int) < _
  rw [Nat.shiftLeft_zero]
  omega

/-- Not below 1, not above 2^30: a normal word with a place from -52 to -22. -/
theorem avg_form (x : Nat) (hx : x < 18446744073709551616) (h1 : Ieee.double.order x 4607182418800017408 = some .gt ∨ Ieee.double.order x 4607182418800017408 = some .eq)
    (h2 : Ieee.double.order x 4742290407621132288 = some .lt ∨ Ieee.double.order x 4742290407621132288 = some .eq) :
    ∃ m d : Nat, 4503599627370496 ≤ m ∧ m < 9007199254740992 ∧ 22 ≤ d ∧ d ≤ 52 ∧ x = (1074 - d) * 4503599627370496 + m := by
  unfold Format.order at h1 h2
  rw [read1] at h1
  rw [readBig] at h2
  unfold Format.read at h1 h2
  simp only [signW, binade, infR, least] at h1 h2
  by_cases c1 : x % 9223372036854775808 < 4503599627370496
  · rw [if_pos c1] at h1
    exfalso
    cases hs : (x / 9223372036854775808 % 2 == 1)
    · rw [hs, order_small _ _ (by omega) (by omega)] at h1
      simp at h1
    · rw [hs, order_neg] at h1
      simp at h1
  rw [if_neg c1] at h1 h2
  by_cases c2 : x % 9223372036854775808 < 9218868437227405312
  · rw [if_pos c2] at h1 h2
    cases hs : (x / 9223372036854775808 % 2 == 1)
    · rw [hs] at h1 h2
      have hx0 : x / 9223372036854775808 % 2 = 0 := by
        have : ¬ x / 9223372036854775808 % 2 = 1 := by simpa using hs
        omega
      have hx1 : x % 9223372036854775808 = x := by omega
      rw [hx1] at h1 h2 c1 c2
      by_cases b1 : (-1074 + ((x / 4503599627370496 - 1 : Nat) : Int)) < -52
      · rw [order_small _ _ (by omega) b1] at h1
        simp at h1
      · by_cases b2 : -22 < (-1074 + ((x / 4503599627370496 - 1 : Nat) : Int))
        · rw [order_large _ _ (by omega) b2] at h2
          simp at h2
        · refine ⟨4503599627370496 + x % 4503599627370496, 1075 - x / 4503599627370496, by omega, by omega, by omega, by omega, by omega⟩
    · rw [hs, order_neg] at h1
      simp at h1
  rw [if_neg c2] at h1 h2
  exfalso
  by_cases c3 : x % 9223372036854775808 = 9218868437227405312
  · rw [if_pos c3] at h1 h2
    simp only [Datum.order] at h1 h2
    cases hs : (x / 9223372036854775808 % 2 == 1) <;> simp [hs] at h1 h2
  · rw [if_neg c3] at h1
    simp [Datum.order] at h1

theorem avg_read (m d : Nat) (h1 : 4503599627370496 ≤ m) (h2 : m < 9007199254740992) (hd : d ≤ 52) : Ieee.double.read ((1074 - d) * 4503599627370496 + m) = .number false m (-(d : Int)) := by
  rw [read_word _ _ h1 h2 (by omega)]
  simp only [Datum.number.injEq, true_and]
  omega

theorem log2_quot (m d : Nat) (h1 : 4503599627370496 ≤ m) (h2 : m < 9007199254740992) (hd : d ≤ 52) : 0 < m / 2 ^ d ∧ (m / 2 ^ d).log2 = 52 - d := by
  have hp := Nat.two_pow_pos d
  have e1 : 2 ^ (52 - d) * 2 ^ d = 4503599627370496 := by rw [← Nat.pow_add, show 52 - d + d = 52 by omega]
  have e2 : 2 ^ (52 - d + 1) * 2 ^ d = 9007199254740992 := by rw [← Nat.pow_add, show 52 - d + 1 + d = 53 by omega]
  have g1 : 2 ^ (52 - d) ≤ m / 2 ^ d := (Nat.le_div_iff_mul_le hp).2 (by omega)
  have g2 : m / 2 ^ d < 2 ^ (52 - d + 1) := (Nat.div_lt_iff_lt_mul hp).2 (by omega)
  have g0 := Nat.two_pow_pos (52 - d)
  exact ⟨by omega, log2_unique _ _ g1 g2⟩

theorem quot_bound (m d : Nat) (h2 : m < 9007199254740992) (hd : 22 ≤ d) : m / 2 ^ d < 2147483648 := by
  have hp := Nat.two_pow_pos d
  have h22 : 2 ^ 22 ≤ 2 ^ d := Nat.pow_le_pow_right (by decide) hd
  refine (Nat.div_lt_iff_lt_mul hp).2 ?_
  generalize 2 ^ d = u at h22 ⊢
  omega

theorem cut_zero (m d : Nat) (hlog : m.log2 = 52) (hd : d ≤ 52) : Toward.zero.cut false m d = m / 2 ^ d := by
  have hg : 1 <<< min d (m.log2 + 2) = 2 ^ d := by rw [hlog, Nat.min_eq_left (by omega), Nat.shiftLeft_eq, Nat.one_mul]
  unfold Toward.cut
  simp only [hg, Bool.toNat_false, Nat.add_zero]

theorem decode_double (x : Nat) : FloatKind.f64.decode x = Ieee.double.read x := rfl

theorem toInt_zero (m d : Nat) (hlog : m.log2 = 52) (hd : d ≤ 52) : (Datum.number false m (-(d : Int))).toInt .zero = some ((m / 2 ^ d : Nat) : Int) := by
  have hcut := cut_zero m d hlog hd
  have e1 : (-(d : Int)).toNat = 0 := by omega
  have e2 : (- -(d : Int)).toNat = d := by omega
  unfold Datum.toInt Datum.integral
  simp only [e1, e2, Nat.shiftLeft_zero, hcut, signed, if_neg Bool.false_ne_true]

theorem i64_min : IntKind.i64.min = -9223372036854775808 := by decide
theorem i64_max : IntKind.i64.max = 9223372036854775807 := by decide
theorem range64 (N : Nat) (hb : N < 2147483648) : IntKind.i64.min ≤ (N : Int) ∧ (N : Int) ≤ IntKind.i64.max := by
  have h1 := i64_min
  have h2 := i64_max
  omega
theorem toIntVal_of (x : Nat) (N : Int) (h : (FloatKind.f64.decode x).toInt .zero = some N) (hb : IntKind.i64.min ≤ N ∧ N ≤ IntKind.i64.max) : floatToIntVal .f64 x .i64 = some N := by
  unfold floatToIntVal
  rw [h]
  simp only
  rw [if_pos hb]

theorem avg_int (x m d : Nat) (hx : x = (1074 - d) * 4503599627370496 + m) (h1 : 4503599627370496 ≤ m) (h2 : m < 9007199254740992) (hd0 : 22 ≤ d) (hd : d ≤ 52) : floatToIntVal .f64 x .i64 = some ((m / 2 ^ d : Nat) : Int) := by
  have hread := avg_read m d h1 h2 hd
  rw [← hx] at hread
  have hlog : m.log2 = 52 := log2_unique _ _ (by omega) (by omega)
  have hto := toInt_zero m d hlog hd
  rw [← hread] at hto
  exact toIntVal_of x _ hto (range64 _ (quot_bound m d h2 hd0))

/-- If it is whole it is the word of that whole number. -/
theorem avg_whole (m d : Nat) (h1 : 4503599627370496 ≤ m) (h2 : m < 9007199254740992) (hd0 : 22 ≤ d) (hd : d ≤ 52)
    (h : Ieee.double.order ((1074 - d) * 4503599627370496 + m) (W (16 * (m / 2 ^ d))) = some .eq) : (1074 - d) * 4503599627370496 + m = W (16 * (m / 2 ^ d)) := by
  obtain ⟨hN, hL⟩ := log2_quot m d h1 h2 hd
  have hb := quot_bound m d h2 hd0
  have hL16 : (16 * (m / 2 ^ d)).log2 = 56 - d := by
    rw [Nat.mul_comm, show (16 : Nat) = 2 ^ 4 from rfl, log2_shift _ 4 hN, hL]; omega
  have hfull : full (16 * (m / 2 ^ d)) = m / 2 ^ d * 2 ^ d := by
    unfold full
    rw [hL16, Nat.mul_comm 16, Nat.mul_assoc, show (16 : Nat) * 2 ^ (52 - (56 - d)) = 2 ^ d by
      rw [show (16 : Nat) = 2 ^ 4 from rfl, ← Nat.pow_add]; congr 1; omega]
  have hword := W_word (16 * (m / 2 ^ d)) (by omega) (by omega)
  have hread := W_read (16 * (m / 2 ^ d)) (by omega) (by omega)
  unfold Format.order at h
  rw [hread, avg_read m d h1 h2 hd, hL16, hfull] at h
  simp only [Datum.order, Option.some.injEq] at h
  have hbase : min (-(d : Int)) (((56 - d : Nat) : Int) - 56) = -(d : Int) := by omega
  have hz1 : (-(d : Int) - -(d : Int)).toNat = 0 := by omega
  have hz2 : (((56 - d : Nat) : Int) - 56 - -(d : Int)).toNat = 0 := by omega
  rw [hbase, hz1, hz2] at h
  simp only [signed, if_neg Bool.false_ne_true, Nat.shiftLeft_zero] at h
  have hm : (m : Int) = ((m / 2 ^ d * 2 ^ d : Nat) : Int) := Int.compare_eq_eq.1 h
  rw [hword, hL16, hfull]
  generalize m / 2 ^ d * 2 ^ d = t at hm
  omega

theorem avg_cases (x : Nat) (hx : x < 18446744073709551616) (h1 : Ieee.double.order x 4607182418800017408 = some .gt ∨ Ieee.double.order x 4607182418800017408 = some .eq)
    (h2 : Ieee.double.order x 4742290407621132288 = some .lt ∨ Ieee.double.order x 4742290407621132288 = some .eq) :
    ∃ N : Nat, 0 < N ∧ N < 2147483648 ∧ floatToIntVal .f64 x .i64 = some (N : Int) ∧ (Ieee.double.order x (W (16 * N)) = some .eq → x = W (16 * N)) := by
  obtain ⟨m, d, hm1, hm2, hd0, hd, rfl⟩ := avg_form x hx h1 h2
  exact ⟨m / 2 ^ d, (log2_quot m d hm1 hm2 hd).1, quot_bound m d hm2 hd0, avg_int _ m d rfl hm1 hm2 hd0 hd, avg_whole m d hm1 hm2 hd0 hd⟩

end Go.Proofs.Qxb6613763a
