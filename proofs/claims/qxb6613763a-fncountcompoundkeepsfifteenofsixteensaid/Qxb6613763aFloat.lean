/-
  Plain facts on binary64: the words of the numbers n/16 (n below 2^53), and that +, -, *15, *16, /16 and the comparisons are exact on them. No program in sight.
-/
import Derived.Laws.FloatArith
namespace Go.Proofs.Qxb6613763a
open Ieee

theorem log2_bounds (n : Nat) (hn : 0 < n) : 2 ^ n.log2 ≤ n ∧ n < 2 ^ (n.log2 + 1) :=
  ⟨Nat.log2_self_le (by omega), Nat.lt_log2_self⟩

theorem log2_unique (n k : Nat) (h1 : 2 ^ k ≤ n) (h2 : n < 2 ^ (k + 1)) : n.log2 = k := by
  have hn : n ≠ 0 := by have := Nat.two_pow_pos k; omega
  have a : k ≤ n.log2 := (Nat.le_log2 hn).2 h1
  have b : n.log2 < k + 1 := (Nat.log2_lt hn).2 h2
  omega

theorem log2_shift (n j : Nat) (hn : 0 < n) : (n * 2 ^ j).log2 = n.log2 + j := by
  obtain ⟨h1, h2⟩ := log2_bounds n hn
  have hp := Nat.two_pow_pos j
  refine log2_unique _ _ ?_ ?_
  · rw [Nat.pow_add]; exact Nat.mul_le_mul_right _ h1
  · rw [show n.log2 + j + 1 = (n.log2 + 1) + j by omega, Nat.pow_add]
    exact Nat.mul_lt_mul_of_pos_right h2 hp

/-- n brought to 53 digits. -/
def full (n : Nat) : Nat := n * 2 ^ (52 - n.log2)

theorem full_bounds (n : Nat) (hn : 0 < n) (hL : n.log2 ≤ 52) : 4503599627370496 ≤ full n ∧ full n < 9007199254740992 := by
  obtain ⟨h1, h2⟩ := log2_bounds n hn
  have hp := Nat.two_pow_pos (52 - n.log2)
  unfold full
  constructor
  · calc 4503599627370496 = 2 ^ n.log2 * 2 ^ (52 - n.log2) := by rw [← Nat.pow_add, show n.log2 + (52 - n.log2) = 52 by omega]
      _ ≤ n * 2 ^ (52 - n.log2) := Nat.mul_le_mul_right _ h1
  · calc n * 2 ^ (52 - n.log2) < 2 ^ (n.log2 + 1) * 2 ^ (52 - n.log2) := Nat.mul_lt_mul_of_pos_right h2 hp
      _ = 9007199254740992 := by rw [← Nat.pow_add, show n.log2 + 1 + (52 - n.log2) = 53 by omega]

theorem least : Ieee.double.leastPlace = -1074 := by decide
theorem binade : Ieee.double.binade = 4503599627370496 := by decide
theorem infR : Ieee.double.infRung = 9218868437227405312 := by decide
theorem signW : Ieee.double.signWeight = 9223372036854775808 := by decide

/-- A normal word, read. -/
theorem read_word (e M : Nat) (h1 : 4503599627370496 ≤ M) (h2 : M < 9007199254740992) (he : e ≤ 2000) :
    Ieee.double.read (e * 4503599627370496 + M) = .number false M ((e : Int) - 1074) := by
  have a1 : (e * 4503599627370496 + M) / 9223372036854775808 % 2 = 0 := by omega
  have a2 : (e * 4503599627370496 + M) % 9223372036854775808 = e * 4503599627370496 + M := by omega
  have a3 : (e * 4503599627370496 + M) % 4503599627370496 = M - 4503599627370496 := by omega
  have a4 : (e * 4503599627370496 + M) / 4503599627370496 = e + 1 := by omega
  unfold Format.read
  simp only [signW, binade, infR, least, a1, a2, a3, a4]
  rw [if_neg (by omega), if_pos (by omega)]
  have a5 : 4503599627370496 + (M - 4503599627370496) = M := by omega
  simp only [a5, Datum.number.injEq]
  refine ⟨by decide, trivial, by omega⟩

theorem cut_exact (q d : Nat) (hq : 0 < q) (neg : Bool) : Toward.even.cut neg (q * 2 ^ d) d = q := by
  have hl := log2_shift q d hq
  have hp := Nat.two_pow_pos d
  have hg : 1 <<< min d ((q * 2 ^ d).log2 + 2) = 2 ^ d := by
    rw [hl, Nat.min_eq_left (by omega), Nat.shiftLeft_eq, Nat.one_mul]
  unfold Toward.cut
  simp only [hg]
  rw [Nat.mul_div_cancel _ hp, Nat.mul_mod_left]
  have e1 : decide (2 ^ d < 2 * 0) = false := decide_eq_false (by omega)
  have e2 : (2 ^ d == 2 * 0) = false := by simp
  rw [e1, e2]
  simp

/-- The word nearest to n * 2^p, however it is written, where n has at most 53 digits: no rounding. -/
theorem near (n j : Nat) (p : Int) (hn : 0 < n) (hL : n.log2 ≤ 52) (hp : -900 ≤ p) (hp2 : p ≤ 900) :
    Ieee.double.nearest false (n * 2 ^ j) (p - j) = ((n.log2 : Int) + p + 1022).toNat * 4503599627370496 + full n := by
  have hm : n * 2 ^ j ≠ 0 := Nat.mul_ne_zero (by omega) (Nat.pos_iff_ne_zero.1 (Nat.two_pow_pos j))
  have hl := log2_shift n j hn
  obtain ⟨f1, f2⟩ := full_bounds n hn hL
  have hlast : max (p - (j : Int) + ((n * 2 ^ j).log2 : Int) - ((52 : Nat) : Int)) (-1074) = p + n.log2 - 52 := by
    rw [hl]; omega
  have hsh : (n * 2 ^ j) <<< (p - (j : Int) - (p + (n.log2 : Int) - 52)).toNat = full n * 2 ^ ((p + (n.log2 : Int) - 52) - (p - (j : Int))).toNat := by
    rw [Nat.shiftLeft_eq]
    unfold full
    rw [Nat.mul_assoc, Nat.mul_assoc, ← Nat.pow_add, ← Nat.pow_add]
    congr 2
    omega
  unfold Format.nearest
  rw [if_neg hm]
  simp only [show Ieee.double.fractionBits = 52 from rfl, least, binade, infR]
  rw [hlast, hsh, cut_exact _ _ (by omega)]
  have h3 : ((p + (n.log2 : Int) - 52) - -1074).toNat = ((n.log2 : Int) + p + 1022).toNat := by omega
  rw [h3, Nat.min_eq_left (by omega)]
  rfl

/-- The word of n / 16. -/
def W (n : Nat) : Nat := Ieee.double.nearest false n (-4)

theorem W_eq (n j : Nat) (hn : 0 < n) (hL : n.log2 ≤ 52) : Ieee.double.nearest false (n * 2 ^ j) (-4 - (j : Int)) = W n := by
  rw [near n j (-4) hn hL (by omega) (by omega)]
  have := near n 0 (-4) hn hL (by omega) (by omega)
  rw [Nat.pow_zero, Nat.mul_one] at this
  exact this.symm

theorem W_word (n : Nat) (hn : 0 < n) (hL : n.log2 ≤ 52) : W n = (n.log2 + 1018) * 4503599627370496 + full n := by
  have := near n 0 (-4) hn hL (by omega) (by omega)
  rw [Nat.pow_zero, Nat.mul_one] at this
  have e : ((n.log2 : Int) + -4 + 1022).toNat = n.log2 + 1018 := by omega
  rw [e] at this
  exact this

theorem W_read (n : Nat) (hn : 0 < n) (hL : n.log2 ≤ 52) : Ieee.double.read (W n) = .number false (full n) ((n.log2 : Int) - 56) := by
  obtain ⟨f1, f2⟩ := full_bounds n hn hL
  rw [W_word n hn hL, read_word _ _ f1 f2 (by omega)]
  simp only [Datum.number.injEq, true_and]
  omega

theorem log2_le (n : Nat) (h : n < 9007199254740992) : n.log2 ≤ 52 := by
  by_cases hn : n = 0
  · subst hn; decide
  · have := (Nat.log2_lt hn (k := 53)).2 (by omega)
    omega

theorem full_shift (n B : Nat) (hB : B ≤ n.log2) (hL : n.log2 ≤ 52) (b : Int) (hb : b = (B : Int) - 56) : full n <<< ((n.log2 : Int) - 56 - b).toNat = n * 2 ^ (52 - B) := by
  subst hb
  rw [Nat.shiftLeft_eq, full, Nat.mul_assoc, ← Nat.pow_add]
  congr 2
  omega

theorem add_W (a b : Nat) (ha : 0 < a) (hb : 0 < b) (hs : a + b < 9007199254740992) : Ieee.double.add (W a) (W b) = some (W (a + b)) := by
  have hLa := log2_le a (by omega)
  have hLb := log2_le b (by omega)
  have hLs := log2_le (a + b) hs
  have hbase : min ((a.log2 : Int) - 56) ((b.log2 : Int) - 56) = ((min a.log2 b.log2 : Nat) : Int) - 56 := by omega
  have e1 := full_shift a (min a.log2 b.log2) (by omega) hLa _ rfl
  have e2 := full_shift b (min a.log2 b.log2) (by omega) hLb _ rfl
  have hp := Nat.two_pow_pos (52 - min a.log2 b.log2)
  unfold Format.add
  rw [W_read a ha hLa, W_read b hb hLb]
  simp only [Datum.sum, signed, hbase, e1, e2, if_neg Bool.false_ne_true]
  have et : ((a * 2 ^ (52 - min a.log2 b.log2) : Nat) : Int) + ((b * 2 ^ (52 - min a.log2 b.log2) : Nat) : Int) = (((a + b) * 2 ^ (52 - min a.log2 b.log2) : Nat) : Int) := by
    rw [Nat.add_mul]; omega
  have hpos : 0 < (a + b) * 2 ^ (52 - min a.log2 b.log2) := Nat.mul_pos (by omega) hp
  rw [et]
  simp only [Int.natAbs_natCast, Option.map_some, Option.some.injEq]
  have hz : ¬ ((((a + b) * 2 ^ (52 - min a.log2 b.log2) : Nat) : Int) = 0) := by omega
  have hn : decide ((((a + b) * 2 ^ (52 - min a.log2 b.log2) : Nat) : Int) < 0) = false := decide_eq_false (by omega)
  rw [if_neg hz, hn]
  show Ieee.double.nearest false _ _ = _
  have := W_eq (a + b) (52 - min a.log2 b.log2) (by omega) hLs
  rw [← this]
  congr 1
  omega

theorem sub_W (a b : Nat) (hb : 0 < b) (hab : b < a) (hs : a < 9007199254740992) : Ieee.double.sub (W a) (W b) = some (W (a - b)) := by
  have hLa := log2_le a (by omega)
  have hLb := log2_le b (by omega)
  have hLs := log2_le (a - b) (by omega)
  have hbase : min ((a.log2 : Int) - 56) ((b.log2 : Int) - 56) = ((min a.log2 b.log2 : Nat) : Int) - 56 := by omega
  have e1 := full_shift a (min a.log2 b.log2) (by omega) hLa _ rfl
  have e2 := full_shift b (min a.log2 b.log2) (by omega) hLb _ rfl
  have hp := Nat.two_pow_pos (52 - min a.log2 b.log2)
  unfold Format.sub
  rw [W_read a (by omega) hLa, W_read b hb hLb]
  simp only [Datum.opposite, Datum.sum, signed, hbase, e1, e2, if_neg Bool.false_ne_true, Bool.not_false, if_true]
  have hle : b * 2 ^ (52 - min a.log2 b.log2) ≤ a * 2 ^ (52 - min a.log2 b.log2) := Nat.mul_le_mul_right _ (by omega)
  have et : ((a * 2 ^ (52 - min a.log2 b.log2) : Nat) : Int) + -((b * 2 ^ (52 - min a.log2 b.log2) : Nat) : Int) = (((a - b) * 2 ^ (52 - min a.log2 b.log2) : Nat) : Int) := by
    rw [Nat.sub_mul]; omega
  have hpos : 0 < (a - b) * 2 ^ (52 - min a.log2 b.log2) := Nat.mul_pos (by omega) hp
  rw [et]
  simp only [Int.natAbs_natCast, Option.map_some, Option.some.injEq]
  have hz : ¬ ((((a - b) * 2 ^ (52 - min a.log2 b.log2) : Nat) : Int) = 0) := by omega
  have hn : decide ((((a - b) * 2 ^ (52 - min a.log2 b.log2) : Nat) : Int) < 0) = false := decide_eq_false (by omega)
  rw [if_neg hz, hn]
  show Ieee.double.nearest false _ _ = _
  have := W_eq (a - b) (52 - min a.log2 b.log2) (by omega) hLs
  rw [← this]
  congr 1
  omega

theorem order_W (a b : Nat) (ha : 0 < a) (hb : 0 < b) (hA : a < 9007199254740992) (hB : b < 9007199254740992) : Ieee.double.order (W a) (W b) = some (compare a b) := by
  have hLa := log2_le a hA
  have hLb := log2_le b hB
  have hbase : min ((a.log2 : Int) - 56) ((b.log2 : Int) - 56) = ((min a.log2 b.log2 : Nat) : Int) - 56 := by omega
  have e1 := full_shift a (min a.log2 b.log2) (by omega) hLa _ rfl
  have e2 := full_shift b (min a.log2 b.log2) (by omega) hLb _ rfl
  have hp := Nat.two_pow_pos (52 - min a.log2 b.log2)
  unfold Format.order
  rw [W_read a ha hLa, W_read b hb hLb]
  simp only [Datum.order, signed, hbase, e1, e2, if_neg Bool.false_ne_true, Option.some.injEq]
  rcases Nat.lt_trichotomy a b with h | h | h
  · have h' := Nat.mul_lt_mul_of_pos_right h hp
    rw [Nat.compare_eq_lt.2 h]
    exact Int.compare_eq_lt.2 (by omega)
  · subst h
    simp
  · have h' := Nat.mul_lt_mul_of_pos_right h hp
    rw [Nat.compare_eq_gt.2 h]
    exact Int.compare_eq_gt.2 (by omega)

/-! ### The constants 1, 15, 16, 2^30 -/
theorem read15 : Ieee.double.read 4624633867356078080 = .number false 8444249301319680 (-49) := by decide
theorem read16 : Ieee.double.read 4625196817309499392 = .number false 4503599627370496 (-48) := by decide
theorem read1 : Ieee.double.read 4607182418800017408 = .number false 4503599627370496 (-52) := by decide
theorem readBig : Ieee.double.read 4742290407621132288 = .number false 4503599627370496 (-22) := by decide
theorem W16 : W 16 = 4607182418800017408 := by decide
theorem W240 : W 240 = 4624633867356078080 := by decide
theorem W256 : W 256 = 4625196817309499392 := by decide

theorem full_mul (a c t : Nat) (hL : a.log2 ≤ 52) : full a * (c * 2 ^ t) = (c * a) * 2 ^ (52 + t - a.log2) := by
  unfold full
  calc a * 2 ^ (52 - a.log2) * (c * 2 ^ t) = (c * a) * (2 ^ (52 - a.log2) * 2 ^ t) := by
        rw [Nat.mul_comm a, Nat.mul_assoc, Nat.mul_comm c a, Nat.mul_assoc, Nat.mul_left_comm a, ← Nat.mul_assoc, ← Nat.mul_assoc, ← Nat.mul_assoc]
        ac_rfl
    _ = (c * a) * 2 ^ (52 + t - a.log2) := by rw [← Nat.pow_add]; congr 2; omega

theorem mul15 (a : Nat) (ha : 0 < a) (hs : 15 * a < 9007199254740992) : Ieee.double.mul (W a) 4624633867356078080 = some (W (15 * a)) := by
  have hLa := log2_le a (by omega)
  have hLs := log2_le (15 * a) hs
  unfold Format.mul
  rw [W_read a ha hLa, read15]
  simp only [Datum.product, Option.map_some, Option.some.injEq]
  show Ieee.double.nearest false _ _ = _
  rw [show (8444249301319680 : Nat) = 15 * 2 ^ 49 by decide, full_mul a 15 49 hLa, ← W_eq (15 * a) (52 + 49 - a.log2) (by omega) hLs]
  congr 1
  omega
theorem mul15' (a : Nat) (ha : 0 < a) (hs : 15 * a < 9007199254740992) : Ieee.double.mul 4624633867356078080 (W a) = some (W (15 * a)) := by
  have hLa := log2_le a (by omega)
  have hLs := log2_le (15 * a) hs
  unfold Format.mul
  rw [W_read a ha hLa, read15]
  simp only [Datum.product, Option.map_some, Option.some.injEq]
  show Ieee.double.nearest false _ _ = _
  rw [Nat.mul_comm, show (8444249301319680 : Nat) = 15 * 2 ^ 49 by decide, full_mul a 15 49 hLa, ← W_eq (15 * a) (52 + 49 - a.log2) (by omega) hLs]
  congr 1
  omega
theorem mul16' (a : Nat) (ha : 0 < a) (hs : 16 * a < 9007199254740992) : Ieee.double.mul 4625196817309499392 (W a) = some (W (16 * a)) := by
  have hLa := log2_le a (by omega)
  have hLs := log2_le (16 * a) hs
  unfold Format.mul
  rw [W_read a ha hLa, read16]
  simp only [Datum.product, Option.map_some, Option.some.injEq]
  show Ieee.double.nearest false _ _ = _
  rw [Nat.mul_comm, show (4503599627370496 : Nat) = 16 * 2 ^ 48 by decide, full_mul a 16 48 hLa, ← W_eq (16 * a) (52 + 48 - a.log2) (by omega) hLs]
  congr 1
  omega

theorem log2_full (n : Nat) (hn : 0 < n) (hL : n.log2 ≤ 52) : (full n).log2 = 52 := by
  obtain ⟨f1, f2⟩ := full_bounds n hn hL
  exact log2_unique _ _ (by omega) (by omega)

theorem quot_exact (m d : Nat) (hd : d = 4 * m * 4503599627370496) : 2 * (d / 4503599627370496) + (d % 4503599627370496 != 0).toNat = 8 * m := by
  have h1 : d / 4503599627370496 = 4 * m := by omega
  have h2 : d % 4503599627370496 = 0 := by omega
  rw [h1, h2]
  have h3 : ((0 : Nat) != 0).toNat = 0 := rfl
  rw [h3]
  omega

theorem eight_full (a : Nat) (hL : (16 * a).log2 ≤ 52) : 8 * full (16 * a) = a * 2 ^ (59 - (16 * a).log2) := by
  have : 59 - (16 * a).log2 = 52 - (16 * a).log2 + 7 := by omega
  rw [this, Nat.pow_add]
  unfold full
  generalize 2 ^ (52 - (16 * a).log2) = t
  rw [show (2 : Nat) ^ 7 = 8 * 16 from rfl]
  ac_rfl

theorem div16 (a : Nat) (ha : 0 < a) (hs : 16 * a < 9007199254740992) : Ieee.double.div (W (16 * a)) 4625196817309499392 = some (W a) := by
  have hLa := log2_le a (by omega)
  have hLs := log2_le (16 * a) hs
  have hl : (16 * a).log2 = a.log2 + 4 := by rw [Nat.mul_comm]; exact log2_shift a 4 ha
  have hlf := log2_full (16 * a) (by omega) hLs
  have e0 : full (16 * a) <<< 54 = 4 * full (16 * a) * 4503599627370496 := by
    rw [Nat.shiftLeft_eq]; omega
  have e1 := quot_exact (full (16 * a)) _ e0
  have e8 := eight_full a hLs
  have hn0 : ¬ (4503599627370496 : Nat) = 0 := by omega
  have hlb : Nat.log2 4503599627370496 = 52 := by decide
  have hm : 54 + 52 - 52 = 54 := rfl
  have hpl : ((16 * a).log2 : Int) - 56 - -48 - ((54 : Nat) : Int) - 1 = -4 - ((59 - (16 * a).log2 : Nat) : Int) := by omega
  unfold Format.div
  rw [W_read (16 * a) (by omega) hLs, read16]
  unfold Datum.quotient
  simp only [hn0, if_false, hlf, hlb, show Ieee.double.fractionBits + 2 = 54 from rfl, hm, e1, Option.map_some, Option.some.injEq]
  show Ieee.double.nearest false _ _ = _
  rw [e8, hpl]
  exact W_eq a (59 - (16 * a).log2) ha hLa

theorem ofInt_W (N : Nat) (hN : 0 < N) (hs : 16 * N < 9007199254740992) : floatOfInt .f64 (N : Int) = W (16 * N) := by
  have hL := log2_le N (by omega)
  have h0 := near N 0 0 hN hL (by omega) (by omega)
  have h4 := near N 4 0 hN hL (by omega) (by omega)
  unfold floatOfInt FloatKind.nearest FloatKind.encode Format.write
  have e : decide ((N : Int) < 0) = false := decide_eq_false (by omega)
  simp only [e, Int.natAbs_natCast]
  show Ieee.double.nearest false N 0 = _
  unfold W
  rw [Nat.pow_zero, Nat.mul_one] at h0
  have e2 : (0 : Int) - ((0 : Nat) : Int) = 0 := by omega
  have e4 : (0 : Int) - ((4 : Nat) : Int) = -4 := by omega
  rw [e2] at h0
  rw [e4, show N * 2 ^ 4 = 16 * N by omega] at h4
  rw [h0, h4]

end Go.Proofs.Qxb6613763a
