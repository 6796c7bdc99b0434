/- The plain law on floats: for 1 ≤ B and k·B < 2^53 the quotient of float64(k·B) by float64(B) is float64(k), to the bit. -/
import Derived.Laws.FloatArith
namespace Go.Proofs.Qxb6000059a
set_option linter.unusedVariables false
set_option linter.unusedSimpArgs false
open Ieee

theorem fmtD : FloatKind.f64.format = Ieee.double := rfl
theorem least : Ieee.double.leastPlace = -1074 := by decide
theorem binade : Ieee.double.binade = 4503599627370496 := by decide
theorem infR : Ieee.double.infRung = 9218868437227405312 := by decide
theorem signW : Ieee.double.signWeight = 9223372036854775808 := by decide

theorem log2_mul_pow (m s : Nat) (h : m ≠ 0) : (m * 2 ^ s).log2 = m.log2 + s := by
  have hp : m * 2 ^ s ≠ 0 := by
    have := Nat.mul_pos (Nat.pos_of_ne_zero h) (Nat.two_pow_pos s)
    omega
  rw [Nat.log2_eq_iff hp]
  constructor
  · rw [Nat.pow_add]; exact Nat.mul_le_mul_right _ (Nat.log2_self_le h)
  · rw [show m.log2 + s + 1 = (m.log2 + 1) + s by omega, Nat.pow_add]
    exact Nat.mul_lt_mul_of_pos_right Nat.lt_log2_self (Nat.two_pow_pos s)

theorem nearest_zero (p : Int) : Ieee.double.nearest false 0 p = 0 := by
  unfold Format.nearest
  rw [if_pos rfl]
  rfl

theorem rung_bound (a K : Nat) (h1 : a ≤ 1990) (h2 : K < 9007199254740992) : a * 4503599627370496 + K ≤ 9218868437227405312 := by omega

theorem cut_exact (q e : Nat) (h : 1 ≤ q) : Toward.even.cut false (q * 2 ^ e) e = q := by
  have hpos : 0 < q * 2 ^ e := Nat.mul_pos h (Nat.two_pow_pos e)
  have hmin : min e ((q * 2 ^ e).log2 + 2) = e := by
    apply Nat.min_eq_left
    have : e ≤ (q * 2 ^ e).log2 := by
      rw [Nat.le_log2 (by omega)]
      exact Nat.le_mul_of_pos_left _ h
    omega
  unfold Toward.cut
  simp only [hmin, Nat.one_shiftLeft, Nat.mul_mod_left, Nat.mul_zero, Nat.mul_div_cancel _ (Nat.two_pow_pos e)]
  have : ((2 ^ e : Nat) == 0) = false := by
    have := Nat.two_pow_pos e
    simp
  simp [this]

/-- A number of at most 53 digits is written without loss: the word is its binade and its digits. -/
theorem nearest_exact (m s : Nat) (p : Int) (h1 : 1 ≤ m) (h2 : m < 2 ^ 53) (hp : -1000 ≤ p + s) (hp2 : p + s ≤ 900) :
    Ieee.double.nearest false (m * 2 ^ s) p = (p + s + m.log2 + 1022).toNat * 4503599627370496 + m * 2 ^ (52 - m.log2) := by
  have hm0 : m ≠ 0 := by omega
  have hL : m.log2 ≤ 52 := by
    have : m.log2 < 53 := (Nat.log2_lt hm0).2 h2
    omega
  have hpos : m * 2 ^ s ≠ 0 := by
    have := Nat.mul_pos (show 0 < m by omega) (Nat.two_pow_pos s)
    omega
  have hlog : (m * 2 ^ s).log2 = m.log2 + s := log2_mul_pow m s hm0
  have hK : m * 2 ^ (52 - m.log2) < 2 ^ 53 := by
    have h := Nat.lt_log2_self (n := m)
    calc m * 2 ^ (52 - m.log2) < 2 ^ (m.log2 + 1) * 2 ^ (52 - m.log2) := Nat.mul_lt_mul_of_pos_right h (Nat.two_pow_pos _)
      _ = 2 ^ 53 := by rw [← Nat.pow_add]; congr 1; omega
  unfold Format.nearest
  rw [if_neg hpos]
  have hlast : max (p + ((m * 2 ^ s).log2 : Int) - (Ieee.double.fractionBits : Int)) Ieee.double.leastPlace = p + s + m.log2 - 52 := by
    rw [hlog, least]
    show max (p + ((m.log2 + s : Nat) : Int) - 52) (-1074) = _
    omega
  simp only [hlast]
  have hcut : Toward.even.cut false ((m * 2 ^ s) <<< (p - (p + s + m.log2 - 52)).toNat) ((p + s + m.log2 - 52) - p).toNat = m * 2 ^ (52 - m.log2) := by
    rw [Nat.shiftLeft_eq]
    have hq : 1 ≤ m * 2 ^ (52 - m.log2) := Nat.mul_pos (show 0 < m by omega) (Nat.two_pow_pos _)
    by_cases hc : s + m.log2 ≤ 52
    · have e1 : (p - (p + s + m.log2 - 52)).toNat = 52 - m.log2 - s := by omega
      have e2 : ((p + s + m.log2 - 52) - p).toNat = 0 := by omega
      rw [e1, e2]
      have := cut_exact (m * 2 ^ (52 - m.log2)) 0 hq
      rw [Nat.pow_zero, Nat.mul_one] at this
      rw [Nat.mul_assoc, ← Nat.pow_add]
      rw [show s + (52 - m.log2 - s) = 52 - m.log2 by omega]
      exact this
    · have e1 : (p - (p + s + m.log2 - 52)).toNat = 0 := by omega
      have e2 : ((p + s + m.log2 - 52) - p).toNat = s + m.log2 - 52 := by omega
      rw [e1, e2]
      have := cut_exact (m * 2 ^ (52 - m.log2)) (s + m.log2 - 52) hq
      rw [Nat.pow_zero, Nat.mul_one]
      rw [Nat.mul_assoc, ← Nat.pow_add] at this
      rw [show 52 - m.log2 + (s + m.log2 - 52) = s by omega] at this
      exact this
  rw [hcut, binade, infR, least]
  show Ieee.double.word false _ = _
  unfold Format.word
  simp only [Bool.false_eq_true, if_false]
  have e : (p + s + m.log2 - 52 - (-1074)).toNat = (p + s + m.log2 + 1022).toNat := by omega
  rw [e]
  apply Nat.min_eq_left
  have h3 : (p + s + m.log2 + 1022).toNat ≤ 1990 := by omega
  exact rung_bound _ _ h3 (Nat.lt_of_lt_of_eq hK (by decide))

theorem floatOfInt_nat (n : Nat) : floatOfInt .f64 (n : Int) = Ieee.double.nearest false n 0 := by
  show FloatKind.f64.nearest (n : Int) = _
  unfold FloatKind.nearest
  have : decide ((n : Int) < 0) = false := by simp
  simp [FloatKind.encode, Format.write, fmtD, this]

/-- The word of n reads as n's digits moved to the top. -/
theorem read_ofNat (n : Nat) (h1 : 1 ≤ n) (h2 : n < 2 ^ 53) : Ieee.double.read (Ieee.double.nearest false n 0) = .number false (n * 2 ^ (52 - n.log2)) ((n.log2 : Int) - 52) := by
  have hn := nearest_exact n 0 0 h1 h2 (by omega) (by omega)
  rw [Nat.pow_zero, Nat.mul_one] at hn
  have hm0 : n ≠ 0 := by omega
  have hL : n.log2 ≤ 52 := by
    have : n.log2 < 53 := (Nat.log2_lt hm0).2 h2
    omega
  have hK : n * 2 ^ (52 - n.log2) < 9007199254740992 := by
    have h := Nat.lt_log2_self (n := n)
    calc n * 2 ^ (52 - n.log2) < 2 ^ (n.log2 + 1) * 2 ^ (52 - n.log2) := Nat.mul_lt_mul_of_pos_right h (Nat.two_pow_pos _)
      _ = 2 ^ 53 := by rw [← Nat.pow_add]; congr 1; omega
      _ = 9007199254740992 := by decide
  have hK2 : 4503599627370496 ≤ n * 2 ^ (52 - n.log2) := by
    have h := Nat.log2_self_le hm0
    calc 4503599627370496 = 2 ^ 52 := by decide
      _ = 2 ^ n.log2 * 2 ^ (52 - n.log2) := by rw [← Nat.pow_add]; congr 1; omega
      _ ≤ n * 2 ^ (52 - n.log2) := Nat.mul_le_mul_right _ h
  rw [hn]
  generalize hk : n * 2 ^ (52 - n.log2) = K at hK hK2
  have e : ((0 : Int) + (0 : Nat) + n.log2 + 1022).toNat = n.log2 + 1022 := by omega
  rw [e]
  unfold Format.read
  rw [signW, binade, infR, least]
  have hw : ((n.log2 + 1022) * 4503599627370496 + K) < 9218868437227405312 := by omega
  have hd : ((n.log2 + 1022) * 4503599627370496 + K) / 9223372036854775808 = 0 := by omega
  have hmo : ((n.log2 + 1022) * 4503599627370496 + K) % 9223372036854775808 = (n.log2 + 1022) * 4503599627370496 + K := by omega
  simp only [hd, hmo]
  rw [if_neg (by omega), if_pos hw]
  congr 1
  · omega
  · omega

theorem quotient_exact (M N q : Nat) (i j : Int) (hM : M.log2 = 52) (hN : N.log2 = 52) (h0 : N ≠ 0) (h : M * 2 ^ 54 = q * N) :
    Datum.quotient 54 (.number false M i) (.number false N j) = some (.number false (2 * q) (i - j - (54 : Nat) - 1)) := by
  unfold Datum.quotient
  have e : 54 + N.log2 - M.log2 = 54 := by omega
  simp only [h0, if_false, e, Nat.shiftLeft_eq, h, Nat.mul_div_cancel _ (Nat.pos_of_ne_zero h0), Nat.mul_mod_left, Bool.xor_self]
  rfl

theorem quotient_zero (M N : Nat) (i j : Int) (h0 : N ≠ 0) (hM : M = 0) : ∃ p, Datum.quotient 54 (.number false M i) (.number false N j) = some (.number false 0 p) := by
  subst hM
  unfold Datum.quotient
  simp only [h0, if_false, Nat.zero_shiftLeft, Nat.zero_div, Nat.zero_mod, Bool.xor_self]
  exact ⟨_, rfl⟩

theorem div_of (x y : Nat) (a b : Datum) (hx : Ieee.double.read x = a) (hy : Ieee.double.read y = b) (s : Bool) (m : Nat) (p : Int) (h : Datum.quotient 54 a b = some (.number s m p)) :
    floatBits .quo .f64 x y = some (Ieee.double.nearest s m p) := by
  show Ieee.double.div x y = _
  unfold Format.div
  rw [hx, hy]
  have : Ieee.double.fractionBits + 2 = 54 := rfl
  rw [this, h]
  rfl

theorem shift_eq (k B LA LB : Nat) (h1 : LA ≤ 52) (h2 : LB ≤ 52) (h3 : LA ≤ 54 + LB) : k * B * 2 ^ (52 - LA) * 2 ^ 54 = (k * 2 ^ (54 + LB - LA)) * (B * 2 ^ (52 - LB)) := by
  have e1 : k * B * 2 ^ (52 - LA) * 2 ^ 54 = k * B * 2 ^ (52 - LA + 54) := by rw [Nat.mul_assoc, ← Nat.pow_add]
  have e2 : k * 2 ^ (54 + LB - LA) * (B * 2 ^ (52 - LB)) = k * B * 2 ^ (54 + LB - LA + (52 - LB)) := by rw [Nat.pow_add]; ac_rfl
  rw [e1, e2, show 52 - LA + 54 = 54 + LB - LA + (52 - LB) by omega]

theorem log_le (k B : Nat) (hk : 1 ≤ k) (hk2 : k ≤ 32) (hB : 1 ≤ B) : (k * B).log2 ≤ B.log2 + 6 := by
  have hA0 : k * B ≠ 0 := by have := Nat.mul_pos hk hB; omega
  have h : k * B < 2 ^ (B.log2 + 6) := by
    have h := Nat.lt_log2_self (n := B)
    have h2 : 2 ^ (B.log2 + 6) = 32 * 2 ^ (B.log2 + 1) := by rw [show B.log2 + 6 = 5 + (B.log2 + 1) by omega, Nat.pow_add 2 5]
    have h3 : k * B ≤ 32 * B := Nat.mul_le_mul_right _ hk2
    omega
  have := (Nat.log2_lt hA0).2 h
  omega

theorem log52 (n : Nat) (h0 : n ≠ 0) (h : n < 2 ^ 53) : n.log2 ≤ 52 := by
  have : n.log2 < 53 := (Nat.log2_lt h0).2 h
  omega

theorem div_exact (k B : Nat) (hk : 1 ≤ k) (hk2 : k ≤ 32) (hB : 1 ≤ B) (hKB : k * B < 2 ^ 53) :
    floatBits .quo .f64 (floatOfInt .f64 ((k * B : Nat) : Int)) (floatOfInt .f64 (B : Int)) = some (floatOfInt .f64 (k : Int)) := by
  have hA1 : 1 ≤ k * B := Nat.mul_pos hk hB
  have hB2 : B < 2 ^ 53 := Nat.lt_of_le_of_lt (Nat.le_mul_of_pos_left _ hk) hKB
  have hA0 : k * B ≠ 0 := Nat.ne_of_gt hA1
  have hB0 : B ≠ 0 := Nat.ne_of_gt hB
  have hLA := log52 _ hA0 hKB
  have hLB := log52 _ hB0 hB2
  have hLle := log_le k B hk hk2 hB
  have lA : (k * B * 2 ^ (52 - (k * B).log2)).log2 = 52 := by rw [log2_mul_pow _ _ hA0]; omega
  have lB : (B * 2 ^ (52 - B.log2)).log2 = 52 := by rw [log2_mul_pow _ _ hB0]; omega
  have hne : B * 2 ^ (52 - B.log2) ≠ 0 := Nat.ne_of_gt (Nat.mul_pos hB (Nat.two_pow_pos _))
  have hsh := shift_eq k B (k * B).log2 B.log2 hLA hLB (by omega)
  have hq := quotient_exact _ _ _ (((k * B).log2 : Int) - 52) ((B.log2 : Int) - 52) lA lB hne hsh
  rw [floatOfInt_nat, floatOfInt_nat, floatOfInt_nat]
  rw [div_of _ _ _ _ (read_ofNat _ hA1 hKB) (read_ofNat _ hB hB2) _ _ _ hq]
  have hk53 : k < 2 ^ 53 := Nat.lt_of_le_of_lt hk2 (by decide)
  have e2 : 2 * (k * 2 ^ (54 + B.log2 - (k * B).log2)) = k * 2 ^ (55 + B.log2 - (k * B).log2) := by
    rw [show 55 + B.log2 - (k * B).log2 = (54 + B.log2 - (k * B).log2) + 1 by omega, Nat.pow_succ]
    ac_rfl
  rw [e2]
  have hx := nearest_exact k (55 + B.log2 - (k * B).log2) (((k * B).log2 : Int) - 52 - ((B.log2 : Int) - 52) - (54 : Nat) - 1) hk hk53 (by omega) (by omega)
  have hy := nearest_exact k 0 0 hk hk53 (by omega) (by omega)
  rw [Nat.pow_zero, Nat.mul_one] at hy
  rw [hy, hx]
  have e3 : (((k * B).log2 : Int) - 52 - ((B.log2 : Int) - 52) - (54 : Nat) - 1 + ((55 + B.log2 - (k * B).log2 : Nat) : Int) + (k.log2 : Int) + 1022).toNat = ((0 : Int) + ((0 : Nat) : Int) + (k.log2 : Int) + 1022).toNat := by omega
  rw [e3]

theorem div_zero' (B : Nat) (hB : 1 ≤ B) (hB2 : B < 2 ^ 53) :
    floatBits .quo .f64 (floatOfInt .f64 ((0 : Nat) : Int)) (floatOfInt .f64 (B : Int)) = some (floatOfInt .f64 ((0 : Nat) : Int)) := by
  rw [floatOfInt_nat, floatOfInt_nat]
  have hz : Ieee.double.read (Ieee.double.nearest false 0 0) = .number false 0 (-1074) := by decide
  have hne : B * 2 ^ (52 - B.log2) ≠ 0 := Nat.ne_of_gt (Nat.mul_pos hB (Nat.two_pow_pos _))
  obtain ⟨p, hp⟩ := quotient_zero 0 (B * 2 ^ (52 - B.log2)) (-1074) ((B.log2 : Int) - 52) hne rfl
  rw [div_of _ _ _ _ hz (read_ofNat _ hB hB2) _ _ _ hp, nearest_zero, nearest_zero]

theorem cap_quo (k B : Nat) (hk2 : k ≤ 32) (hB : 1 ≤ B) (hB2 : B < 2 ^ 53) (hKB : k * B < 2 ^ 53) :
    floatBits .quo .f64 (floatOfInt .f64 ((k * B : Nat) : Int)) (floatOfInt .f64 (B : Int)) = some (floatOfInt .f64 (k : Int)) := by
  by_cases h : k = 0
  · subst h
    rw [Nat.zero_mul]
    exact div_zero' B hB hB2
  · exact div_exact k B (by omega) hk2 hB hKB

theorem order_self (k : Nat) (hk2 : k ≤ 32) : FloatKind.f64.format.order (floatOfInt .f64 (k : Int)) (floatOfInt .f64 (k : Int)) = some .eq := by
  rw [floatOfInt_nat]
  show Ieee.double.order _ _ = _
  unfold Format.order
  by_cases h : k = 0
  · subst h; decide
  · rw [read_ofNat k (by omega) (by have : (2 : Nat) ^ 53 = 9007199254740992 := by decide
                                    omega)]
    unfold Datum.order
    simp only
    rw [Std.compare_self]
end Go.Proofs.Qxb6000059a
