/-
  Plain law, part 10: the model's own float64: reading a word, rounding to a word.
-/
import Ieee.Arith
import Derived.Test.YtfemnjgcodcfkaaGreatDoorShortNear
namespace Go.Proofs.YtfemnjgcodcfkaaGreatDoor
namespace Fl

def infR : Nat := 9218868437227405312
theorem dbl_sign : Ieee.double.signWeight = 9223372036854775808 := by decide
theorem dbl_binade : Ieee.double.binade = 4503599627370496 := by decide
theorem dbl_inf : Ieee.double.infRung = infR := by decide
theorem dbl_least : Ieee.double.leastPlace = -1074 := by decide
theorem dbl_frac : Ieee.double.fractionBits = 52 := rfl

theorem word_eq (neg : Bool) (r : Nat) : Ieee.double.word neg r = if neg then 9223372036854775808 + r else r := by
  unfold Ieee.Format.word; rw [dbl_sign]

theorem read_word (neg : Bool) (r : Nat) (h : r < infR) : Ieee.double.read (Ieee.double.word neg r) = .number neg (mag r) (-1074 + (sh r : Int)) := by
  have h' : r < 9218868437227405312 := h
  rw [word_eq]
  unfold Ieee.Format.read
  rw [dbl_sign, dbl_binade, dbl_inf, dbl_least]
  have e1 : ((if neg = true then 9223372036854775808 + r else r) / 9223372036854775808 % 2 == 1) = neg := by
    cases neg
    · simp only [Bool.false_eq_true, if_false]
      rw [show r / 9223372036854775808 = 0 by omega]; rfl
    · simp only [if_true]
      rw [show (9223372036854775808 + r) / 9223372036854775808 = 1 by omega]; rfl
  have e2 : (if neg = true then 9223372036854775808 + r else r) % 9223372036854775808 = r := by
    cases neg
    · simp only [Bool.false_eq_true, if_false]; omega
    · simp only [if_true]; omega
  rw [e1, e2]
  simp only
  unfold mag sh
  by_cases h1 : r < 4503599627370496
  · rw [if_pos h1, if_pos h1]
    have : r / 4503599627370496 - 1 = 0 := by omega
    rw [this]; rfl
  · rw [if_neg h1, if_neg h1, if_pos h]

/-- m is n / d, half to even. -/
def RH (m n d : Nat) : Prop := (2 * m * d < 2 * n + d ∨ (2 * m * d = 2 * n + d ∧ m % 2 = 0)) ∧ (2 * n < (2 * m + 1) * d ∨ (2 * n = (2 * m + 1) * d ∧ m % 2 = 0))

theorem cut_rh (neg : Bool) (n drop : Nat) (h : drop ≤ n.log2 + 2) : RH (Ieee.Toward.even.cut neg n drop) n (2 ^ drop) := by
  unfold Ieee.Toward.cut
  rw [Nat.min_eq_left h, Nat.one_shiftLeft]
  have hg : 0 < 2 ^ drop := Nat.two_pow_pos _
  generalize 2 ^ drop = g at *
  have hd := Nat.div_add_mod n g
  have hm := Nat.mod_lt n hg
  simp only
  generalize n / g = low at *
  generalize n % g = rest at *
  have e1 : g * low = low * g := Nat.mul_comm _ _
  have e2 : 2 * low * g = 2 * (low * g) := Nat.mul_assoc _ _ _
  have e3 : (2 * low + 1) * g = 2 * (low * g) + g := by rw [Nat.add_mul, Nat.mul_assoc, Nat.one_mul]
  have e4 : 2 * (low + 1) * g = 2 * (low * g) + 2 * g := by rw [Nat.mul_add, Nat.add_mul, Nat.mul_assoc]
  have e5 : (2 * (low + 1) + 1) * g = 2 * (low * g) + 3 * g := by rw [show 2 * (low + 1) + 1 = 2 * low + 3 by omega, Nat.add_mul, Nat.mul_assoc]
  by_cases hb : (decide (g < 2 * rest) || (g == 2 * rest && low % 2 == 1)) = true
  · rw [hb]
    simp only [Bool.or_eq_true, decide_eq_true_eq, Bool.and_eq_true, beq_iff_eq] at hb
    show RH (low + 1) n g
    unfold RH
    rw [e4, e5]
    omega
  · have hb' : (decide (g < 2 * rest) || (g == 2 * rest && low % 2 == 1)) = false := by simpa using hb
    rw [hb']
    simp only [Bool.or_eq_true, decide_eq_true_eq, Bool.and_eq_true, beq_iff_eq] at hb
    show RH (low + 0) n g
    rw [Nat.add_zero]
    unfold RH
    rw [e2, e3]
    omega

theorem cut_zero (neg : Bool) (n : Nat) : Ieee.Toward.even.cut neg n 0 = n := by
  unfold Ieee.Toward.cut
  rw [Nat.min_eq_left (Nat.zero_le _)]
  simp [Nat.mod_one]

/-- The places of rounding m * 2^q (in units of 2^-1074). -/
def tOf (m q : Nat) : Nat := q + m.log2 - 52

theorem nearest_exact (neg : Bool) (m q : Nat) (hm : 0 < m) (h : tOf m q ≤ q) :
    Ieee.double.nearest neg m ((q : Int) - 1074) = Ieee.double.word neg (min (tOf m q * 4503599627370496 + m * 2 ^ (q - tOf m q)) infR) := by
  unfold Ieee.Format.nearest
  rw [if_neg (by omega), dbl_least, dbl_frac, dbl_binade, dbl_inf]
  have e : max ((q : Int) - 1074 + (m.log2 : Nat) - (52 : Nat)) (-1074) = (tOf m q : Int) - 1074 := by unfold tOf; omega
  simp only [e]
  have e1 : ((q : Int) - 1074 - ((tOf m q : Int) - 1074)).toNat = q - tOf m q := by omega
  have e2 : ((tOf m q : Int) - 1074 - ((q : Int) - 1074)).toNat = 0 := by omega
  have e3 : ((tOf m q : Int) - 1074 - -1074).toNat = tOf m q := by omega
  rw [e1, e2, e3, cut_zero, Nat.shiftLeft_eq]

theorem nearest_cut (neg : Bool) (m q : Nat) (hm : 0 < m) (h : 52 ≤ m.log2) :
    Ieee.double.nearest neg m ((q : Int) - 1074) = Ieee.double.word neg (min (tOf m q * 4503599627370496 + Ieee.Toward.even.cut neg m (m.log2 - 52)) infR) := by
  unfold Ieee.Format.nearest
  rw [if_neg (by omega), dbl_least, dbl_frac, dbl_binade, dbl_inf]
  have e : max ((q : Int) - 1074 + (m.log2 : Nat) - (52 : Nat)) (-1074) = (tOf m q : Int) - 1074 := by unfold tOf; omega
  simp only [e]
  have e1 : ((q : Int) - 1074 - ((tOf m q : Int) - 1074)).toNat = 0 := by unfold tOf; omega
  have e2 : ((tOf m q : Int) - 1074 - ((q : Int) - 1074)).toNat = m.log2 - 52 := by unfold tOf; omega
  have e3 : ((tOf m q : Int) - 1074 - -1074).toNat = tOf m q := by omega
  rw [e1, e2, e3, Nat.shiftLeft_zero]

theorem log2_lo {m : Nat} (hm : 0 < m) : 2 ^ m.log2 ≤ m := Nat.log2_self_le (by omega)
theorem log2_hi (m : Nat) : m < 2 ^ (m.log2 + 1) := Nat.lt_log2_self

/-- A whole multiple of the least place that needs no rounding. -/
theorem exact_val {m q : Nat} (hm : 0 < m) (h : tOf m q ≤ q) : val (tOf m q * 4503599627370496 + m * 2 ^ (q - tOf m q)) = m * 2 ^ q := by
  have e : m * 2 ^ (q - tOf m q) * 2 ^ tOf m q = m * 2 ^ q := by rw [Nat.mul_assoc, ← Nat.pow_add, Nat.sub_add_cancel h]
  have hhi : m * 2 ^ (q - tOf m q) < 9007199254740992 := by
    have h1 : m * 2 ^ (q - tOf m q) < 2 ^ (m.log2 + 1) * 2 ^ (q - tOf m q) := (Nat.mul_lt_mul_right (Nat.two_pow_pos _)).2 (log2_hi m)
    rw [← Nat.pow_add] at h1
    have h2 : 2 ^ (m.log2 + 1 + (q - tOf m q)) ≤ 2 ^ 53 := Nat.pow_le_pow_right (by decide) (by unfold tOf at *; omega)
    have h3 : (2 : Nat) ^ 53 = 9007199254740992 := by decide
    omega
  rw [val_at _ _ (Nat.le_of_lt hhi) ?_, e]
  by_cases h0 : tOf m q = 0
  · exact Or.inl h0
  · right
    have h1 : 2 ^ m.log2 * 2 ^ (q - tOf m q) ≤ m * 2 ^ (q - tOf m q) := Nat.mul_le_mul_right _ (log2_lo hm)
    rw [← Nat.pow_add] at h1
    have h2 : 2 ^ 52 ≤ 2 ^ (m.log2 + (q - tOf m q)) := Nat.pow_le_pow_right (by decide) (by unfold tOf at *; omega)
    have h3 : (2 : Nat) ^ 52 = 4503599627370496 := by decide
    omega

/-- Rounding at a full significand: near whatever fraction n / k rounds alike at that place. -/
theorem near_cut (m q n k : Nat) (hm : 0 < m) (h : 52 ≤ m.log2) (hk : 0 < k) (neg : Bool)
    (hr : RH (Ieee.Toward.even.cut neg m (m.log2 - 52)) n (k * 2 ^ (m.log2 - 52))) (hn : 4503599627370496 * (k * 2 ^ (m.log2 - 52)) ≤ n) :
    Near (tOf m q * 4503599627370496 + Ieee.Toward.even.cut neg m (m.log2 - 52)) (n * 2 ^ q) k := by
  have hR := cut_rh neg m (m.log2 - 52) (by omega)
  generalize hc : Ieee.Toward.even.cut neg m (m.log2 - 52) = c at *
  have ht : tOf m q = m.log2 - 52 + q := by unfold tOf; omega
  have h52 : (2 : Nat) ^ 52 = 4503599627370496 := by decide
  have hml : m < 9007199254740992 * 2 ^ (m.log2 - 52) := by
    have h1 := log2_hi m
    have e : 2 ^ (m.log2 + 1) = 2 ^ 53 * 2 ^ (m.log2 - 52) := by rw [← Nat.pow_add]; congr 1; omega
    have h3 : (2 : Nat) ^ 53 = 9007199254740992 := by decide
    rw [e, h3] at h1
    exact h1
  have hmg : 4503599627370496 * 2 ^ (m.log2 - 52) ≤ m := by
    have h1 := log2_lo hm
    have e : 2 ^ m.log2 = 2 ^ 52 * 2 ^ (m.log2 - 52) := by rw [← Nat.pow_add]; congr 1; omega
    rw [e, h52] at h1
    exact h1
  have hg := Nat.two_pow_pos (m.log2 - 52)
  have hc1 : c ≤ 9007199254740992 := by
    unfold RH at hR
    rcases Nat.lt_or_ge 9007199254740992 c with h1 | h1
    · exfalso
      obtain ⟨d, hd⟩ : ∃ d, c = d + 9007199254740993 := ⟨c - 9007199254740993, by omega⟩
      have e : 2 * c * 2 ^ (m.log2 - 52) = 2 * d * 2 ^ (m.log2 - 52) + 18014398509481986 * 2 ^ (m.log2 - 52) := by
        rw [← Nat.add_mul]; congr 1; omega
      rw [e] at hR
      generalize 2 * d * 2 ^ (m.log2 - 52) = X at *
      generalize 2 ^ (m.log2 - 52) = g at *
      omega
    · exact h1
  have hc2 : 4503599627370496 ≤ c := by
    unfold RH at hR
    rcases Nat.lt_or_ge c 4503599627370496 with h1 | h1
    · exfalso
      have h2 : (2 * c + 1) * 2 ^ (m.log2 - 52) ≤ 9007199254740991 * 2 ^ (m.log2 - 52) := Nat.mul_le_mul_right _ (by omega)
      generalize 2 ^ (m.log2 - 52) = g at *
      omega
    · exact h1
  rw [ht]
  have eq1 : k * 2 ^ (m.log2 - 52 + q) = k * 2 ^ (m.log2 - 52) * 2 ^ q := by rw [Nat.pow_add, Nat.mul_assoc]
  refine near_of_round _ c _ k hc1 ?_ ?_ (Or.inr ⟨hc2, ?_⟩) hk
  · rw [eq1]
    have hq := Nat.two_pow_pos q
    generalize k * 2 ^ (m.log2 - 52) = K at *
    generalize 2 ^ q = V at *
    have e1 : 2 * c * (K * V) = 2 * c * K * V := (Nat.mul_assoc _ _ _).symm
    have e2 : 2 * (n * V) + K * V = (2 * n + K) * V := by rw [Nat.add_mul, Nat.mul_assoc]
    rw [e1, e2]
    rcases hr.1 with h1 | h1
    · exact Or.inl ((Nat.mul_lt_mul_right hq).2 h1)
    · exact Or.inr ⟨by rw [h1.1], h1.2⟩
  · rw [eq1]
    have hq := Nat.two_pow_pos q
    generalize k * 2 ^ (m.log2 - 52) = K at *
    generalize 2 ^ q = V at *
    have e1 : (2 * c + 1) * (K * V) = (2 * c + 1) * K * V := (Nat.mul_assoc _ _ _).symm
    have e2 : 2 * (n * V) = 2 * n * V := (Nat.mul_assoc _ _ _).symm
    rw [e1, e2]
    rcases hr.2 with h1 | h1
    · exact Or.inl ((Nat.mul_lt_mul_right hq).2 h1)
    · exact Or.inr ⟨by rw [h1.1], h1.2⟩
  · rw [eq1]
    have h1 := Nat.mul_le_mul_right (2 ^ q) hn
    rw [Nat.mul_assoc] at h1
    generalize k * 2 ^ (m.log2 - 52) * 2 ^ q = X at *
    generalize n * 2 ^ q = Y at *
    omega

end Fl
end Go.Proofs.YtfemnjgcodcfkaaGreatDoor
