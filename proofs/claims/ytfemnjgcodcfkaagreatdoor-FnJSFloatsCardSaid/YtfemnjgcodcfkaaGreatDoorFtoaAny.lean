/- ftoa64, for every finite number: the text is a decimal number to which it is the nearest. -/
import Derived.Test.YtfemnjgcodcfkaaGreatDoorFtoa

namespace Go.Proofs.YtfemnjgcodcfkaaGreatDoor
open Go.RowKit

namespace Fl
theorem near_tens (r : Nat) (P : Int) (j : Nat) : ∀ d, Near r (vn (d * 10 ^ j) P) (vk P) → Near r (vn d (P + j)) (vk (P + j)) := by
  induction j with
  | zero =>
    intro d h
    rw [Nat.pow_zero, Nat.mul_one] at h
    have e : P + ((0 : Nat) : Int) = P := Int.add_zero P
    rw [e]; exact h
  | succ j ih =>
    intro d h
    have e : d * 10 ^ (j + 1) = (d * 10) * 10 ^ j := by rw [Nat.pow_succ, Nat.mul_comm (10 ^ j) 10, ← Nat.mul_assoc]
    rw [e] at h
    have h3 := near_same (vk_pos _) (vk_pos _) (ten_step d (P + j)) (ih (d * 10) h)
    have e2 : P + (j : Int) + 1 = P + ((j + 1 : Nat) : Int) := by clear h3 h ih; omega
    rw [e2] at h3
    exact h3

/-- The text of the finite number with the rung r. -/
inductive IsText (r : Nat) (s : Bool) : List Nat → Prop
  | zero : r = 0 → IsText r s (text s [] 0)
  | some (k D : Nat) (P X : Int) : 0 < r → 1 ≤ k → k ≤ 17 → 10 ^ (k - 1) ≤ D → D < 10 ^ k → -324 ≤ P → P ≤ 309 → X = P + k - 1 → X ≤ 309 → Near r (vn D P) (vk P) → IsText r s (text s (digs k D) X)

theorem isText_of {r n k D : Nat} {s : Bool} {x : Nat × Int} (hr : 0 < r) (G : Good r x) (hn : n = Lib.nDigits x.1) (hn17 : n ≤ 17) (hk : 1 ≤ k) (hkn : k ≤ n) (hD : x.1 = D * 10 ^ (n - k)) : IsText r s (text s (digs k D) ((n : Int) + x.2 - 1)) := by
  have h1 := nDigits_ge x.1 G.d1
  have h2 := Lib.lt_pow_nDigits x.1
  rw [← hn] at h1 h2
  have p1 := G.p1
  have p2 := G.p2
  have hnear := G.near
  rw [hD] at hnear h1 h2
  have hnear2 := near_tens r x.2 (n - k) D hnear
  have e : n - 1 = (k - 1) + (n - k) := by omega
  have e2 : n = k + (n - k) := by omega
  rw [e, Nat.pow_add] at h1
  have h2' : D * 10 ^ (n - k) < 10 ^ k * 10 ^ (n - k) := by rw [← Nat.pow_add, ← e2]; exact h2
  have hp : 0 < 10 ^ (n - k) := Nat.pow_pos (by decide)
  refine .some k D (x.2 + ((n - k : Nat) : Int)) _ hr hk (by omega) (Nat.le_of_mul_le_mul_right h1 hp) (Nat.lt_of_mul_lt_mul_right h2') (by omega) (by omega) (by omega) (by omega) hnear2
end Fl

theorem and_low (a k n p q : Nat) (hp : p = 2 ^ k) (hq : q = p - 1) (h : n = a * p + n % p) : n &&& q = n % p := by
  subst hq; subst hp
  rw [Nat.and_two_pow_sub_one_eq_mod]

theorem i64_and2047 (n : Nat) (h : n < 9223372036854775808) : bits .and .i64 (n : Int) 2047 = ((n % 2048 : Nat) : Int) := by
  have := bits_mask .i64 63 (by decide) (fun m h0 h1 => by
    have : (2 : Int) ^ 63 = 9223372036854775808 := by decide
    rw [IntKind.wrap_i64]; omega) 11 (by decide) (n : Int) (by omega) (by
    have : (2 : Int) ^ 63 = 9223372036854775808 := by decide
    omega)
  have e : (2 : Int) ^ 11 - 1 = 2047 := by decide
  have e2 : (2 : Int) ^ 11 = 2048 := by decide
  rw [e, e2] at this
  rw [this]; omega

theorem word_fields (s : Bool) (r : Nat) (hr : r < 9218868437227405312) : Fields (Ieee.double.word s r) s (r / 4503599627370496) (r % 4503599627370496) := by
  rw [word_sgn]
  have hs : sgn s = 0 ∧ s = false ∨ sgn s = 9223372036854775808 ∧ s = true := by cases s <;> simp [sgn]
  refine ⟨?_, ?_, ?_, by omega, by omega, by omega⟩
  · rcases hs with ⟨h1, h2⟩ | ⟨h1, h2⟩
    · rw [h1, h2, bne_eq_false_iff_eq]; omega
    · rw [h1, h2, bne_iff_ne]; omega
  · have e : ((sgn s + r : Nat) : Int) / 4503599627370496 = (((sgn s + r) / 4503599627370496 : Nat) : Int) := by omega
    rw [e, i64_and2047 _ (by omega)]
    have : (sgn s + r) / 4503599627370496 % 2048 = r / 4503599627370496 := by omega
    rw [this]
  · have h := bits_and_u64_nat (sgn s + r) 4503599627370495 (by omega) (by decide)
    have h2 : (sgn s + r) &&& 4503599627370495 = (sgn s + r) % 4503599627370496 := by
      have := Nat.and_two_pow_sub_one_eq_mod (sgn s + r) 52
      have e52 : (2 : Nat) ^ 52 = 4503599627370496 := by decide
      rw [e52] at this
      exact this
    rw [h2] at h
    have e : (sgn s + r) % 4503599627370496 = r % 4503599627370496 := by omega
    rw [e] at h
    exact h

theorem digits17 {r : Nat} {x : Nat × Int} (G : Fl.Good r x) : Lib.nDigits x.1 ≤ 17 := by
  have h1 := Fl.nDigits_ge x.1 G.d1
  have h2 := G.d2
  rcases Nat.lt_or_ge 17 (Lib.nDigits x.1) with h | h
  · exfalso
    have h17 : (10 : Nat) ^ 17 = 100000000000000000 := by decide
    have := Nat.pow_le_pow_right (show 0 < 10 by decide) (show 17 ≤ Lib.nDigits x.1 - 1 by omega)
    omega
  · exact h

/-- What ftoa64 leaves, at a finite number. -/
def FtoaText (b0 B r : Nat) (s : Bool) (w : World) (e : Ending) (w' : World) : Prop := ∃ L, Fl.IsText r s L ∧ FmtOut b0 B w L e w'

theorem ftoa_any (b0 B r bp op : Nat) (s : Bool) (w : World) (hr : r < 9218868437227405312) (hT : Txt b0 B w w []) (ht : Consts bp op w) :
    Calls Tryz.prog 21 #[.slice (some ⟨B, 0, none⟩) 0 24, .float .f64 (Ieee.double.word s r), .int .u8 101, .int .i64 (-1)] w (FtoaText b0 B r s w) := by
  have hF := word_fields s r hr
  rcases Nat.eq_zero_or_pos r with h0 | h0
  · subst h0
    exact (ftoa_zero b0 B _ s w hF hT).mono fun e w' h => ⟨_, .zero rfl, h⟩
  rcases Nat.lt_or_ge r 4503599627370496 with hs | hs
  · have hE : r / 4503599627370496 = 0 := by omega
    have hM : r % 4503599627370496 = r := by omega
    rw [hE, hM] at hF
    obtain ⟨b1, b2, b3⟩ := Lib.bitLenAux_bounds 64 r (by omega) (by omega)
    obtain ⟨b, hb⟩ : ∃ b, b = Lib.bitLenAux 64 r := ⟨_, rfl⟩
    rw [← hb] at b1 b2 b3
    have hb52 : b ≤ 52 := by
      rcases Nat.lt_or_ge 52 b with h | h
      · exfalso
        have h52 : (2 : Nat) ^ 52 = 4503599627370496 := by decide
        have := Nat.pow_le_pow_right (show 0 < 2 by decide) (show 52 ≤ b - 1 by omega)
        omega
      · exact h
    have e63 : 9223372036854775808 = 2 ^ (b - 1) * 2 ^ (64 - b) := by
      rw [← Nat.pow_add, show b - 1 + (64 - b) = 63 by omega]
    have e64 : 18446744073709551616 = 2 ^ b * 2 ^ (64 - b) := by
      rw [← Nat.pow_add, show b + (64 - b) = 64 by omega]
    have hp := Nat.two_pow_pos (64 - b)
    have m1 : 9223372036854775808 ≤ r * 2 ^ (64 - b) := by rw [e63]; exact Nat.mul_le_mul_right _ b2
    have m2 : r * 2 ^ (64 - b) < 18446744073709551616 := by rw [e64]; exact Nat.mul_lt_mul_of_pos_right b3 hp
    obtain ⟨x, hG, hx⟩ := short_all 0 r (64 - b) (r * 2 ^ (64 - b)) ((0 : Nat) - 1074 - ((64 - b : Nat) : Int)) (by omega) h0 (by omega) (.inl rfl) (by omega) (by omega) (.inl rfl) rfl m1 m2 rfl
    rw [Nat.zero_mul, Nat.zero_add] at hG
    have hn := digits17 hG
    clear e63 e64 m1 hp b2 b3
    refine (ftoa_sub b0 B _ r (64 - b) _ _ b bp op _ x s w hF (by omega) hT h0 hb (by omega) (by omega) (by rw [Int.natCast_mul, Int.natCast_pow]; rfl) m2 hx ht hG.d1 hG.d2 hG.p1 hG.p2 rfl hn).mono ?_
    rintro e w' ⟨k, D, hk1, hkn, hD, hO⟩
    exact ⟨_, Fl.isText_of h0 hG rfl hn hk1 hkn hD, hO⟩
  · obtain ⟨E, hE⟩ : ∃ E, E = r / 4503599627370496 := ⟨_, rfl⟩
    obtain ⟨M0, hM0⟩ : ∃ M0, M0 = r % 4503599627370496 := ⟨_, rfl⟩
    rw [← hE, ← hM0] at hF
    have hb : 53 = Lib.bitLen (M0 + 4503599627370496) := by
      refine (bitLen_at (by decide) (by decide) ?_ ?_).symm
      · show (2 : Nat) ^ 52 ≤ _
        have h52 : (2 : Nat) ^ 52 = 4503599627370496 := by decide
        rw [h52]; omega
      · have h53 : (2 : Nat) ^ 53 = 9007199254740992 := by decide
        rw [h53]; omega
    have hor : bits .or .u64 (M0 : Int) 4503599627370496 = ((M0 + 4503599627370496 : Nat) : Int) := by
      have h := bits_or_u64_nat M0 4503599627370496 (by omega) (by decide)
      have h2 := or52 false M0 1 (by omega) (by decide)
      have e0 : sgn false = 0 := rfl
      rw [e0, Nat.zero_add, Nat.zero_add, Nat.one_mul, Nat.add_comm] at h2
      rw [h2] at h
      exact h
    obtain ⟨x, hG, hx⟩ := short_all (E - 1) (M0 + 4503599627370496) 11 ((M0 + 4503599627370496) * 2048) ((E : Int) - 1 - 1074 - 11) (by omega) (by omega) (by omega) (.inr (by omega)) (by omega) (by omega) (.inr rfl) rfl (by omega) (by omega) (by omega)
    have eG : (E - 1) * 4503599627370496 + (M0 + 4503599627370496) = r := by omega
    rw [eG] at hG
    have hn := digits17 hG
    refine (ftoa_norm b0 B _ E M0 (M0 + 4503599627370496) 11 _ _ 53 bp op _ x s w hF (by omega) hor (by omega) (by omega) hT (by omega) hb (by omega) (by omega) (by rw [show (2 : Int) ^ 11 = 2048 by decide]; omega) (by omega) hx ht hG.d1 hG.d2 hG.p1 hG.p2 rfl hn).mono ?_
    rintro e w' ⟨k, D, hk1, hkn, hD, hO⟩
    exact ⟨_, Fl.isText_of h0 hG rfl hn hk1 hkn hD, hO⟩

end Go.Proofs.YtfemnjgcodcfkaaGreatDoor
