/-
  The walk of parseFloat64: it returns the word of the nearest rung.
-/
import Derived.Test.YtfemnjgcodcfkaaGreatDoorPack
namespace Go.Proofs.YtfemnjgcodcfkaaGreatDoor
open Go.RowKit

theorem len_is (D b : Nat) (w : World) (hD : D < 18446744073709551616) (hb : b = Lib.bitLen D) :
    Calls Tryz.prog 44 #[.int .u64 D] w fun e w' => e = .returned (.int .i64 b) ∧ w = w' := by
  subst hb
  have := Tryz.bits_Len64 (D : Int) w (by omega) (by omega)
  rw [Int.toNat_natCast] at this
  exact this.mono fun _ _ h => ⟨h.1, h.2.symm⟩

theorem bitLen_at {D b : Nat} (hb : 1 ≤ b) (hb2 : b ≤ 64) (h1 : 2 ^ (b - 1) ≤ D) (h2 : D < 2 ^ b) : Lib.bitLen D = b := by
  have hD : D < 2 ^ 64 := Nat.lt_of_lt_of_le h2 (Nat.pow_le_pow_right (by decide) hb2)
  have h0 : D ≠ 0 := by have := Nat.two_pow_pos (b - 1); omega
  obtain ⟨a1, a2, a3⟩ := Lib.bitLenAux_bounds 64 D hD h0
  have e : Lib.bitLen D = Lib.bitLenAux 64 D := rfl
  rw [e]
  generalize Lib.bitLenAux 64 D = c at *
  rcases Nat.lt_trichotomy c b with h | h | h
  · have := Nat.pow_le_pow_right (show 0 < 2 by decide) (show c ≤ b - 1 by omega)
    omega
  · exact h
  · have := Nat.pow_le_pow_right (show 0 < 2 by decide) (show b ≤ c - 1 by omega)
    omega

theorem round_is (xi : Int) (v m : Nat) (w : World) (hx : xi = (v : Int)) (hv : v ≤ 4611686018427387904) (hm : m = Fl.rnd v) :
    Calls Tryz.prog 87 #[.int .u64 xi] w fun e w' => e = .returned (.int .u64 m) ∧ w = w' := by
  subst hx; subst hm
  exact round_any v w hv

theorem pack_any (s : Bool) (m t V : Nat) (e : Int) (w : World) (hV : V = sgn s + m) (hm : m < 9007199254740992) (ht : t = 0 ∨ 4503599627370496 ≤ m) (he : e = (t : Int) - 1074) (ht2 : t ≤ 2045) :
    Calls Tryz.prog 137 #[.int .u64 V, .int .i64 e] w fun en w' => en = .returned (.tuple #[.float .f64 (sgn s + (t * 4503599627370496 + m)), .nilIface]) ∧ w = w' := by
  subst hV
  by_cases h : m < 4503599627370496
  · have h0 : t = 0 := by omega
    have := pack_low s m e w h
    rw [h0, Nat.zero_mul, Nat.zero_add]
    exact this
  · obtain ⟨k, hk⟩ : ∃ k, m = 4503599627370496 + k := ⟨m - 4503599627370496, by omega⟩
    have := pack_full s k t e w (by omega) he ht2
    rw [hk]
    exact this

theorem or_half (u : Nat) (h : u ≤ 4611686018427387904) : bits .or .u64 ((u : Int) / 2) (bits .and .u64 (u : Int) 1) = ((Fl.half u : Nat) : Int) := by
  rw [and_one_u64 _ (by omega) (by omega), show (u : Int) / 2 = ((u / 2 : Nat) : Int) by omega, show (u : Int) % 2 = ((u % 2 : Nat) : Int) by omega, bits_or_u64_nat _ _ (by omega) (by omega)]
  rfl

theorem or_self_low (u : Nat) (h : u ≤ 4611686018427387904) : bits .or .u64 (u : Int) (bits .and .u64 (u : Int) 1) = ((u : Nat) : Int) := by
  rw [and_one_u64 _ (by omega) (by omega), show (u : Int) % 2 = ((u % 2 : Nat) : Int) by omega, bits_or_u64_nat _ _ (by omega) (by omega)]
  congr 1
  have h2 := Fl.or_one u
  rcases (show u % 2 = 0 ∨ u % 2 = 1 by omega) with e | e
  · rw [e, Nat.or_zero]
  · rw [e, h2]; omega

set_option maxRecDepth 100000 in
set_option maxHeartbeats 2000000 in
theorem parseF_code (D b u x S t : Nat) (s : Bool) (P E : Int) (w : World) (hb : b = Lib.bitLen D) (hb1 : 1 ≤ b) (hb2 : b ≤ 57) (hD : D < 18446744073709551616) (h1 : -348 ≤ P) (h2 : P ≤ 347) (ht : TabRow w P) (hT : Fl.Tab P)
    (hl1 : -3000 ≤ Fl.l2 P) (hl2 : Fl.l2 P ≤ 3000) (hE : min 1074 (53 - (b : Int) - Fl.l2 P) = E) (hE1 : -2000 ≤ E) (hE2 : E ≤ 1074) (hS : (S : Int) = -(E - (64 - (b : Int)) + Fl.l2 P + 3)) (hS2 : S < 64)
    (hx : IntKind.u64.wrap ((D : Int) * 2 ^ (64 - b)) = (x : Int)) (hx2 : x < 18446744073709551616) (hu : u = Fl.us x (Fl.tabOf P) S) (hu2 : u ≤ 4611686018427387904)
    (m V : Nat) (hm : m = if 36028797018963966 ≤ u then Fl.rnd (Fl.half u) else Fl.rnd u) (hm2 : m < 9007199254740992) (hV : V = sgn s + m) (ht1 : t = 0 ∨ 4503599627370496 ≤ m) (ht2 : t ≤ 2045)
    (htE : (t : Int) = 1074 - E + (if 36028797018963966 ≤ u then 1 else 0)) :
    Calls Tryz.prog 126 #[.int .u64 D, .int .i64 P, .int .u64 (sgn s)] w fun en w' => en = .returned (.tuple #[.float .f64 (sgn s + (t * 4503599627370496 + m)), .nilIface]) ∧ Below w.heap.size w w' := by
  have HB := Lib.hid hb
  have HT := Lib.hid ht
  have HS := Lib.hid hS
  have HU := Lib.hid hu
  have hsg : bits .or .u64 ((sgn s : Nat) : Int) (m : Int) = (V : Int) := by rw [hV]; exact sgn_or_bits s m hm2
  have HV := Lib.hid hV
  have HM := Lib.hid hm
  have HE := Lib.hid htE
  clear hb ht hS hu hV hm htE
  go_enter Tryz.func126, Tryz.ntmps126
  go_wp2_with fail
  refine (len_is D b w hD HB.out).mono ?_
  rintro en w1 ⟨rfl, rfl⟩
  go_wp2_with fail
  refine (log2_any P _ (by omega) (by omega)).mono ?_
  rintro en w1 ⟨rfl, rfl⟩
  go_wp2_with fail
  refine (prescale_new _ (E - (64 - (b : Int))) P _ S w h1 h2 (by omega) (by omega) hl1 hl2 HT.out HS.out).mono ?_
  rintro en w2 ⟨rfl, hb2, hsc⟩
  have c2 := hsc.2.2
  have hS3 : (S : Int) < 64 := by omega
  go_wp2_with fail
  refine (uscale_is _ x u S _ P _ rfl hx2 hS2 hT HU.out hsc).mono ?_
  rintro en w3 ⟨rfl, n3, rfl⟩
  go_wp2_with fail
  refine (unmin_any 9007199254740992 _ (by omega) (by omega)).mono ?_
  rintro en w4 ⟨rfl, rfl⟩
  have hm := HM.out
  have htE := HE.out
  clear HM HE
  by_cases hbig : 36028797018963966 ≤ u
  · have hd : decide ((36028797018963966 : Int) ≤ (u : Int)) = true := decide_eq_true (by omega)
    rw [if_pos hbig] at hm htE
    have HM1 := Lib.hid hm
    have htE1 : (t : Int) ≤ 1074 - E + 1 ∧ 1074 - E + 1 ≤ (t : Int) := by omega
    obtain ⟨hE3, hE4⟩ := htE1
    clear hm htE
    have hh := Fl.half_bounds u
    go_wp2_with (go_at_call 89; refine (bool2i_any _ _).mono ?_; rintro e w' ⟨rfl, rfl⟩)
    refine (round_is _ (Fl.half u) m _ (or_half u hu2) (by omega) HM1.out).mono ?_
    rintro en w5 ⟨rfl, rfl⟩
    go_wp2_with fail
    refine (pack_any s m t V _ _ HV.out hm2 ht1 (by omega) ht2).mono ?_
    rintro en w5 ⟨rfl, rfl⟩
    go_wp2_with fail
    go_ret2
    exact ⟨rfl, below_drewN hb2 _⟩
  · have hd : decide ((36028797018963966 : Int) ≤ (u : Int)) = false := decide_eq_false (by omega)
    rw [if_neg hbig] at hm htE
    have HM1 := Lib.hid hm
    have htE1 : (t : Int) ≤ 1074 - E + 0 ∧ 1074 - E + 0 ≤ (t : Int) := by omega
    obtain ⟨hE3, hE4⟩ := htE1
    clear hm htE
    go_wp2_with (go_at_call 89; refine (bool2i_any _ _).mono ?_; rintro e w' ⟨rfl, rfl⟩)
    refine (round_is _ u m _ (or_self_low u hu2) hu2 HM1.out).mono ?_
    rintro en w5 ⟨rfl, rfl⟩
    go_wp2_with fail
    refine (pack_any s m t V _ _ HV.out hm2 ht1 (by omega) ht2).mono ?_
    rintro en w5 ⟨rfl, rfl⟩
    go_wp2_with fail
    go_ret2
    exact ⟨rfl, below_drewN hb2 _⟩

/-- parseFloat64 at a number of up to 57 bits. -/
theorem parseF_any (D b : Nat) (P : Int) (s : Bool) (w : World) (hb1 : 1 ≤ b) (hb2 : b ≤ 57) (hlo : 2 ^ (b - 1) ≤ D) (hD : D < 2 ^ b) (h1 : -348 ≤ P) (h2 : P ≤ 347) (ht : TabAll w) (hps : Fl.ps b P < 64) (hpt : Fl.pt D b P ≤ 2045) :
    Calls Tryz.prog 126 #[.int .u64 D, .int .i64 P, .int .u64 (sgn s)] w fun en w' => en = .returned (.tuple #[.float .f64 (Ieee.double.word s (Fl.pt D b P * 4503599627370496 + Fl.pm D b P)), .nilIface]) ∧ Below w.heap.size w w' := by
  have T := Fl.tab_ok P h1 h2
  have hl := l2_bounds h1 h2
  have hlt : -1200 ≤ Fl.l2 P ∧ Fl.l2 P ≤ 1200 := by unfold Fl.l2; omega
  have hx2 := Fl.left_lt hb2 hD
  have h64 : (2 : Nat) ^ 64 = 18446744073709551616 := by decide
  rw [h64] at hx2
  have hps8 := Fl.ps_ge b P
  have hDlt : D < 18446744073709551616 := by
    rw [← h64]; exact Nat.lt_of_lt_of_le hD (Nat.pow_le_pow_right (by decide) (by omega))
  obtain ⟨_, n2, n3⟩ := Fl.parse_near D b P h1 h2 hb1 hb2 hlo hD
  rw [word_sgn]
  have hbig : ∀ A B : Nat, (if Fl.big D b P = true then A else B) = if 36028797018963966 ≤ Fl.pu D b P then A else B := by
    intro A B
    unfold Fl.big
    by_cases h : 36028797018963966 ≤ Fl.pu D b P
    · rw [decide_eq_true h, if_pos rfl, if_pos h]
    · rw [decide_eq_false h, if_neg (by decide), if_neg h]
  refine parseF_code D b (Fl.pu D b P) (D * 2 ^ (64 - b)) (Fl.ps b P).toNat (Fl.pt D b P) s P (Fl.pe b P) w (bitLen_at hb1 (by omega) hlo hD).symm hb1 hb2 hDlt h1 h2 (ht P h1 h2) T hl.1 hl.2 rfl (by unfold Fl.pe; omega) (by unfold Fl.pe; omega)
    (by unfold Fl.ps at *; omega) (by omega) ?_ hx2 rfl (Fl.us_bound _ _ _ hx2 (tab_le T) (by omega)) (Fl.pm D b P) _ (by unfold Fl.pm; exact hbig _ _) n2 rfl n3 hpt ?_
  · have e : (D : Int) * 2 ^ (64 - b) = ((D * 2 ^ (64 - b) : Nat) : Int) := by simp
    rw [e, IntKind.wrap_u64]
    generalize D * 2 ^ (64 - b) = x at *
    omega
  · unfold Fl.pt
    have hpe : Fl.pe b P ≤ 1074 := by unfold Fl.pe; omega
    unfold Fl.big
    by_cases h : 36028797018963966 ≤ Fl.pu D b P
    · rw [decide_eq_true h, if_pos h]
      show (((1074 - Fl.pe b P).toNat + 1 : Nat) : Int) = _
      omega
    · rw [decide_eq_false h, if_neg h]
      show (((1074 - Fl.pe b P).toNat + 0 : Nat) : Int) = _
      omega

end Go.Proofs.YtfemnjgcodcfkaaGreatDoor
