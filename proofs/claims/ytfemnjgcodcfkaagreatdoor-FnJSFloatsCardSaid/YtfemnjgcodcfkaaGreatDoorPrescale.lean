/- The walk of uscale: it returns the unrounded scaling. The walk of prescale. -/
import Derived.Test.YtfemnjgcodcfkaaGreatDoorLeaf
import Derived.Test.YtfemnjgcodcfkaaGreatDoorScale

namespace Go.Proofs.YtfemnjgcodcfkaaGreatDoor
open Go.RowKit

theorem mul_any (x y H M : Nat) (w : World) (hx : x < 18446744073709551616) (hy : y < 18446744073709551616) (hH : H = x * y / 18446744073709551616) (hM : M = x * y % 18446744073709551616) :
    Calls Tryz.prog 110 #[.int .u64 x, .int .u64 y] w fun e w' => e = .returned (.tuple #[.int .u64 H, .int .u64 M]) ∧ w = w' := by
  subst hH; subst hM
  exact (Tryz.bits_Mul64 x y hx hy w).mono fun _ _ h => ⟨h.1, h.2.symm⟩

theorem pow_cast (H s : Nat) : (H : Int) / 2 ^ s = ((H / 2 ^ s : Nat) : Int) := by
  rw [Int.natCast_ediv]; congr 1

theorem shift_test (H s : Nat) (h : H < 18446744073709551616) : (IntKind.u64.wrap ((H : Int) / 2 ^ s * 2 ^ s) != (H : Int)) = decide (H / 2 ^ s * 2 ^ s ≠ H) := by
  have h1 : H / 2 ^ s * 2 ^ s ≤ H := Nat.div_mul_le_self H (2 ^ s)
  have e : (H : Int) / 2 ^ s * 2 ^ s = ((H / 2 ^ s * 2 ^ s : Nat) : Int) := by
    rw [pow_cast, Int.natCast_mul]; congr 1
  rw [e, IntKind.wrap_u64, Bool.eq_iff_iff, bne_iff_ne, decide_eq_true_eq]
  generalize H / 2 ^ s * 2 ^ s = Y at *
  omega

theorem or_stick (H s : Nat) (b : Bool) (h : H < 18446744073709551616) : bits .or .u64 ((H : Int) / 2 ^ s) ((b.toNat : Nat) : Int) = ((Fl.stick (H / 2 ^ s) b : Nat) : Int) := by
  have h1 : H / 2 ^ s ≤ H := Nat.div_le_self _ _
  have h2 := Bool.toNat_le b
  rw [pow_cast, bits_or_u64_nat _ _ (by omega) (by omega)]
  rfl

set_option maxHeartbeats 1000000 in
theorem uscale_code (x hi lo s H M L ML : Nat) (b : Nat) (w : World) (h1 : x < 18446744073709551616) (h2 : hi < 18446744073709551616) (h3 : lo < 18446744073709551616) (h4 : s < 64)
    (hH : H = x * hi / 18446744073709551616) (hM : M = x * hi % 18446744073709551616) (hL : L = x * lo / 18446744073709551616) (hML : ML = x * lo % 18446744073709551616) (hpos : M < L → 1 ≤ H)
    (b1 : H < 18446744073709551616) (b2 : M < 18446744073709551616) (b3 : L < 18446744073709551615)
    (c0 : w.cell? ⟨b, 0, none⟩ = some (.int .u64 hi)) (c1 : w.cell? ⟨b, 1, none⟩ = some (.int .u64 lo)) (c2 : w.cell? ⟨b, 2, none⟩ = some (.int .i64 s)) :
    Calls Tryz.prog 83 #[.int .u64 x, .pointer (some ⟨b, 0, none⟩)] w fun e w' => e = .returned (.int .u64 ((Fl.usCode H M L s : Nat) : Int)) ∧ ∃ n, w' = w.drewN n := by
  have h63 := i64_and63 s h4
  have h4' : (s : Int) < 64 := by omega
  have h4'' : (0 : Int) ≤ (s : Int) := by omega
  have t1 := shift_test H s b1
  have HH := Lib.hid hH
  have HM := Lib.hid hM
  have HL := Lib.hid hL
  have HML := Lib.hid hML
  clear hH hM hL hML
  by_cases hz : H / 2 ^ s * 2 ^ s ≠ H
  · rw [decide_eq_true hz] at t1
    go_enter Tryz.func83, Tryz.ntmps83
    go_wp2_with fail
    refine (mul_any x hi H M w h1 h2 HH.out HM.out).mono ?_
    rintro e w1 ⟨rfl, rfl⟩
    go_wp2_with fail
    go_ret
    refine ⟨ret_int ?_, 0, rfl⟩
    unfold Fl.usCode
    rw [if_pos hz]
    exact or_stick H s true b1
  · rw [decide_eq_false hz] at t1
    by_cases hml : M < L
    · have hpos' := hpos hml
      have hml' : (M : Int) < (L : Int) := by omega
      clear hpos
      go_enter Tryz.func83, Tryz.ntmps83
      go_wp2_with fail
      refine (mul_any x hi H M w h1 h2 HH.out HM.out).mono ?_
      rintro e w1 ⟨rfl, rfl⟩
      go_wp2_with fail
      refine (mul_any x lo L ML w h1 h3 HL.out HML.out).mono ?_
      rintro e w1 ⟨rfl, rfl⟩
      go_wp2_with (go_at_call 111; refine (bool2u_any _ _).mono ?_; rintro e w' ⟨rfl, rfl⟩)
      go_quiet ((go_at_call 111; exact Calls.quiet_of_same ((bool2u_any _ _).mono fun _ _ h => ⟨h.1, h.2.symm⟩)))
      go_wp2
      go_ret
      refine ⟨ret_int ?_, _, rfl⟩
      unfold Fl.usCode
      rw [if_neg hz, if_pos hml]
      have hw : 1 < IntKind.u64.wrap ((M : Int) - (L : Int)) := by rw [IntKind.wrap_u64]; omega
      rw [decide_eq_true hw, show (H : Int) - 1 = ((H - 1 : Nat) : Int) by omega]
      exact or_stick (H - 1) s true (by omega)
    · have hml' : ¬ ((M : Int) < (L : Int)) := by omega
      have hml2 : (L : Int) ≤ (M : Int) := by omega
      clear hpos
      go_enter Tryz.func83, Tryz.ntmps83
      go_wp2_with fail
      refine (mul_any x hi H M w h1 h2 HH.out HM.out).mono ?_
      rintro e w1 ⟨rfl, rfl⟩
      go_wp2_with fail
      refine (mul_any x lo L ML w h1 h3 HL.out HML.out).mono ?_
      rintro e w1 ⟨rfl, rfl⟩
      go_wp2_with (go_at_call 111; refine (bool2u_any _ _).mono ?_; rintro e w' ⟨rfl, rfl⟩)
      go_quiet ((go_at_call 111; exact Calls.quiet_of_same ((bool2u_any _ _).mono fun _ _ h => ⟨h.1, h.2.symm⟩)))
      go_wp2
      go_ret
      refine ⟨ret_int ?_, _, rfl⟩
      unfold Fl.usCode
      rw [if_neg hz, if_neg hml]
      have hd : decide (1 < (M : Int) - (L : Int)) = decide (1 < M - L) := by rw [decide_eq_decide]; omega
      rw [hd]
      exact or_stick H s _ b1

theorem R64_val : Fl.R64 = 18446744073709551616 := rfl

/-- uscale over a scaler that lies in block b. -/
theorem uscale_any (x hi lo s : Nat) (b : Nat) (w : World) (h1 : x < 18446744073709551616) (h2 : hi < 18446744073709551616) (h3 : lo < 18446744073709551616) (h4 : s < 64) (hle : lo ≤ hi * Fl.R64)
    (c0 : w.cell? ⟨b, 0, none⟩ = some (.int .u64 hi)) (c1 : w.cell? ⟨b, 1, none⟩ = some (.int .u64 lo)) (c2 : w.cell? ⟨b, 2, none⟩ = some (.int .i64 s)) :
    Calls Tryz.prog 83 #[.int .u64 x, .pointer (some ⟨b, 0, none⟩)] w fun e w' => e = .returned (.int .u64 ((Fl.us x (hi * Fl.R64 - lo) s : Nat) : Int)) ∧ ∃ n, w' = w.drewN n := by
  have hr := R64_val
  have hup := Fl.up_code (x := x) Fl.R64_pos hle
  rw [Fl.us_code x hi lo s h1 h3 hle]
  rw [hr] at hup ⊢
  have hp : ∀ a b : Nat, a < 18446744073709551616 → b < 18446744073709551616 → a * b / 18446744073709551616 < 18446744073709551615 := by
    intro a b ha hb
    have h5 : a * b ≤ 18446744073709551615 * 18446744073709551615 := Nat.mul_le_mul (by omega) (by omega)
    refine Nat.div_lt_of_lt_mul ?_
    refine Nat.lt_of_le_of_lt h5 ?_
    decide
  have b1 := hp x hi h1 h2
  have b3 := hp x lo h1 h3
  have b2 : x * hi % 18446744073709551616 < 18446744073709551616 := Nat.mod_lt _ (by decide)
  refine uscale_code x hi lo s _ _ _ (x * lo % 18446744073709551616) b w h1 h2 h3 h4 rfl rfl rfl rfl ?_ (Nat.lt_trans b1 (by decide)) b2 b3 c0 c1 c2
  intro hML
  clear hp b1 b3 c0 c1 c2 h1 h2 h3 h4 hle hr
  rcases Nat.eq_zero_or_pos (x * hi / 18446744073709551616) with h | h
  · rw [h, Nat.zero_mul, Nat.zero_add] at hup
    exfalso
    have := Nat.le_add_left (x * lo / 18446744073709551616) ((x * (hi * 18446744073709551616 - lo) + (18446744073709551616 - 1)) / 18446744073709551616)
    rw [hup] at this
    exact Nat.not_lt.2 this hML
  · exact h

end Go.Proofs.YtfemnjgcodcfkaaGreatDoor

namespace Go.Proofs.YtfemnjgcodcfkaaGreatDoor
open Go.RowKit

set_option maxHeartbeats 1000000 in
theorem prescale_any (b : Nat) (e p lp : Int) (hi lo : Nat) (v0 v1 v2 : Value) (w : World) (h1 : -348 ≤ p) (h2 : p ≤ 347) (he1 : -3000 ≤ e) (he2 : e ≤ 3000) (hl1 : -3000 ≤ lp) (hl2 : lp ≤ 3000)
    (c0 : w.cell? ⟨b, 0, none⟩ = some v0) (c1 : w.cell? ⟨b, 1, none⟩ = some v1) (c2 : w.cell? ⟨b, 2, none⟩ = some v2)
    (f0 : w.frozen? ⟨b, 0, none⟩ = false) (f1 : w.frozen? ⟨b, 1, none⟩ = false) (f2 : w.frozen? ⟨b, 2, none⟩ = false)
    (t0 : w.cell? ⟨7, (p + 348).toNat * 2, none⟩ = some (.int .u64 hi)) (t1 : w.cell? ⟨7, (p + 348).toNat * 2 + 1, none⟩ = some (.int .u64 lo)) :
    Calls Tryz.prog 81 #[.pointer (some ⟨b, 0, none⟩), .int .i64 e, .int .i64 p, .int .i64 lp] w fun en w' => en = .returned (.tuple #[]) ∧
      ((w.setCell ⟨b, 0, none⟩ (.int .u64 hi)).setCell ⟨b, 1, none⟩ (.int .u64 lo)).setCell ⟨b, 2, none⟩ (.int .i64 (-(e + lp + 3))) = w' := by
  go_enter Tryz.func81, Tryz.ntmps81
  go_wp2
  go_end0
  exact ⟨rfl, rfl⟩

end Go.Proofs.YtfemnjgcodcfkaaGreatDoor
