/- atof64exact answers, for every mantissa and exponent: nothing, or the nearest word. -/
import Derived.Test.YtfemnjgcodcfkaaGreatDoorExactWalk
import Derived.Test.YtfemnjgcodcfkaaGreatDoorParseNear

namespace Go.Proofs.YtfemnjgcodcfkaaGreatDoor
open Go.RowKit

namespace Fl
theorem rounds_near {s : Bool} {r n k : Nat} (hr : r < infR) (h : Near r n k) : Rounds (Ieee.double.word s r) s n k :=
  ⟨r, by rw [Nat.min_eq_left (Nat.le_of_lt hr)], h⟩

theorem mul_some (s : Bool) (r k : Nat) (hr : r < infR) (hk : k < 23) : ∃ b, floatBits .mul .f64 (Ieee.double.word s r) (p10.getD k 0) = some b := by
  obtain ⟨m, j, he, _⟩ := p10_at hk
  have h : ∃ b, Ieee.double.mul (Ieee.double.word s r) (p10.getD k 0) = some b := by
    unfold Ieee.Format.mul
    rw [read_word s r hr, he]
    exact ⟨_, rfl⟩
  exact h

theorem vn_nat (D k : Nat) : vn D (k : Int) = D * 10 ^ k * unit1 := by
  unfold vn unit1
  rw [Int.toNat_natCast]
theorem vk_nat (k : Nat) : vk (k : Int) = 1 := by
  unfold vk
  have : (-(k : Int)).toNat = 0 := by omega
  rw [this, Nat.pow_zero]
theorem vn_neg (D k : Nat) : vn D (-(k : Int)) = D * unit1 := by
  unfold vn unit1
  have : (-(k : Int)).toNat = 0 := by omega
  rw [this, Nat.pow_zero, Nat.mul_one]
theorem vk_neg (k : Nat) : vk (-(k : Int)) = 10 ^ k := by
  unfold vk
  rw [Int.neg_neg, Int.toNat_natCast]
end Fl

theorem exact_any (D : Nat) (P : Int) (s : Bool) (bp op : Nat) (w : World) (hp : Powers w bp op) (h0 : 0 < D) (hD : D < 18446744073709551616) (hP1 : -1000 < P) (hP2 : P < 1000) :
    Calls Tryz.prog 125 #[.int .u64 D, .int .i64 P, .bool s] w (ExactOut s (Fl.vn D P) (Fl.vk P) w) := by
  rcases Nat.lt_or_ge D 4503599627370496 with hs | hs
  rotate_left
  · exact exact_big D P s _ _ w hp.m52 hs hD
  obtain ⟨r0, hv, hr, hr2, hw⟩ := Fl.whole_rung h0 (X := D) (by omega)
  have hf0 := floatOfInt_whole hw
  have hneg : s = true → Op.negFloat .f64 (Ieee.double.word false r0) = Ieee.double.word s r0 := by
    rintro rfl; exact neg_word r0 hr
  have hpos : s = false → Ieee.double.word false r0 = Ieee.double.word s r0 := by
    rintro rfl; rfl
  rcases Int.lt_or_le P 0 with hn | hn
  · obtain ⟨k, rfl⟩ : ∃ k : Nat, P = -(k : Int) := ⟨P.natAbs, by omega⟩
    rw [Fl.vn_neg, Fl.vk_neg]
    rcases Nat.lt_or_ge k 23 with hk | hk
    · obtain ⟨b, hb, hR⟩ := Fl.div_rounds s r0 D k hr hr2 hv hk
      exact exact_neg D k _ _ _ b bp op _ s _ _ w hp hs (by omega) (by omega) rfl hf0 hneg hpos rfl hb hR
    · exact exact_nfar D _ s _ _ w hp.m52 hs (by omega) hP1
  · obtain ⟨k, rfl⟩ : ∃ k : Nat, P = (k : Int) := ⟨P.natAbs, by omega⟩
    rw [Fl.vn_nat, Fl.vk_nat]
    rcases Nat.eq_zero_or_pos k with hk0 | hk0
    · subst hk0
      rw [Nat.pow_zero, Nat.mul_one]
      refine exact_zero D _ _ s _ _ w hp.m52 hs hf0 hneg hpos (Fl.rounds_near hr ?_)
      have := Fl.near_self r0
      rwa [hv] at this
    rcases Nat.lt_or_ge k 23 with hk | hk
    · obtain ⟨b, hb, hR⟩ := Fl.mul_rounds s r0 D k hr hr2 hv hk
      exact exact_pos D k _ _ _ b bp op s (Fl.bigR r0) _ _ w hp hs hk0 (by omega) hf0 hneg hpos rfl (Fl.gt_e15 s r0 hr) (Fl.lt_me15 s r0 hr) hb (fun _ => hR)
    rcases Nat.lt_or_ge k 38 with hk' | hk'
    · obtain ⟨g, hg, r1, hg1, hn1⟩ := Fl.mul_rounds s r0 D (k - 22) hr hr2 hv (by omega)
      have hX : D * 10 ^ (k - 22) ≤ 2 ^ 110 := by
        have a : 10 ^ (k - 22) ≤ 10 ^ 15 := Nat.pow_le_pow_right (by decide) (by omega)
        have b : D * 10 ^ (k - 22) ≤ 4503599627370496 * 10 ^ 15 := Nat.mul_le_mul (by omega) a
        refine Nat.le_trans b (by decide)
      have hr1 := Fl.near_lt_inf hX hn1
      rw [Nat.min_eq_left (Nat.le_of_lt hr1)] at hg1
      rewrite [hg1] at hg
      clear hX
      obtain ⟨b, hb⟩ := Fl.mul_some s r1 22 hr1 (by omega)
      refine exact_mid D k _ _ _ (Ieee.double.word s r1) b bp op s (Fl.bigR r1) _ _ w hp hs (by omega) (by omega) hf0 hneg hpos rfl hg (Fl.gt_e15 s r1 hr1) (Fl.lt_me15 s r1 hr1) hb (fun hbg => ?_)
      have hX0 : 0 < D * 10 ^ (k - 22) := Nat.mul_pos h0 (Nat.pow_pos (by decide))
      obtain ⟨hv1, _, h3⟩ := Fl.whole_of_small hX0 hn1 hbg
      obtain ⟨b', hb', hR⟩ := Fl.mul_rounds s r1 (D * 10 ^ (k - 22)) 22 hr1 h3 hv1 (by omega)
      rw [hb] at hb'
      injection hb' with hb'
      subst hb'
      have e : D * 10 ^ k = D * 10 ^ (k - 22) * 10 ^ 22 := by
        rw [Nat.mul_assoc, ← Nat.pow_add, show k - 22 + 22 = k by omega]
      rewrite [e]
      exact hR
    · exact exact_far D k s _ _ w hp.m52 hs hk' (by omega)

end Go.Proofs.YtfemnjgcodcfkaaGreatDoor
