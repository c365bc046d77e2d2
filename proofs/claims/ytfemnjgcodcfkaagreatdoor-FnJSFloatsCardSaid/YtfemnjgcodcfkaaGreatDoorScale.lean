/-
  Plain law, part 13: the code of uscale, with its two products of 64 bits, gives the unrounded scaling.
-/
import Derived.Test.YtfemnjgcodcfkaaGreatDoorFarey
namespace Go.Proofs.YtfemnjgcodcfkaaGreatDoor
namespace Fl

def usCode (H M L s : Nat) : Nat :=
  if H / 2 ^ s * 2 ^ s ≠ H then stick (H / 2 ^ s) true else if M < L then stick ((H - 1) / 2 ^ s) true else stick (H / 2 ^ s) (decide (1 < M - L))

theorem up_code {x hi lo R : Nat} (h0 : 0 < R) (hle : lo ≤ hi * R) :
    (x * (hi * R - lo) + (R - 1)) / R + x * lo / R = (x * hi / R) * R + x * hi % R := by
  obtain ⟨A, hA⟩ : ∃ A, A = x * hi := ⟨_, rfl⟩
  have e1 : A / R * R + A % R = A := by rw [Nat.mul_comm]; exact Nat.div_add_mod A R
  rw [← hA, e1]
  have e2 : x * (hi * R - lo) + x * lo = A * R := by
    rw [← Nat.mul_add, Nat.sub_add_cancel hle, hA, Nat.mul_assoc]
  obtain ⟨B, hB⟩ : ∃ B, B = x * lo := ⟨_, rfl⟩
  obtain ⟨C, hC⟩ : ∃ C, C = x * (hi * R - lo) := ⟨_, rfl⟩
  rw [← hB, ← hC] at e2
  rw [← hB, ← hC]
  have d1 := Nat.div_add_mod B R
  have m1 := Nat.mod_lt B h0
  obtain ⟨q, hq⟩ : ∃ q, q = B / R := ⟨_, rfl⟩
  obtain ⟨r, hr⟩ : ∃ r, r = B % R := ⟨_, rfl⟩
  rw [← hq, ← hr] at d1
  rw [← hr] at m1
  rw [← hq]
  have hqA : q ≤ A := by
    rcases Nat.lt_or_ge A q with h | h
    · exfalso
      have := (Nat.mul_lt_mul_left h0).2 h
      rw [Nat.mul_comm R A] at this
      omega
    · exact h
  have hC2 : C + r = (A - q) * R := by
    rw [Nat.sub_mul, Nat.mul_comm q R]; omega
  have : (C + (R - 1)) / R = A - q := by
    have h5 : A - q ≤ (C + (R - 1)) / R := (Nat.le_div_iff_mul_le h0).2 (by omega)
    have h6 : (C + (R - 1)) / R < A - q + 1 := Nat.div_lt_of_lt_mul (by rw [Nat.mul_succ, Nat.mul_comm]; omega)
    omega
  rw [this]; omega

theorem us_code (x hi lo s : Nat) (hx : x < R64) (hlo : lo < R64) (hle : lo ≤ hi * R64) :
    us x (hi * R64 - lo) s = usCode (x * hi / R64) (x * hi % R64) (x * lo / R64) s := by
  have h0 := R64_pos
  have hR : 2 ^ 64 = R64 := by decide
  have hR4 : 4 ≤ R64 := by decide
  unfold us upTo usCode
  rw [Nat.pow_add, hR]
  have e := up_code (x := x) h0 hle
  have hL : x * lo / R64 + 2 ≤ R64 := by
    have h1 : x * lo ≤ (R64 - 1) * (R64 - 1) := Nat.mul_le_mul (by omega) (by omega)
    have h2 : x * lo / R64 < R64 - 1 := Nat.div_lt_of_lt_mul (by
      have : (R64 - 1) * (R64 - 1) < R64 * (R64 - 1) := (Nat.mul_lt_mul_right (by omega)).2 (by omega)
      omega)
    omega
  have hM := Nat.mod_lt (x * hi) h0
  generalize R64 = R at *
  generalize (x * (hi * R - lo) + (R - 1)) / R = W at *
  generalize x * hi / R = H at *
  generalize x * hi % R = M at *
  generalize x * lo / R = L at *
  have hg := Nat.two_pow_pos s
  generalize 2 ^ s = g at *
  rw [← Nat.div_div_eq_div_mul, Nat.mod_mul]
  have hd := Nat.div_add_mod H g
  have hm := Nat.mod_lt H hg
  have hHg : g * (H / g) = H / g * g := Nat.mul_comm _ _
  by_cases hML : M < L
  · have hH1 : 1 ≤ H := by
      rcases Nat.eq_zero_or_pos H with h | h
      · subst h; rw [Nat.zero_mul] at e; omega
      · exact h
    obtain ⟨K, rfl⟩ : ∃ K, H = K + 1 := ⟨H - 1, by omega⟩
    have eW : W = K * R + (M + R - L) := by rw [Nat.succ_mul] at e; omega
    have q1 : W / R = K := by
      rw [eW, Nat.mul_comm K R, Nat.mul_add_div h0, Nat.div_eq_of_lt (show M + R - L < R by omega), Nat.add_zero]
    have q2 : W % R = M + R - L := by
      rw [eW, Nat.mul_comm K R, Nat.mul_add_mod, Nat.mod_eq_of_lt (show M + R - L < R by omega)]
    rw [q1, q2]
    have hst : 1 < M + R - L + R * (K % g) := by omega
    rw [decide_eq_true hst]
    by_cases hz : (K + 1) / g * g ≠ K + 1
    · rw [if_pos hz]
      congr 1
      have hmod : 1 ≤ (K + 1) % g := by omega
      have h5 : (K + 1) / g ≤ K / g := (Nat.le_div_iff_mul_le hg).2 (by omega)
      have h6 : K / g ≤ (K + 1) / g := Nat.div_le_div_right (by omega)
      omega
    · rw [if_neg hz, if_pos hML, Nat.add_sub_cancel]
  · have eW : W = H * R + (M - L) := by omega
    have q1 : W / R = H := by
      rw [eW, Nat.mul_comm H R, Nat.mul_add_div h0, Nat.div_eq_of_lt (show M - L < R by omega), Nat.add_zero]
    have q2 : W % R = M - L := by
      rw [eW, Nat.mul_comm H R, Nat.mul_add_mod, Nat.mod_eq_of_lt (show M - L < R by omega)]
    rw [q1, q2]
    by_cases hz : H / g * g ≠ H
    · rw [if_pos hz]
      have hmod : 1 ≤ H % g := by omega
      have : R * 1 ≤ R * (H % g) := Nat.mul_le_mul_left R hmod
      have hst : 1 < M - L + R * (H % g) := by omega
      rw [decide_eq_true hst]
    · rw [if_neg hz, if_neg hML]
      have hmod : H % g = 0 := by omega
      rw [hmod, Nat.mul_zero, Nat.add_zero]

theorem stick_le (f : Nat) (b : Bool) : stick f b ≤ f + 1 := by
  unfold stick
  cases b
  · show f ||| 0 ≤ f + 1
    rw [Nat.or_zero]; omega
  · show f ||| 1 ≤ f + 1
    rw [or_one]; omega

theorem us_bound_core (x T s B C : Nat) (hx : x < R64) (hT : T ≤ B) (hBC : B ≤ C * 2 ^ (64 + s)) : us x T s ≤ C + 1 := by
  have h1 := upTo_hi x T
  have h2 : x * T ≤ R64 * B := Nat.mul_le_mul (Nat.le_of_lt hx) hT
  have h3 : upTo x T ≤ B := by
    clear hBC
    generalize upTo x T = V at *
    generalize R64 = R at *
    have h4 : R * V < R * (B + 1) := by rw [Nat.mul_add, Nat.mul_one]; omega
    exact Nat.le_of_lt_succ (Nat.lt_of_mul_lt_mul_left h4)
  have h5 : upTo x T / 2 ^ (64 + s) ≤ C := Nat.div_le_of_le_mul (by rw [Nat.mul_comm]; exact Nat.le_trans h3 hBC)
  exact Nat.le_trans (stick_le _ _) (Nat.succ_le_succ h5)

theorem us_bound (x T s : Nat) (hx : x < R64) (hT : T ≤ 2 ^ 128) (hs : 3 ≤ s) : us x T s ≤ 4611686018427387904 := by
  have h := us_bound_core x T s (2 ^ 128) (2 ^ 61) hx hT (by
    rewrite [← Nat.pow_add]
    exact Nat.pow_le_pow_right (by decide) (by omega))
  exact Nat.le_trans h (by decide)

end Fl
end Go.Proofs.YtfemnjgcodcfkaaGreatDoor
