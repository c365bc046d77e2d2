/- Plain law, part 1: the magnitudes of float64 by their rungs; 'Near r n k': the rung r is nearest to n/k (in units of 2^-1074), ties to even; that rung is unique; what rounding to a place gives is near. Plain law, part 2: two neighbouring fractions round A/B: no multiple of A/B by a number below the sum of their denominators comes nearer to a whole number than they do ('close_of_chk'); and the unrounded scaling by a rounded-up table ('us'), held against even numbers ('us_cmp'). -/


namespace Go.Proofs.YtfemnjgcodcfkaaGreatDoor
namespace Fl

/-- The significand of a rung. -/
def mag (r : Nat) : Nat := if r < 4503599627370496 then r else 4503599627370496 + r % 4503599627370496
/-- The place above the least one. -/
def sh (r : Nat) : Nat := r / 4503599627370496 - 1
/-- The magnitude of a rung in units of 2^-1074. -/
def val (r : Nat) : Nat := mag r * 2 ^ sh r

def Near (r n k : Nat) : Prop :=
  (∀ q, q + 1 = r → (val q + val r) * k < 2 * n ∨ ((val q + val r) * k = 2 * n ∧ r % 2 = 0)) ∧
  (2 * n < (val r + val (r + 1)) * k ∨ (2 * n = (val r + val (r + 1)) * k ∧ r % 2 = 0))

theorem val_at (t m : Nat) (hm : m ≤ 9007199254740992) (h : t = 0 ∨ 4503599627370496 ≤ m) : val (t * 4503599627370496 + m) = m * 2 ^ t := by
  unfold val
  by_cases h1 : m < 4503599627370496
  · obtain rfl : t = 0 := by omega
    have e1 : mag (0 * 4503599627370496 + m) = m := by unfold mag; rw [if_pos (by omega)]; omega
    have e2 : sh (0 * 4503599627370496 + m) = 0 := by unfold sh; omega
    rw [e1, e2]
  · by_cases h2 : m < 9007199254740992
    · have e1 : mag (t * 4503599627370496 + m) = m := by unfold mag; rw [if_neg (by omega)]; omega
      have e2 : sh (t * 4503599627370496 + m) = t := by unfold sh; omega
      rw [e1, e2]
    · obtain rfl : m = 9007199254740992 := by omega
      have e1 : mag (t * 4503599627370496 + 9007199254740992) = 4503599627370496 := by unfold mag; rw [if_neg (by omega)]; omega
      have e2 : sh (t * 4503599627370496 + 9007199254740992) = t + 1 := by unfold sh; omega
      rw [e1, e2, Nat.pow_succ]
      have : (9007199254740992 : Nat) = 4503599627370496 * 2 := rfl
      rw [this, Nat.mul_assoc, Nat.mul_comm 2]

/-- Every rung is of that form. -/
theorem rung_form (r : Nat) : ∃ t m, r = t * 4503599627370496 + m ∧ m < 9007199254740992 ∧ (t = 0 ∨ 4503599627370496 ≤ m) := by
  by_cases h : r < 9007199254740992
  · exact ⟨0, r, by omega, h, Or.inl rfl⟩
  · refine ⟨r / 4503599627370496 - 1, 4503599627370496 + r % 4503599627370496, ?_, ?_, Or.inr (by omega)⟩
    · omega
    · omega

theorem val_succ (t m : Nat) (hm : m < 9007199254740992) (h : t = 0 ∨ 4503599627370496 ≤ m) : val (t * 4503599627370496 + m + 1) = m * 2 ^ t + 2 ^ t := by
  have e : t * 4503599627370496 + m + 1 = t * 4503599627370496 + (m + 1) := by omega
  rw [e, val_at t (m + 1) (by omega) (by omega), Nat.succ_mul]

theorem val_lt_succ (r : Nat) : val r < val (r + 1) := by
  obtain ⟨t, m, rfl, hm, h⟩ := rung_form r
  rw [val_at t m (by omega) h, val_succ t m hm h]
  have := Nat.two_pow_pos t
  omega

theorem val_mono {a b : Nat} (h : a ≤ b) : val a ≤ val b := by
  induction b with
  | zero => have : a = 0 := by omega
            subst this; exact Nat.le_refl _
  | succ b ih =>
    rcases Nat.lt_or_ge a (b + 1) with h1 | h1
    · exact Nat.le_trans (ih (by omega)) (Nat.le_of_lt (val_lt_succ b))
    · have : a = b + 1 := by omega
      subst this; exact Nat.le_refl _

theorem val_strict {a b : Nat} (h : a < b) : val a < val b := Nat.lt_of_lt_of_le (val_lt_succ a) (val_mono h)

theorem near_not_lt {r s n k : Nat} (hk : 0 < k) (hr : Near r n k) (hs : Near s n k) : ¬ r < s := by
  intro hlt
  obtain ⟨q, rfl⟩ : ∃ q, q + 1 = s := ⟨s - 1, by omega⟩
  have h1 := hs.1 q rfl
  have h2 := hr.2
  have m1 : val r ≤ val q := val_mono (by omega)
  have m2 : val (r + 1) ≤ val (q + 1) := val_mono (by omega)
  have m3 : (val r + val (r + 1)) * k ≤ (val q + val (q + 1)) * k := Nat.mul_le_mul_right k (by omega)
  have heq : (val r + val (r + 1)) * k = (val q + val (q + 1)) * k := by omega
  have heq2 : val r + val (r + 1) = val q + val (q + 1) := Nat.eq_of_mul_eq_mul_right hk heq
  have : ¬ r < q := fun h => by
    have := val_strict h
    omega
  have : r = q := by omega
  subst this
  omega

theorem near_unique {r s n k : Nat} (hk : 0 < k) (hr : Near r n k) (hs : Near s n k) : r = s := by
  have := near_not_lt hk hr hs
  have := near_not_lt hk hs hr
  omega

theorem near_scale {r n k c : Nat} (hc : 0 < c) : Near r (n * c) (k * c) ↔ Near r n k := by
  unfold Near
  have e1 : ∀ a : Nat, a * (k * c) < 2 * (n * c) ↔ a * k < 2 * n := fun a => by
    rw [← Nat.mul_assoc, ← Nat.mul_assoc]; exact Nat.mul_lt_mul_right hc
  have e2 : ∀ a : Nat, a * (k * c) = 2 * (n * c) ↔ a * k = 2 * n := fun a => by
    rw [← Nat.mul_assoc, ← Nat.mul_assoc]; exact ⟨Nat.eq_of_mul_eq_mul_right hc, fun h => by rw [h]⟩
  have e3 : ∀ a : Nat, 2 * (n * c) < a * (k * c) ↔ 2 * n < a * k := fun a => by
    rw [← Nat.mul_assoc, ← Nat.mul_assoc]; exact Nat.mul_lt_mul_right hc
  have e4 : ∀ a : Nat, 2 * (n * c) = a * (k * c) ↔ 2 * n = a * k := fun a => by
    rw [← Nat.mul_assoc, ← Nat.mul_assoc]; exact ⟨Nat.eq_of_mul_eq_mul_right hc, fun h => by rw [h]⟩
  simp only [e1, e2, e3, e4]

/-- The same value as another fraction. -/
theorem near_same {r n k n' k' : Nat} (hk : 0 < k) (hk' : 0 < k') (h : n * k' = n' * k) (hr : Near r n k) : Near r n' k' := by
  rw [← near_scale hk, ← h, Nat.mul_comm k' k]
  exact (near_scale hk').2 hr

/-- What is rounded to the place t (above the least) is near: m is n / (k * 2^t), half to even; and the place is the least one or the significand is full. -/
theorem near_of_round (t m n k : Nat) (hm : m ≤ 9007199254740992)
    (lo : 2 * m * (k * 2 ^ t) < 2 * n + k * 2 ^ t ∨ (2 * m * (k * 2 ^ t) = 2 * n + k * 2 ^ t ∧ m % 2 = 0))
    (hi : 2 * n < (2 * m + 1) * (k * 2 ^ t) ∨ (2 * n = (2 * m + 1) * (k * 2 ^ t) ∧ m % 2 = 0))
    (ht : t = 0 ∨ (4503599627370496 ≤ m ∧ 18014398509481983 * (k * 2 ^ t) ≤ 4 * n)) (hk : 0 < k) : Near (t * 4503599627370496 + m) n k := by
  have hpar : (t * 4503599627370496 + m) % 2 = m % 2 := by omega
  have hK : 0 < k * 2 ^ t := Nat.mul_pos hk (Nat.two_pow_pos t)
  have hv : val (t * 4503599627370496 + m) = m * 2 ^ t := val_at t m hm (by omega)
  refine ⟨fun q hq => ?_, ?_⟩
  · rewrite [hpar, hv]
    by_cases h1 : t = 0 ∨ 4503599627370496 < m
    · have e : q = t * 4503599627370496 + (m - 1) := by omega
      obtain ⟨p, rfl⟩ : ∃ p, m = p + 1 := ⟨m - 1, by omega⟩
      rewrite [e, Nat.add_sub_cancel, val_at t p (by omega) (by omega)]
      have e2 : (p * 2 ^ t + (p + 1) * 2 ^ t) * k = (2 * p + 1) * (k * 2 ^ t) := by
        have e : p * 2 ^ t + (p + 1) * 2 ^ t = (2 * p + 1) * 2 ^ t := by
          rw [← Nat.add_mul, show p + (p + 1) = 2 * p + 1 by omega]
        rw [e, Nat.mul_assoc, Nat.mul_comm (2 ^ t) k]
      have e3 : 2 * (p + 1) * (k * 2 ^ t) = (2 * p + 1) * (k * 2 ^ t) + k * 2 ^ t := by
        rw [show 2 * (p + 1) = (2 * p + 1) + 1 by omega, Nat.succ_mul]
      rewrite [e2]
      rewrite [e3] at lo
      clear e3 e2 hi ht e hq hpar hv
      generalize (2 * p + 1) * (k * 2 ^ t) = X at *
      generalize k * 2 ^ t = K at *
      omega
    · obtain ⟨h2, h3⟩ : 4503599627370496 ≤ m ∧ 18014398509481983 * (k * 2 ^ t) ≤ 4 * n := by omega
      have hm' : m = 4503599627370496 := by omega
      have hev : m % 2 = 0 := by omega
      obtain ⟨u, rfl⟩ : ∃ u, t = u + 1 := ⟨t - 1, by omega⟩
      have e : q = u * 4503599627370496 + 9007199254740991 := by omega
      rewrite [e, val_at u 9007199254740991 (by omega) (by omega)]
      have e2 : (9007199254740991 * 2 ^ u + m * 2 ^ (u + 1)) * k = 18014398509481983 * (k * 2 ^ u) := by
        have e : 9007199254740991 * 2 ^ u + m * 2 ^ (u + 1) = 18014398509481983 * 2 ^ u := by
          rewrite [Nat.pow_succ, hm']; generalize 2 ^ u = P; omega
        rewrite [e, Nat.mul_assoc, Nat.mul_comm (2 ^ u) k]; exact Eq.refl _
      have e3 : k * 2 ^ (u + 1) = 2 * (k * 2 ^ u) := by rw [Nat.pow_succ, ← Nat.mul_assoc, Nat.mul_comm 2]
      rewrite [e2]
      rewrite [e3, Nat.mul_left_comm] at h3
      have hX : 18014398509481983 * (k * 2 ^ u) ≤ 2 * n := by
        generalize 18014398509481983 * (k * 2 ^ u) = X at *
        omega
      rcases Nat.lt_or_eq_of_le hX with h | h
      · exact Or.inl h
      · exact Or.inr ⟨h, hev⟩
  · rewrite [hpar, hv]
    by_cases h1 : m < 9007199254740992
    · rewrite [val_succ t m h1 (by omega)]
      have e2 : (m * 2 ^ t + (m * 2 ^ t + 2 ^ t)) * k = (2 * m + 1) * (k * 2 ^ t) := by
        have e : m * 2 ^ t + (m * 2 ^ t + 2 ^ t) = (2 * m + 1) * 2 ^ t := by
          rw [Nat.succ_mul, Nat.mul_assoc]; omega
        rw [e, Nat.mul_assoc, Nat.mul_comm (2 ^ t) k]
      rewrite [e2]; exact hi
    · have hm' : m = 9007199254740992 := by omega
      have e : t * 4503599627370496 + m + 1 = (t + 1) * 4503599627370496 + 4503599627370497 := by omega
      rewrite [e, val_at (t + 1) 4503599627370497 (by omega) (by omega)]
      left
      have e2 : (m * 2 ^ t + 4503599627370497 * 2 ^ (t + 1)) * k = (2 * m + 2) * (k * 2 ^ t) := by
        have e : m * 2 ^ t + 4503599627370497 * 2 ^ (t + 1) = (2 * m + 2) * 2 ^ t := by
          rewrite [Nat.pow_succ, hm']; generalize 2 ^ t = P; omega
        rewrite [e, Nat.mul_assoc, Nat.mul_comm (2 ^ t) k]; exact Eq.refl _
      have e4 : (2 * m + 2) * (k * 2 ^ t) = (2 * m + 1) * (k * 2 ^ t) + k * 2 ^ t := Nat.succ_mul (2 * m + 1) (k * 2 ^ t)
      rewrite [e2, e4]
      have hX : 2 * n ≤ (2 * m + 1) * (k * 2 ^ t) := by
        rcases hi with h | h
        · exact Nat.le_of_lt h
        · exact Nat.le_of_eq h.1
      exact Nat.lt_of_le_of_lt hX (Nat.lt_add_of_pos_right hK)

end Fl
end Go.Proofs.YtfemnjgcodcfkaaGreatDoor

namespace Go.Proofs.YtfemnjgcodcfkaaGreatDoor
namespace Fl

theorem farey (A B ql pl qh ph x y : Int) (det : ph * ql = pl * qh + 1) (hql : 0 ≤ ql) (hqh : 0 ≤ qh) (hdl : 0 ≤ ql * A - pl * B) (hdh : 0 < ph * B - qh * A) (hx : 0 < x) (hxs : x < ql + qh) :
    (x * A - y * B = 0 ∧ ql * A - pl * B = 0) ∨ (ql * A - pl * B = 0 ∧ ph * B - qh * A ≤ x * A - y * B) ∨ (0 < ql * A - pl * B ∧ ql * A - pl * B ≤ x * A - y * B) ∨ x * A - y * B ≤ -(ph * B - qh * A) := by
  obtain ⟨u, hu⟩ : ∃ u, u = x * ph - y * qh := ⟨_, rfl⟩
  obtain ⟨v, hv⟩ : ∃ v, v = y * ql - x * pl := ⟨_, rfl⟩
  have hx' : x = u * ql + v * qh := by
    have : u * ql + v * qh = x * (ph * ql) - x * (pl * qh) := by
      rw [hu, hv]
      simp only [Int.sub_mul, Int.mul_assoc]
      rw [Int.mul_comm qh ql]
      omega
    rw [this, det, Int.mul_add]; omega
  obtain ⟨dl, hdl'⟩ : ∃ dl, dl = ql * A - pl * B := ⟨_, rfl⟩
  obtain ⟨dh, hdh'⟩ : ∃ dh, dh = ph * B - qh * A := ⟨_, rfl⟩
  have hD : x * A - y * B = u * dl - v * dh := by
    have e1 : u * dl - v * dh = x * A * (ph * ql) - x * A * (pl * qh) - y * B * (ph * ql) + y * B * (pl * qh) := by
      rw [hu, hv, hdl', hdh']
      simp only [Int.sub_mul, Int.mul_sub]
      have a1 : x * ph * (ql * A) = x * A * (ph * ql) := by simp only [Int.mul_comm, Int.mul_left_comm]
      have a2 : y * qh * (ql * A) = y * ql * (qh * A) := by simp only [Int.mul_comm, Int.mul_left_comm]
      have a3 : x * ph * (pl * B) = x * pl * (ph * B) := by simp only [Int.mul_comm, Int.mul_left_comm]
      have a4 : y * qh * (pl * B) = y * B * (pl * qh) := by simp only [Int.mul_comm, Int.mul_left_comm]
      have a5 : y * ql * (ph * B) = y * B * (ph * ql) := by simp only [Int.mul_comm, Int.mul_left_comm]
      have a6 : x * pl * (qh * A) = x * A * (pl * qh) := by simp only [Int.mul_comm, Int.mul_left_comm]
      rw [a1, a2, a3, a4, a5, a6]
      omega
    rw [e1, det]
    simp only [Int.mul_add, Int.mul_one]
    omega
  rw [← hdl', ← hdh', hD]
  rw [← hdl'] at hdl
  rw [← hdh'] at hdh
  by_cases hv0 : v ≤ 0
  · have hu1 : 1 ≤ u := by
      have h1 : v * qh ≤ 0 := Int.mul_nonpos_of_nonpos_of_nonneg hv0 hqh
      have h2 : 0 < u * ql := by omega
      rcases (show 0 < u ∨ u ≤ 0 by omega) with h | h
      · omega
      · have := Int.mul_nonpos_of_nonpos_of_nonneg h hql
        omega
    have h3 : dl ≤ u * dl := by
      have := Int.mul_le_mul_of_nonneg_right hu1 hdl
      omega
    have h4 : v * dh ≤ 0 := Int.mul_nonpos_of_nonpos_of_nonneg hv0 (by omega)
    by_cases hz : dl = 0
    · rw [hz, Int.mul_zero]
      by_cases hvz : v = 0
      · left; rw [hvz, Int.zero_mul]; exact ⟨rfl, rfl⟩
      · right; left
        have h5 : v * dh ≤ -1 * dh := Int.mul_le_mul_of_nonneg_right (by omega) (by omega)
        exact ⟨rfl, by omega⟩
    · right; right; left
      exact ⟨by omega, by omega⟩
  · right; right; right
    have hu0 : u ≤ 0 := by
      rcases (show 0 < u ∨ u ≤ 0 by omega) with h | h
      · have h1 : ql ≤ u * ql := by
          have := Int.mul_le_mul_of_nonneg_right (show 1 ≤ u by omega) hql
          omega
        have h2 : qh ≤ v * qh := by
          have := Int.mul_le_mul_of_nonneg_right (show 1 ≤ v by omega) hqh
          omega
        omega
      · exact h
    have h3 : u * dl ≤ 0 := Int.mul_nonpos_of_nonpos_of_nonneg hu0 hdl
    have h4 : dh ≤ v * dh := by
      have := Int.mul_le_mul_of_nonneg_right (show 1 ≤ v by omega) (show 0 ≤ dh by omega)
      omega
    omega

/-- A multiple of A/B is whole, or eps/B from every whole number. -/
def Close (A B eps x y : Nat) : Prop := x * A = y * B ∨ x * A + eps ≤ y * B ∨ y * B + eps ≤ x * A

def chk (A B eps lim ql qh : Nat) : Bool :=
  (qh * A / B + 1) * ql == ql * A / B * qh + 1 && decide (lim ≤ ql + qh) && (ql * A % B == 0 || decide (eps ≤ ql * A % B)) && decide (eps ≤ B - qh * A % B) && decide (0 < B)

theorem close_of_chk {A B eps lim ql qh : Nat} (h : chk A B eps lim ql qh = true) (x y : Nat) (hx : 0 < x) (hl : x < lim) : Close A B eps x y := by
  unfold chk at h
  simp only [Bool.and_eq_true, beq_iff_eq, decide_eq_true_eq, Bool.or_eq_true] at h
  obtain ⟨⟨⟨⟨det, hlim⟩, h1⟩, h2⟩, hB⟩ := h
  obtain ⟨pl, hpl⟩ : ∃ pl, pl = ql * A / B := ⟨_, rfl⟩
  obtain ⟨ph, hph⟩ : ∃ ph, ph = qh * A / B + 1 := ⟨_, rfl⟩
  have e1 : B * pl + ql * A % B = ql * A := by rw [hpl]; exact Nat.div_add_mod _ _
  have e2 : B * ph = qh * A + (B - qh * A % B) := by
    have := Nat.div_add_mod (qh * A) B
    have := Nat.mod_lt (qh * A) hB
    rw [hph, Nat.mul_succ]; omega
  rw [← hph, ← hpl] at det
  have hm := Nat.mod_lt (qh * A) hB
  obtain ⟨dl, hdl⟩ : ∃ dl, dl = ql * A % B := ⟨_, rfl⟩
  obtain ⟨dh, hdh⟩ : ∃ dh, dh = B - qh * A % B := ⟨_, rfl⟩
  rw [← hdl] at h1 e1
  rw [← hdh] at h2 e2
  have hdh0 : 0 < dh := by omega
  have i1 : (ql : Int) * A - pl * B = dl := by
    have : ((B * pl + dl : Nat) : Int) = ((ql * A : Nat) : Int) := by rw [e1]
    simp only [Int.natCast_add, Int.natCast_mul] at this
    rw [Int.mul_comm (pl : Int)]; omega
  have i2 : (ph : Int) * B - qh * A = dh := by
    have : ((B * ph : Nat) : Int) = ((qh * A + dh : Nat) : Int) := by rw [e2]
    simp only [Int.natCast_add, Int.natCast_mul] at this
    rw [Int.mul_comm (ph : Int)]; omega
  have idet : (ph : Int) * ql = pl * qh + 1 := by
    have : ((ph * ql : Nat) : Int) = ((pl * qh + 1 : Nat) : Int) := by rw [det]
    simp only [Int.natCast_add, Int.natCast_mul] at this
    omega
  have F := farey A B ql pl qh ph x y idet (by omega) (by omega) (by omega) (by omega) (by omega) (by omega)
  rw [i1, i2] at F
  have c1 : ((x * A : Nat) : Int) = (x : Int) * A := by simp
  have c2 : ((y * B : Nat) : Int) = (y : Int) * B := by simp
  rw [← c1, ← c2] at F
  unfold Close
  omega

theorem or_one (f : Nat) : f ||| 1 = 2 * (f / 2) + 1 := by
  have h : f = 2 ^ 1 * (f / 2) ||| f % 2 := by
    rw [← Nat.two_pow_add_eq_or_of_lt (show f % 2 < 2 ^ 1 by omega)]; omega
  have h2 : f % 2 ||| 1 = 1 := by
    rcases (show f % 2 = 0 ∨ f % 2 = 1 by omega) with e | e <;> rw [e] <;> decide
  have h3 : 2 ^ 1 * (f / 2) ||| 1 = 2 ^ 1 * (f / 2) + 1 := (Nat.two_pow_add_eq_or_of_lt (show 1 < 2 ^ 1 by omega) _).symm
  rw [Nat.pow_one] at h3 h
  have h4 : f ||| 1 = (2 * (f / 2) ||| f % 2) ||| 1 := congrArg (· ||| 1) h
  rw [h4, Nat.or_assoc, h2, h3]

/-- An even number against what was cut: f is the floor, b tells that something was left. -/
def stick (f : Nat) (b : Bool) : Nat := f ||| b.toNat

theorem stick_lt {f N : Nat} (b : Bool) (hN : N % 2 = 0) (h : f < N) : stick f b < N := by
  unfold stick
  cases b
  · simpa using h
  · show f ||| 1 < N
    rw [or_one]; omega

theorem stick_gt {f N : Nat} (h : N < f) (b : Bool) : N < stick f b := by
  unfold stick
  cases b
  · simpa using h
  · show N < f ||| 1
    rw [or_one]; omega

theorem stick_true_gt {N : Nat} (hN : N % 2 = 0) : N < stick N true := by
  show N < N ||| 1
  rw [or_one]; omega

theorem stick_false (f : Nat) : stick f false = f := by simp [stick]

/-- Two fractions of one product: W is x * T over R, rounded up. -/
theorem cut_lo {x T A B R W : Nat} (h2 : A ≤ T * B) (w1 : x * T ≤ R * W) : x * A ≤ W * (R * B) := by
  have e1 := Nat.mul_le_mul_left x h2
  have e := Nat.mul_le_mul_right B w1
  have e2 : R * W * B = W * (R * B) := by rw [Nat.mul_comm R W, Nat.mul_assoc]
  rw [e2, Nat.mul_assoc] at e
  omega

theorem cut_hi {x T A B R W : Nat} (hx : x < R) (hB : 0 < B) (h1 : T * B < A + B) (w2 : R * W < x * T + R) : W * (R * B) < x * A + 2 * (R * B) := by
  have e := (Nat.mul_lt_mul_right hB).2 w2
  have e2 : R * W * B = W * (R * B) := by rw [Nat.mul_comm R W, Nat.mul_assoc]
  rw [e2, Nat.add_mul, Nat.mul_assoc] at e
  have e3 := Nat.mul_le_mul_left x (Nat.le_of_lt h1)
  rw [Nat.mul_add] at e3
  have e4 : x * B ≤ R * B := Nat.mul_le_mul_right B (Nat.le_of_lt hx)
  omega

/-- What the cut number is, held against an even number that the exact product does not come too near to. -/
theorem cut_cmp (x A W M Z N : Nat) (hM2 : 2 ≤ M) (hZ0 : 0 < Z) (hN : N % 2 = 0) (a1 : x * A ≤ W * Z) (a2 : W * Z < x * A + 2 * Z)
    (hc : Close A (M * Z) (2 * Z) x N) :
    (x * A < N * (M * Z) → stick (W / M) (decide (1 < W % M)) < N) ∧ (x * A = N * (M * Z) → stick (W / M) (decide (1 < W % M)) = N) ∧
      (N * (M * Z) < x * A → N < stick (W / M) (decide (1 < W % M))) := by
  unfold Close at hc
  have b0 : N * (M * Z) = N * M * Z := (Nat.mul_assoc _ _ _).symm
  rw [b0] at hc ⊢
  refine ⟨fun h => ?_, fun h => ?_, fun h => ?_⟩
  · have : W * Z < N * M * Z := by omega
    have hlt : W < N * M := Nat.lt_of_mul_lt_mul_right this
    exact stick_lt _ hN (Nat.div_lt_of_lt_mul (by rw [Nat.mul_comm]; exact hlt))
  · have g1 : N * M ≤ W := Nat.le_of_mul_le_mul_right (show N * M * Z ≤ W * Z by omega) hZ0
    have g2 : W < N * M + 2 := by
      have : W * Z < (N * M + 2) * Z := by rw [Nat.add_mul]; omega
      exact Nat.lt_of_mul_lt_mul_right this
    have hq : W / M = N := by
      have h5 : N ≤ W / M := (Nat.le_div_iff_mul_le (by omega)).2 g1
      have h6 : W / M < N + 1 := Nat.div_lt_of_lt_mul (by rw [Nat.mul_succ, Nat.mul_comm]; omega)
      omega
    have hr : ¬ 1 < W % M := by
      have := Nat.div_add_mod W M
      rw [hq, Nat.mul_comm] at this
      omega
    rw [hq, decide_eq_false hr, stick_false]
  · have g0 : N * M * Z + 2 * Z ≤ x * A := by omega
    have g1 : N * M + 2 ≤ W := by
      have : (N * M + 2) * Z ≤ W * Z := by rw [Nat.add_mul]; omega
      exact Nat.le_of_mul_le_mul_right this hZ0
    have hq : N ≤ W / M := (Nat.le_div_iff_mul_le (by omega)).2 (by omega)
    rcases Nat.lt_or_eq_of_le hq with h3 | h3
    · exact stick_gt h3 _
    · have hr : 1 < W % M := by
        have := Nat.div_add_mod W M
        rw [← h3, Nat.mul_comm] at this
        omega
      rw [← h3, decide_eq_true hr]
      exact stick_true_gt hN

theorem cut_le (x A W M Z N : Nat) (hM2 : 2 ≤ M) (a2 : W * Z < x * A + 2 * Z) (h : x * A ≤ N * (M * Z)) : stick (W / M) (decide (1 < W % M)) ≤ N ∨ N % 2 = 1 := by
  rcases (show N % 2 = 0 ∨ N % 2 = 1 by omega) with hN | hN
  · left
    rw [← Nat.mul_assoc] at h
    have g2 : W < N * M + 2 := by
      have : W * Z < (N * M + 2) * Z := by rw [Nat.add_mul]; omega
      exact Nat.lt_of_mul_lt_mul_right this
    by_cases hq : W / M < N
    · exact Nat.le_of_lt (stick_lt _ hN hq)
    · have h5 : N ≤ W / M := by omega
      have h7 : N * M ≤ W := (Nat.le_div_iff_mul_le (by omega)).1 h5
      have h6 : W / M < N + 1 := Nat.div_lt_of_lt_mul (by rw [Nat.mul_succ, Nat.mul_comm]; omega)
      have hq : W / M = N := by omega
      have hr : ¬ 1 < W % M := by
        have := Nat.div_add_mod W M
        rw [hq, Nat.mul_comm] at this
        omega
      rw [hq, decide_eq_false hr, stick_false]
      exact Nat.le_refl _
  · exact Or.inr hN

theorem cut_ge (x A W M Z N : Nat) (hM : 0 < M) (hZ0 : 0 < Z) (a1 : x * A ≤ W * Z) (h : N * (M * Z) ≤ x * A) (b : Bool) : N ≤ stick (W / M) b := by
  rw [← Nat.mul_assoc] at h
  have g1 : N * M ≤ W := Nat.le_of_mul_le_mul_right (show N * M * Z ≤ W * Z by omega) hZ0
  have hq : N ≤ W / M := (Nat.le_div_iff_mul_le hM).2 g1
  unfold stick
  exact Nat.le_trans hq Nat.left_le_or

/-- The word 2^64, behind a name. -/
def R64 : Nat := 18446744073709551616
theorem R64_pos : 0 < R64 := by decide

/-- The product's upper part, rounded up. -/
def upTo (x T : Nat) : Nat := (x * T + (R64 - 1)) / R64
/-- The unrounded scaling: x * T, its last 64 bits rounded up, cut at 64 + s bits; the last bit says that something was left over (1 counts as nothing). -/
def us (x T s : Nat) : Nat := stick (upTo x T / 2 ^ (64 + s)) (decide (1 < upTo x T % 2 ^ (64 + s)))

theorem upTo_lo (x T : Nat) : x * T ≤ R64 * upTo x T := by
  have h0 := R64_pos
  unfold upTo
  generalize R64 = R at *
  have := Nat.div_add_mod (x * T + (R - 1)) R
  have := Nat.mod_lt (x * T + (R - 1)) h0
  omega

theorem upTo_hi (x T : Nat) : R64 * upTo x T < x * T + R64 := by
  have h0 := R64_pos
  unfold upTo
  generalize R64 = R at *
  have := Nat.div_add_mod (x * T + (R - 1)) R
  omega

theorem pow_two_le (s : Nat) : 2 ≤ 2 ^ (64 + s) := by
  have : 2 ^ 1 ≤ 2 ^ (64 + s) := Nat.pow_le_pow_right (by decide) (by omega)
  rwa [Nat.pow_one] at this

theorem us_cmp (x T A B s N : Nat) (hx : x < R64) (hB : 0 < B) (h1 : T * B < A + B) (h2 : A ≤ T * B) (hN : N % 2 = 0)
    (hc : Close A (2 ^ (64 + s) * (R64 * B)) (2 * (R64 * B)) x N) :
    (x * A < N * (2 ^ (64 + s) * (R64 * B)) → us x T s < N) ∧ (x * A = N * (2 ^ (64 + s) * (R64 * B)) → us x T s = N) ∧
      (N * (2 ^ (64 + s) * (R64 * B)) < x * A → N < us x T s) :=
  cut_cmp x A (upTo x T) _ _ N (pow_two_le s) (Nat.mul_pos R64_pos hB) hN (cut_lo h2 (upTo_lo x T)) (cut_hi hx hB h1 (upTo_hi x T)) hc

theorem us_le (x T A B s N : Nat) (hx : x < R64) (hB : 0 < B) (h1 : T * B < A + B) (hN : N % 2 = 0) (h : x * A ≤ N * (2 ^ (64 + s) * (R64 * B))) : us x T s ≤ N := by
  rcases cut_le x A (upTo x T) _ _ N (pow_two_le s) (cut_hi hx hB h1 (upTo_hi x T)) h with h | h
  · exact h
  · omega

theorem us_ge (x T A B s N : Nat) (hB : 0 < B) (h2 : A ≤ T * B) (h : N * (2 ^ (64 + s) * (R64 * B)) ≤ x * A) : N ≤ us x T s :=
  cut_ge x A (upTo x T) _ _ N (Nat.two_pow_pos _) (Nat.mul_pos R64_pos hB) (cut_lo h2 (upTo_lo x T)) h _

end Fl
end Go.Proofs.YtfemnjgcodcfkaaGreatDoor
