/- Plain law, part 7: shortFloat's arithmetic: what it selects lies in the interval of numbers whose nearest float is the one that was given. Plain law, part 8: the selection, and the regular case of shortFloat. Plain law, part 9: shortFloat gives digits and an exponent whose nearest float is the one that was given. -/
import Derived.Test.YtfemnjgcodcfkaaGreatDoorParseNear

namespace Go.Proofs.YtfemnjgcodcfkaaGreatDoor
namespace Fl

/-- What shortFloat makes of its three unrounded numbers. -/
def sel (p : Int) (umin um umax odd : Nat) : Nat × Int :=
  if (umin + odd + 3) / 4 ≤ (umax - odd) / 4 / 10 * 10 then ((umax - odd) / 4 / 10, -(p - 1))
  else if (umin + odd + 3) / 4 < (umax - odd) / 4 then (rnd um, -p) else ((umin + odd + 3) / 4, -p)

/-- The shift of the scaling at the place a (above the least) for a number moved up by s. -/
def fs (a s : Nat) (p : Int) : Int := -((a : Int) - 1074 - s + l2 p + 3)

def pR (a : Nat) : Int := -l10 ((a : Int) - 1074)
def shortR (M a s : Nat) : Nat × Int :=
  sel (pR a) (us ((2 * M - 1) * 2 ^ (s - 1)) (tabOf (pR a)) (fs a s (pR a)).toNat) (us (2 * M * 2 ^ (s - 1)) (tabOf (pR a)) (fs a s (pR a)).toNat)
    (us ((2 * M + 1) * 2 ^ (s - 1)) (tabOf (pR a)) (fs a s (pR a)).toNat) (M % 2)

/-- The unit of a digit: 10^P in units of 2^-1074 is unitW P / vk P. -/
def unitW (P : Int) : Nat := 10 ^ P.toNat * 2 ^ unitP
theorem vn_eq (D : Nat) (P : Int) : vn D P = D * unitW P := Nat.mul_assoc _ _ _
theorem unitW_pos (P : Int) : 0 < unitW P := Nat.mul_pos (Nat.pow_pos (by decide)) (Nat.two_pow_pos _)

/-- The place's step is one to ten digits' units. -/
def widthChk (a : Nat) : Bool := decide (unitW (-pR a) ≤ 2 ^ a * vk (-pR a)) && decide (2 ^ a * vk (-pR a) ≤ 10 * unitW (-pR a))
theorem width_all : allBelow widthChk 2046 = true := by decide +kernel

theorem width_at {a : Nat} (ha : a < 2046) : unitW (-pR a) ≤ 2 ^ a * vk (-pR a) ∧ 2 ^ a * vk (-pR a) ≤ 10 * unitW (-pR a) := by
  have h := allBelow_at width_all ha
  unfold widthChk at h
  simpa only [Bool.and_eq_true, decide_eq_true_eq] using h

theorem crossF (H a s S : Nat) (p : Int) (hs : 1 ≤ s) (h : (s : Int) + 1071 - l2 p = a + S) :
    (H * 2 ^ (s - 1) * num p) * unitW (-p) = (2 * (H * 2 ^ a * vk (-p))) * (2 ^ (64 + S) * (R64 * den p)) := by
  unfold num den vk unitW
  rw [R64_eq, show (- -p : Int) = p by omega]
  have hu : unitP = 1074 := rfl
  have e1 : s - 1 + (127 - l2 p).toNat + unitP = 1 + a + (64 + S) + 64 + (l2 p - 127).toNat := by omega
  have e2 : 2 ^ (s - 1) * 2 ^ (127 - l2 p).toNat * 2 ^ unitP = 2 ^ 1 * 2 ^ a * 2 ^ (64 + S) * 2 ^ 64 * 2 ^ (l2 p - 127).toNat := by
    rw [← Nat.pow_add, ← Nat.pow_add, e1, Nat.pow_add, Nat.pow_add, Nat.pow_add, Nat.pow_add]
  rw [show 2 ^ 1 = 2 from rfl] at e2
  generalize 10 ^ p.toNat = Q
  generalize 10 ^ (-p).toNat = K
  generalize 2 ^ (s - 1) = x1 at *
  generalize 2 ^ (127 - l2 p).toNat = x2 at *
  generalize 2 ^ a = x3 at *
  generalize 2 ^ unitP = x4 at *
  generalize 2 ^ (64 + S) = x5 at *
  generalize 2 ^ 64 = x6 at *
  generalize 2 ^ (l2 p - 127).toNat = x7 at *
  have l : H * x1 * (Q * x2) * (K * x4) = H * Q * K * (x1 * x2 * x4) := by ac_rfl
  have r : 2 * (H * x3 * Q) * (x5 * (x6 * (K * x7))) = H * Q * K * (2 * x3 * x5 * x6 * x7) := by ac_rfl
  rw [l, r, e2]

/-- As 'Like', against multiples of four alone. -/
def Like4 (u a b : Nat) : Prop := ∀ D, ((a < 4 * D * b → u < 4 * D) ∧ (a = 4 * D * b → u = 4 * D) ∧ (4 * D * b < a → 4 * D < u))

theorem Like4.lt {u a b D : Nat} (h : Like4 u a b) (hu : u < 4 * D) : a < 4 * D * b := by
  have := h D
  rcases Nat.lt_trichotomy a (4 * D * b) with h1 | h1 | h1
  · exact h1
  · have := this.2.1 h1; omega
  · have := this.2.2 h1; omega

theorem Like4.gt {u a b D : Nat} (h : Like4 u a b) (hu : 4 * D < u) : 4 * D * b < a := by
  have := h D
  rcases Nat.lt_trichotomy a (4 * D * b) with h1 | h1 | h1
  · have := this.1 h1; omega
  · have := this.2.1 h1; omega
  · exact h1

theorem Like4.eq {u a b D : Nat} (h : Like4 u a b) (hu : u = 4 * D) : a = 4 * D * b := by
  have := h D
  rcases Nat.lt_trichotomy a (4 * D * b) with h1 | h1 | h1
  · have := this.1 h1; omega
  · exact h1
  · have := this.2.2 h1; omega

theorem Like4.ge {u a b D : Nat} (h : Like4 u a b) (hu : 4 * D ≤ u) : 4 * D * b ≤ a := by
  rcases Nat.lt_or_eq_of_le hu with h1 | h1
  · exact Nat.le_of_lt (h.gt h1)
  · exact Nat.le_of_eq (h.eq h1.symm).symm

theorem Like4.le {u a b D : Nat} (h : Like4 u a b) (hu : u ≤ 4 * D) : a ≤ 4 * D * b := by
  rcases Nat.lt_or_eq_of_le hu with h1 | h1
  · exact Nat.le_of_lt (h.lt h1)
  · exact Nat.le_of_eq (h.eq h1)

theorem Like4.same {u a b c d : Nat} (hb : 0 < b) (hd : 0 < d) (e : a * d = c * b) (h : Like4 u a b) : Like4 u c d := by
  intro D
  have := h D
  have k1 : c < 4 * D * d → a < 4 * D * b := fun hc => by
    have h1 : c * b < 4 * D * d * b := (Nat.mul_lt_mul_right hb).2 hc
    rw [← e, Nat.mul_right_comm] at h1
    exact Nat.lt_of_mul_lt_mul_right h1
  have k2 : c = 4 * D * d → a = 4 * D * b := fun hc => by
    have h1 : c * b = 4 * D * d * b := by rw [hc]
    rw [← e, Nat.mul_right_comm] at h1
    exact Nat.eq_of_mul_eq_mul_right hd h1
  have k3 : 4 * D * d < c → 4 * D * b < a := fun hc => by
    have h1 : 4 * D * d * b < c * b := (Nat.mul_lt_mul_right hb).2 hc
    rw [← e, Nat.mul_right_comm] at h1
    exact Nat.lt_of_mul_lt_mul_right h1
  exact ⟨fun hc => this.1 (k1 hc), fun hc => this.2.1 (k2 hc), fun hc => this.2.2 (k3 hc)⟩

structure FormatAt (a : Nat) : Prop where
  close : ∀ H D, 0 < H → H < 2 ^ 54 → Close (num (pR a)) (2 ^ (120 + (fs a 11 (pR a)).toNat) * den (pR a)) (2 ^ 55 * den (pR a)) H D
  s0 : 3 ≤ fs a 11 (pR a)
  s8 : fs a 11 (pR a) ≤ 8
  p1 : -292 ≤ pR a
  p2 : pR a ≤ 324

theorem format_at {a : Nat} (ha : a < 2046) : FormatAt a := by
  have h := allBelow_at format_all ha
  unfold formatChk at h
  have e1 : pAt ((a : Int) - 1085) = pR a := by unfold pAt pR; congr 2; omega
  have e2 : sAt ((a : Int) - 1085) = fs a 11 (pR a) := by unfold sAt fs; rw [e1]; congr 1; omega
  rw [e1, e2] at h
  simp only [Bool.and_eq_true, decide_eq_true_eq] at h
  obtain ⟨⟨⟨⟨h1, h2⟩, h3⟩, h4⟩, h5⟩ := h
  exact ⟨fun H D h0 hl => close_of_chk h1 H D h0 hl, h2, h3, h4, h5⟩

/-- The closeness that the scaling asks, at multiples of four. -/
theorem format_close {a s : Nat} (F : FormatAt a) (hs : 11 ≤ s) (H D : Nat) (hH : 0 < H) (hl : H < 2 ^ 54) :
    Close (num (pR a)) (2 ^ (64 + (fs a s (pR a)).toNat) * (R64 * den (pR a))) (2 * (R64 * den (pR a))) (H * 2 ^ (s - 1)) (4 * D) := by
  have h := F.close H D hH hl
  have hs0 := F.s0
  unfold Close at *
  have e0 : (fs a s (pR a)).toNat = (fs a 11 (pR a)).toNat + (s - 11) := by unfold fs at *; omega
  have e2 : 4 * D * (2 ^ (64 + (fs a s (pR a)).toNat) * (R64 * den (pR a))) = D * (2 ^ (120 + (fs a 11 (pR a)).toNat) * den (pR a)) * 2 ^ (s - 1) := by
    have g2 : 2 ^ 2 * (2 ^ (64 + (fs a s (pR a)).toNat) * 2 ^ 64) = 2 ^ (120 + (fs a 11 (pR a)).toNat) * 2 ^ (s - 1) := by
      rw [← Nat.pow_add, ← Nat.pow_add, ← Nat.pow_add, e0]; congr 1; omega
    rw [show 2 ^ 2 = 4 from rfl] at g2
    rw [R64_eq]
    generalize 2 ^ (64 + (fs a s (pR a)).toNat) = y1 at *
    generalize 2 ^ 64 = y2 at *
    generalize 2 ^ (120 + (fs a 11 (pR a)).toNat) = y3 at *
    generalize 2 ^ (s - 1) = y4 at *
    have l : 4 * D * (y1 * (y2 * den (pR a))) = D * den (pR a) * (4 * (y1 * y2)) := by ac_rfl
    have r : D * (y3 * den (pR a)) * y4 = D * den (pR a) * (y3 * y4) := by ac_rfl
    rw [l, r, g2]
  have e3 : 2 * (R64 * den (pR a)) ≤ 2 ^ 55 * den (pR a) * 2 ^ (s - 1) := by
    have g : 2 ^ 10 ≤ 2 ^ (s - 1) := Nat.pow_le_pow_right (by decide) (by omega)
    have := Nat.mul_le_mul_left (2 ^ 55 * den (pR a)) g
    have e : 2 * (R64 * den (pR a)) = 2 ^ 55 * den (pR a) * 2 ^ 10 := by
      rw [R64_eq, Nat.mul_right_comm, ← Nat.mul_assoc]
    omega
  have e4 : H * 2 ^ (s - 1) * num (pR a) = H * num (pR a) * 2 ^ (s - 1) := Nat.mul_right_comm _ _ _
  rw [e2, e4]
  have hp := Nat.two_pow_pos (s - 1)
  generalize H * num (pR a) = X at *
  generalize D * (2 ^ (120 + (fs a 11 (pR a)).toNat) * den (pR a)) = Y at *
  generalize 2 ^ 55 * den (pR a) = Z at *
  generalize 2 ^ (s - 1) = V at *
  rcases h with h | h | h
  · left; rw [h]
  · right; left
    have := Nat.mul_le_mul_right V h
    rw [Nat.add_mul] at this
    omega
  · right; right
    have := Nat.mul_le_mul_right V h
    rw [Nat.add_mul] at this
    omega

theorem format_like {a s : Nat} (ha : a < 2046) (hs : 11 ≤ s) (H : Nat) (hH : 0 < H) (hl : H < 2 ^ 54) (hx : H * 2 ^ (s - 1) < R64) :
    Like4 (us (H * 2 ^ (s - 1)) (tabOf (pR a)) (fs a s (pR a)).toNat) (2 * (H * 2 ^ a * vk (-pR a))) (unitW (-pR a)) := by
  have F := format_at ha
  have T := tab_ok (pR a) (by have := F.p1; omega) (by have := F.p2; omega)
  have L : Like4 (us (H * 2 ^ (s - 1)) (tabOf (pR a)) (fs a s (pR a)).toNat) (H * 2 ^ (s - 1) * num (pR a)) (2 ^ (64 + (fs a s (pR a)).toNat) * (R64 * den (pR a))) := by
    intro D
    exact us_cmp _ (tabOf (pR a)) (num (pR a)) (den (pR a)) _ (4 * D) hx (den_pos _) T.up T.dn (by omega) (format_close F hs H D hH hl)
  refine L.same (Nat.mul_pos (Nat.two_pow_pos _) (Nat.mul_pos R64_pos (den_pos _))) (unitW_pos _) (crossF H a s _ (pR a) (by omega) ?_)
  have := F.s0
  unfold fs at *
  omega

end Fl
end Go.Proofs.YtfemnjgcodcfkaaGreatDoor

namespace Go.Proofs.YtfemnjgcodcfkaaGreatDoor
namespace Fl

/-- D units W lie in the interval round the float with the significand M at the step K; its ends belong to it if M is even. -/
def In (M K W D : Nat) : Prop :=
  ((2 * M - 1) * K < 2 * (D * W) ∨ ((2 * M - 1) * K = 2 * (D * W) ∧ M % 2 = 0)) ∧ (2 * (D * W) < (2 * M + 1) * K ∨ (2 * (D * W) = (2 * M + 1) * K ∧ M % 2 = 0))

theorem mulA (c k W : Nat) : 4 * (c + k) * W = 4 * (c * W) + 4 * (k * W) := by rw [Nat.mul_assoc, Nat.add_mul, Nat.mul_add]
theorem mulB (m K : Nat) : 2 * (m + 1) * K = (2 * m + 1) * K + K := by
  rw [show 2 * (m + 1) = (2 * m + 1) + 1 by omega, Nat.succ_mul]
theorem mulC (m K : Nat) : (2 * (m + 1) + 1) * K = (2 * m + 1) * K + 2 * K := by
  rw [show 2 * (m + 1) + 1 = (2 * m + 1) + 2 by omega, Nat.add_mul]

theorem in_of_between {umin umax M K W D : Nat} (hD : 1 ≤ D) (Lmin : Like4 umin (2 * ((2 * M - 1) * K)) W) (Lmax : Like4 umax (2 * ((2 * M + 1) * K)) W)
    (h1 : (umin + M % 2 + 3) / 4 ≤ D) (h2 : D ≤ (umax - M % 2) / 4) : In M K W D := by
  have g1 : umin + M % 2 ≤ 4 * D := by omega
  have g2 : 4 * D + M % 2 ≤ umax := by omega
  unfold In
  rcases (show M % 2 = 0 ∨ M % 2 = 1 by omega) with e | e
  · have a1 := Lmin.le (D := D) (by omega)
    have a2 := Lmax.ge (D := D) (by omega)
    rw [Nat.mul_assoc] at a1 a2
    omega
  · have a1 := Lmin.lt (D := D) (by omega)
    have a2 := Lmax.gt (D := D) (by omega)
    rw [Nat.mul_assoc] at a1 a2
    omega

theorem between_some {umin umax M K W : Nat} (hM : 1 ≤ M) (hW : 0 < W) (hWK : W ≤ K) (Lmin : Like4 umin (2 * ((2 * M - 1) * K)) W) (Lmax : Like4 umax (2 * ((2 * M + 1) * K)) W) :
    (umin + M % 2 + 3) / 4 ≤ (umax - M % 2) / 4 := by
  obtain ⟨m, rfl⟩ : ∃ m, M = m + 1 := ⟨M - 1, by omega⟩
  rw [show 2 * (m + 1) - 1 = 2 * m + 1 by omega] at Lmin
  have ex : (2 * (m + 1) + 1) * K = (2 * m + 1) * K + 2 * K := mulC m K
  rcases Nat.lt_or_ge ((umax - (m + 1) % 2) / 4) ((umin + (m + 1) % 2 + 3) / 4) with h | h
  · exfalso
    obtain ⟨c, hc⟩ : ∃ c, (umin + (m + 1) % 2 + 3) / 4 = c + 1 := ⟨(umin + (m + 1) % 2 + 3) / 4 - 1, by omega⟩
    have ec : 4 * (c + 1) * W = 4 * (c * W) + 4 * W := by rw [mulA, Nat.one_mul]
    have ec0 : 4 * c * W = 4 * (c * W) := Nat.mul_assoc _ _ _
    rcases (show (m + 1) % 2 = 0 ∨ (m + 1) % 2 = 1 by omega) with e | e
    · have a1 := Lmin.gt (D := c) (by omega)
      have a2 := Lmax.lt (D := c + 1) (by omega)
      rw [ex, ec] at a2
      rw [ec0] at a1
      omega
    · have a1 := Lmin.ge (D := c) (by omega)
      have a2 := Lmax.le (D := c + 1) (by omega)
      rw [ex, ec] at a2
      rw [ec0] at a1
      obtain rfl : K = W := by omega
      have b1 : 2 * c * K ≤ (2 * m + 1) * K := by rw [Nat.mul_assoc]; omega
      have b2 : (2 * m + 3) * K ≤ (2 * c + 2) * K := by
        have b3 : (2 * m + 3) * K = (2 * m + 1) * K + 2 * K := mulC m K
        have b4 : (2 * c + 2) * K = 2 * (c * K) + 2 * K := by rw [Nat.add_mul, Nat.mul_assoc]
        rw [b3, b4]; omega
      have := Nat.le_of_mul_le_mul_right b1 hW
      have := Nat.le_of_mul_le_mul_right b2 hW
      omega
  · exact h

theorem rnd_ge {u c : Nat} (h : 4 * c ≤ u) : c ≤ rnd u := by
  have := rnd_hi u
  omega

theorem rnd_le {u c : Nat} (h : u ≤ 4 * c) : rnd u ≤ c := by
  have := rnd_lo u
  omega

theorem sel_in {p : Int} {umin um umax M K W : Nat} (hM : 1 ≤ M) (hW : 0 < W) (hWK : W ≤ K)
    (Lmin : Like4 umin (2 * ((2 * M - 1) * K)) W) (Lmax : Like4 umax (2 * ((2 * M + 1) * K)) W)
    (hge : ∀ N, N * W ≤ 2 * (2 * M * K) → N ≤ um) (hle : ∀ N, N % 2 = 0 → 2 * (2 * M * K) ≤ N * W → um ≤ N) :
    ∃ D, (((sel p umin um umax (M % 2)).1 = D ∧ (sel p umin um umax (M % 2)).2 = -p) ∨ ((sel p umin um umax (M % 2)).1 * 10 = D ∧ (sel p umin um umax (M % 2)).2 = -(p - 1))) ∧ 1 ≤ D ∧ In M K W D := by
  have hb := between_some hM hW hWK Lmin Lmax
  have hmin : 1 ≤ (umin + M % 2 + 3) / 4 := by
    have h0 : 0 < (2 * M - 1) * K := Nat.mul_pos (by omega) (by omega)
    have := (Lmin 0).2.2 (by rw [Nat.mul_zero, Nat.zero_mul]; omega)
    omega
  unfold sel
  by_cases h1 : (umin + M % 2 + 3) / 4 ≤ (umax - M % 2) / 4 / 10 * 10
  · rw [if_pos h1]
    refine ⟨(umax - M % 2) / 4 / 10 * 10, Or.inr ⟨rfl, rfl⟩, by omega, in_of_between (by omega) Lmin Lmax h1 (by omega)⟩
  · rw [if_neg h1]
    by_cases h2 : (umin + M % 2 + 3) / 4 < (umax - M % 2) / 4
    · rw [if_pos h2]
      obtain ⟨m, rfl⟩ : ∃ m, M = m + 1 := ⟨M - 1, by omega⟩
      obtain ⟨X, hX⟩ : ∃ X, X = (2 * m + 1) * K := ⟨_, rfl⟩
      have e1 : (2 * (m + 1) - 1) * K = X := by rw [hX]; congr 1
      have e2 : 2 * (m + 1) * K = X + K := by rw [hX]; exact mulB m K
      have e3 : (2 * (m + 1) + 1) * K = X + 2 * K := by rw [hX]; exact mulC m K
      have lo : (umin + (m + 1) % 2 + 3) / 4 ≤ rnd um := by
        apply rnd_ge
        apply hge
        rw [e2]
        obtain ⟨c, hc⟩ : ∃ c, (umin + (m + 1) % 2 + 3) / 4 = c + 1 := ⟨(umin + (m + 1) % 2 + 3) / 4 - 1, by omega⟩
        have a1 := Lmin.ge (D := c) (by omega)
        have a2 := Lmax.ge (D := c + 2) (by omega)
        rw [e1] at a1
        rw [e3] at a2
        have f1 : 4 * c * W = 4 * (c * W) := Nat.mul_assoc _ _ _
        have f2 : 4 * (c + 2) * W = 4 * (c * W) + 8 * W := by rw [mulA]; omega
        have f3 : 4 * (c + 1) * W = 4 * (c * W) + 4 * W := by rw [mulA]; omega
        rw [hc, f3]
        rw [f1] at a1
        rw [f2] at a2
        omega
      have hi : rnd um ≤ (umax - (m + 1) % 2) / 4 := by
        apply rnd_le
        apply hle _ (by omega)
        rw [e2]
        obtain ⟨g, hg⟩ : ∃ g, (umax - (m + 1) % 2) / 4 = g + 1 := ⟨(umax - (m + 1) % 2) / 4 - 1, by omega⟩
        have a1 := Lmin.le (D := g) (by omega)
        have a2 := Lmax.le (D := g + 2) (by omega)
        rw [e1] at a1
        rw [e3] at a2
        have f1 : 4 * g * W = 4 * (g * W) := Nat.mul_assoc _ _ _
        have f2 : 4 * (g + 2) * W = 4 * (g * W) + 8 * W := by rw [mulA]; omega
        have f3 : 4 * (g + 1) * W = 4 * (g * W) + 4 * W := by rw [mulA]; omega
        rw [hg, f3]
        rw [f1] at a1
        rw [f2] at a2
        omega
      exact ⟨rnd um, Or.inl ⟨rfl, rfl⟩, by omega, in_of_between (by omega) Lmin Lmax lo hi⟩
    · rw [if_neg h2]
      exact ⟨_, Or.inl ⟨rfl, rfl⟩, hmin, in_of_between hmin Lmin Lmax (Nat.le_refl _) hb⟩

/-- The regular case: what shortFloat gives, as a number D of digits' units, is in the interval. -/
theorem short_in (M a s : Nat) (ha : a < 2046) (hs : 11 ≤ s) (hM : 1 ≤ M) (hM2 : M < 9007199254740992) (hx : (2 * M + 1) * 2 ^ (s - 1) < R64) :
    ∃ D, (((shortR M a s).1 = D ∧ (shortR M a s).2 = -pR a) ∨ ((shortR M a s).1 * 10 = D ∧ (shortR M a s).2 = -(pR a - 1))) ∧ 1 ≤ D ∧ In M (2 ^ a * vk (-pR a)) (unitW (-pR a)) D := by
  have w := width_at ha
  have F := format_at ha
  have T := tab_ok (pR a) (by have := F.p1; omega) (by have := F.p2; omega)
  have hx1 : (2 * M - 1) * 2 ^ (s - 1) < R64 := Nat.lt_of_le_of_lt (Nat.mul_le_mul_right _ (by omega)) hx
  have hx2 : 2 * M * 2 ^ (s - 1) < R64 := Nat.lt_of_le_of_lt (Nat.mul_le_mul_right _ (by omega)) hx
  have h54 : (2 : Nat) ^ 54 = 18014398509481984 := by decide
  have Lmin := format_like ha hs (2 * M - 1) (by omega) (by rw [h54]; omega) hx1
  have Lmax := format_like ha hs (2 * M + 1) (by omega) (by rw [h54]; omega) hx
  rw [Nat.mul_assoc] at Lmin Lmax
  have c := crossF (2 * M) a s (fs a s (pR a)).toNat (pR a) (by omega) (by have := F.s0; unfold fs at *; omega)
  rw [Nat.mul_assoc (2 * M) (2 ^ a)] at c
  have hQ : 0 < 2 ^ (64 + (fs a s (pR a)).toNat) * (R64 * den (pR a)) := Nat.mul_pos (Nat.two_pow_pos _) (Nat.mul_pos R64_pos (den_pos _))
  refine sel_in hM (unitW_pos _) w.1 Lmin Lmax (fun N hN => ?_) (fun N h2 hN => ?_)
  · refine us_ge _ _ (num (pR a)) (den (pR a)) _ _ (den_pos _) T.dn ?_
    have h1 := Nat.mul_le_mul_right (2 ^ (64 + (fs a s (pR a)).toNat) * (R64 * den (pR a))) hN
    rw [← c, Nat.mul_right_comm N] at h1
    exact Nat.le_of_mul_le_mul_right h1 (unitW_pos _)
  · refine us_le _ _ (num (pR a)) (den (pR a)) _ _ hx2 (den_pos _) T.up h2 ?_
    have h1 := Nat.mul_le_mul_right (2 ^ (64 + (fs a s (pR a)).toNat) * (R64 * den (pR a))) hN
    rw [← c, Nat.mul_right_comm N] at h1
    exact Nat.le_of_mul_le_mul_right h1 (unitW_pos _)

end Fl
end Go.Proofs.YtfemnjgcodcfkaaGreatDoor

namespace Go.Proofs.YtfemnjgcodcfkaaGreatDoor
namespace Fl

/-- What is asked of the digits d and the exponent P for the rung r. -/
structure Good (r : Nat) (x : Nat × Int) : Prop where
  near : Near r (vn x.1 x.2) (vk x.2)
  d1 : 1 ≤ x.1
  d2 : x.1 < 100000000000000000
  p1 : -324 ≤ x.2
  p2 : x.2 ≤ 293

theorem ten_step (d : Nat) (P : Int) : vn (d * 10) P * vk (P + 1) = vn d (P + 1) * vk P := by
  unfold vn vk
  generalize 2 ^ unitP = V
  rcases (show 0 ≤ P ∨ P < 0 by omega) with h | h
  · have e1 : (-(P + 1)).toNat = 0 := by omega
    have e2 : (-P).toNat = 0 := by omega
    have e3 : (P + 1).toNat = P.toNat + 1 := by omega
    rw [e1, e2, e3, Nat.pow_succ]
    generalize 10 ^ P.toNat = Q
    ac_rfl
  · have e1 : P.toNat = 0 := by omega
    have e2 : (P + 1).toNat = 0 := by omega
    have e3 : (-P).toNat = (-(P + 1)).toNat + 1 := by omega
    rw [e1, e2, e3, Nat.pow_succ]
    generalize 10 ^ (-(P + 1)).toNat = Q
    ac_rfl

theorem near_of_in {a M D : Nat} {P : Int} (hM : 1 ≤ M) (hM2 : M < 9007199254740992) (hn : a = 0 ∨ 4503599627370496 < M) (h : In M (2 ^ a * vk P) (unitW P) D) :
    Near (a * 4503599627370496 + M) (vn D P) (vk P) := by
  have hpar : (a * 4503599627370496 + M) % 2 = M % 2 := by omega
  have hv : val (a * 4503599627370496 + M) = M * 2 ^ a := val_at a M (by omega) (by omega)
  rw [vn_eq]
  unfold In at h
  refine ⟨fun q hq => ?_, ?_⟩
  · rw [hpar]
    have e : q = a * 4503599627370496 + (M - 1) := by omega
    obtain ⟨m, rfl⟩ : ∃ m, M = m + 1 := ⟨M - 1, by omega⟩
    rw [hv, e, Nat.add_sub_cancel, val_at a m (by omega) (by omega)]
    have e2 : (m * 2 ^ a + (m + 1) * 2 ^ a) * vk P = (2 * (m + 1) - 1) * (2 ^ a * vk P) := by
      rw [← Nat.add_mul, Nat.mul_assoc, show m + (m + 1) = 2 * (m + 1) - 1 by omega]
    rw [e2]
    exact h.1
  · rw [hpar, hv, val_succ a M hM2 (by omega)]
    have e2 : (M * 2 ^ a + (M * 2 ^ a + 2 ^ a)) * vk P = (2 * M + 1) * (2 ^ a * vk P) := by
      have e : M * 2 ^ a + (M * 2 ^ a + 2 ^ a) = (2 * M + 1) * 2 ^ a := by rw [Nat.add_mul, Nat.one_mul, Nat.mul_assoc]; omega
      rw [e, Nat.mul_assoc]
    rw [e2]
    exact h.2

theorem short_regular (a M s : Nat) (ha : a < 2046) (hs : 11 ≤ s) (hM : 1 ≤ M) (hM2 : M < 9007199254740992) (hn : a = 0 ∨ 4503599627370496 < M) (hx : (2 * M + 1) * 2 ^ (s - 1) < R64) :
    Good (a * 4503599627370496 + M) (shortR M a s) := by
  obtain ⟨D, hD, hD1, hIn⟩ := short_in M a s ha hs hM hM2 hx
  have F := format_at ha
  have w := width_at ha
  have hnear := near_of_in hM hM2 hn hIn
  have hDlt : D < 100000000000000000 := by
    have h2 : 2 * (D * unitW (-pR a)) ≤ (2 * M + 1) * (2 ^ a * vk (-pR a)) := by
      have := hIn.2
      omega
    have h3 : (2 * M + 1) * (2 ^ a * vk (-pR a)) ≤ (2 * M + 1) * (10 * unitW (-pR a)) := Nat.mul_le_mul_left _ w.2
    have h4 : 2 * D * unitW (-pR a) ≤ (2 * M + 1) * 10 * unitW (-pR a) := by
      rw [Nat.mul_assoc, Nat.mul_assoc]; omega
    have := Nat.le_of_mul_le_mul_right h4 (unitW_pos _)
    omega
  rcases hD with ⟨h1, h2⟩ | ⟨h1, h2⟩
  · refine ⟨?_, by omega, by omega, by rw [h2]; have := F.p2; omega, by rw [h2]; have := F.p1; omega⟩
    rw [h1, h2]; exact hnear
  · refine ⟨?_, by omega, by omega, by rw [h2]; have := F.p2; omega, by rw [h2]; have := F.p1; omega⟩
    rw [h2]
    have e : -(pR a - 1) = -pR a + 1 := by omega
    rw [e]
    refine near_same (vk_pos _) (vk_pos _) ?_ hnear
    rw [← h1]
    exact ten_step _ _

/-- The case of a power of two: the interval is a quarter below, a half above. -/
def pS (a : Nat) : Int := -skw ((a : Int) - 1074)
def selS (a : Nat) (T : Nat) : Nat × Int :=
  sel (pS a) (us 9223372036854775296 T (fs a 11 (pS a)).toNat) (us 9223372036854775808 T (fs a 11 (pS a)).toNat) (us 9223372036854776832 T (fs a 11 (pS a)).toNat) 0
def shortS (a : Nat) : Nat × Int := selS a (tabOf (pS a))

def skewOk (a : Nat) (x : Nat × Int) : Bool :=
  decide (1 ≤ x.1) && decide (x.1 < 100000000000000000) && decide (-324 ≤ x.2) && decide (x.2 ≤ 293) && decide (18014398509481983 * (2 ^ a * vk x.2) ≤ 4 * vn x.1 x.2) && decide (2 * vn x.1 x.2 ≤ 9007199254740993 * (2 ^ a * vk x.2))
def skewChk (i : Nat) : Bool :=
  skewOk (i + 1) (selS (i + 1) ((num (pS (i + 1)) + (den (pS (i + 1)) - 1)) / den (pS (i + 1)))) && decide (-348 ≤ pS (i + 1)) && decide (pS (i + 1) ≤ 347) && decide (3 ≤ fs (i + 1) 11 (pS (i + 1))) && decide (fs (i + 1) 11 (pS (i + 1)) ≤ 63)
theorem skew_all : allBelow skewChk 2045 = true := by decide +kernel

theorem tab_ceil {T A B : Nat} (hB : 0 < B) (h1 : T * B < A + B) (h2 : A ≤ T * B) : (A + (B - 1)) / B = T := by
  have h5 : T ≤ (A + (B - 1)) / B := (Nat.le_div_iff_mul_le hB).2 (by omega)
  have h6 : (A + (B - 1)) / B < T + 1 := Nat.div_lt_of_lt_mul (by rw [Nat.mul_succ, Nat.mul_comm]; omega)
  omega

structure SkewAt (a : Nat) : Prop where
  good : skewOk a (shortS a) = true
  p1 : -348 ≤ pS a
  p2 : pS a ≤ 347
  f1 : 3 ≤ fs a 11 (pS a)
  f2 : fs a 11 (pS a) ≤ 63

theorem skew_at {a : Nat} (h0 : 0 < a) (ha : a < 2046) : SkewAt a := by
  have h := allBelow_at skew_all (show a - 1 < 2045 by omega)
  unfold skewChk at h
  rw [show a - 1 + 1 = a by omega] at h
  simp only [Bool.and_eq_true, decide_eq_true_eq] at h
  obtain ⟨⟨⟨⟨h1, h2⟩, h3⟩, h4⟩, h5⟩ := h
  have T := tab_ok (pS a) h2 h3
  rw [tab_ceil (den_pos _) T.up T.dn] at h1
  exact ⟨h1, h2, h3, h4, h5⟩

theorem short_skewed (a : Nat) (h0 : 0 < a) (ha : a < 2046) : Good (a * 4503599627370496 + 4503599627370496) (shortS a) := by
  have S := skew_at h0 ha
  have h := S.good
  unfold skewOk at h
  simp only [Bool.and_eq_true, decide_eq_true_eq] at h
  obtain ⟨⟨⟨⟨⟨h1, h2⟩, h3⟩, h4⟩, h5⟩, h6⟩ := h
  refine ⟨⟨fun q hq => ?_, ?_⟩, h1, h2, h3, h4⟩
  · obtain ⟨u, rfl⟩ : ∃ u, a = u + 1 := ⟨a - 1, by omega⟩
    have e : q = u * 4503599627370496 + 9007199254740991 := by omega
    have hv : val ((u + 1) * 4503599627370496 + 4503599627370496) = 4503599627370496 * 2 ^ (u + 1) := val_at (u + 1) 4503599627370496 (by omega) (by omega)
    have hpar : ((u + 1) * 4503599627370496 + 4503599627370496) % 2 = 0 := by omega
    rewrite [hpar, hv, e, val_at u 9007199254740991 (by omega) (by omega)]
    have e2 : (9007199254740991 * 2 ^ u + 4503599627370496 * 2 ^ (u + 1)) * vk (shortS (u + 1)).2 = 18014398509481983 * (2 ^ u * vk (shortS (u + 1)).2) := by
      have e : 9007199254740991 * 2 ^ u + 4503599627370496 * 2 ^ (u + 1) = 18014398509481983 * 2 ^ u := by
        rewrite [Nat.pow_succ]; generalize 2 ^ u = P; omega
      rewrite [e, Nat.mul_assoc]; exact Eq.refl _
    have e3 : 2 ^ (u + 1) * vk (shortS (u + 1)).2 = 2 * (2 ^ u * vk (shortS (u + 1)).2) := by rw [Nat.pow_succ, Nat.mul_comm (2 ^ u) 2, Nat.mul_assoc]
    rewrite [e3, Nat.mul_left_comm] at h5
    rewrite [e2]
    generalize 18014398509481983 * (2 ^ u * vk (shortS (u + 1)).2) = X at *
    omega
  · have hv : val (a * 4503599627370496 + 4503599627370496) = 4503599627370496 * 2 ^ a := val_at a 4503599627370496 (by omega) (by omega)
    have hpar : (a * 4503599627370496 + 4503599627370496) % 2 = 0 := by omega
    rewrite [hpar, hv, val_succ a 4503599627370496 (by omega) (by omega)]
    have e2 : (4503599627370496 * 2 ^ a + (4503599627370496 * 2 ^ a + 2 ^ a)) * vk (shortS a).2 = 9007199254740993 * (2 ^ a * vk (shortS a).2) := by
      have e : 4503599627370496 * 2 ^ a + (4503599627370496 * 2 ^ a + 2 ^ a) = 9007199254740993 * 2 ^ a := by
        generalize 2 ^ a = P; omega
      rewrite [e, Nat.mul_assoc]; exact Eq.refl _
    rewrite [e2]
    generalize 9007199254740993 * (2 ^ a * vk (shortS a).2) = X at *
    omega

end Fl
end Go.Proofs.YtfemnjgcodcfkaaGreatDoor
