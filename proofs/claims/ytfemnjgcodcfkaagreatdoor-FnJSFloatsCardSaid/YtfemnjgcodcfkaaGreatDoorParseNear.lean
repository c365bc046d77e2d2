/- Plain law, part 4: reading a number D * 10^P of up to 57 bits by unrounded scaling gives the nearest float's rung. Plain law, part 5: parseFloat64's arithmetic gives the nearest rung. Plain law, part 6: parseFloat64's arithmetic gives the nearest rung: the theorem. -/
import Derived.Test.YtfemnjgcodcfkaaGreatDoorTab
import Derived.Test.YtfemnjgcodcfkaaGreatDoorFarey

namespace Go.Proofs.YtfemnjgcodcfkaaGreatDoor
namespace Fl

/-- Half to even, of an unrounded number. -/
def rnd (u : Nat) : Nat := (u + 1 + u / 4 % 2) / 4

theorem rnd_at (a r : Nat) (h : r < 8) : rnd (8 * a + r) = if r < 3 then 2 * a else if r < 6 then 2 * a + 1 else 2 * a + 2 := by
  have e : (8 * a + r) / 4 % 2 = if r < 4 then 0 else 1 := by split <;> omega
  unfold rnd
  rw [e]
  split <;> split <;> (try split) <;> omega

theorem rnd_lo (u : Nat) : 4 * rnd u < u + 2 ∨ (4 * rnd u = u + 2 ∧ rnd u % 2 = 0) := by
  have e : u = 8 * (u / 8) + u % 8 := by omega
  have h := rnd_at (u / 8) (u % 8) (by omega)
  rw [← e] at h
  split at h
  · omega
  · split at h <;> omega

theorem rnd_hi (u : Nat) : u < 4 * rnd u + 2 ∨ (u = 4 * rnd u + 2 ∧ rnd u % 2 = 0) := by
  have e : u = 8 * (u / 8) + u % 8 := by omega
  have h := rnd_at (u / 8) (u % 8) (by omega)
  rw [← e] at h
  split at h
  · omega
  · split at h <;> omega

/-- 'u is to Y what an unrounded number is to what it stands for', Y = a / b: against each even number they stand alike. -/
def Like (u a b : Nat) : Prop := ∀ N, N % 2 = 0 → ((a < N * b → u < N) ∧ (a = N * b → u = N) ∧ (N * b < a → N < u))

theorem Like.lt {u a b N : Nat} (h : Like u a b) (hN : N % 2 = 0) (hu : u < N) : a < N * b := by
  have := h N hN
  rcases Nat.lt_trichotomy a (N * b) with h1 | h1 | h1
  · exact h1
  · have := this.2.1 h1; omega
  · have := this.2.2 h1; omega

theorem Like.gt {u a b N : Nat} (h : Like u a b) (hN : N % 2 = 0) (hu : N < u) : N * b < a := by
  have := h N hN
  rcases Nat.lt_trichotomy a (N * b) with h1 | h1 | h1
  · have := this.1 h1; omega
  · have := this.2.1 h1; omega
  · exact h1

theorem Like.eq {u a b N : Nat} (h : Like u a b) (hN : N % 2 = 0) (hu : u = N) : a = N * b := by
  have := h N hN
  rcases Nat.lt_trichotomy a (N * b) with h1 | h1 | h1
  · have := this.1 h1; omega
  · exact h1
  · have := this.2.2 h1; omega

/-- Another fraction of the same value. -/
theorem Like.same {u a b c d : Nat} (hb : 0 < b) (hd : 0 < d) (e : a * d = c * b) (h : Like u a b) : Like u c d := by
  intro N hN
  have := h N hN
  have k1 : c < N * d → a < N * b := fun hc => by
    have h1 : c * b < N * d * b := (Nat.mul_lt_mul_right hb).2 hc
    rw [← e, Nat.mul_right_comm] at h1
    exact Nat.lt_of_mul_lt_mul_right h1
  have k2 : c = N * d → a = N * b := fun hc => by
    have h1 : c * b = N * d * b := by rw [hc]
    rw [← e, Nat.mul_right_comm] at h1
    exact Nat.eq_of_mul_eq_mul_right hd h1
  have k3 : N * d < c → N * b < a := fun hc => by
    have h1 : N * d * b < c * b := (Nat.mul_lt_mul_right hb).2 hc
    rw [← e, Nat.mul_right_comm] at h1
    exact Nat.lt_of_mul_lt_mul_right h1
  exact ⟨fun hc => this.1 (k1 hc), fun hc => this.2.1 (k2 hc), fun hc => this.2.2 (k3 hc)⟩

/-- One place less: the last bit is kept. -/
def half (u : Nat) : Nat := u / 2 ||| u % 2

theorem half_cmp (u N : Nat) (hN : N % 2 = 0) : (u < 2 * N → half u < N) ∧ (u = 2 * N → half u = N) ∧ (2 * N < u → N < half u) := by
  unfold half
  rcases (show u % 2 = 0 ∨ u % 2 = 1 by omega) with e | e
  · rw [e, Nat.or_zero]; omega
  · rw [e, or_one]; omega

theorem Like.half {u a b : Nat} (h : Like u a b) : Like (half u) a (2 * b) := by
  intro N hN
  have h1 := h (2 * N) (by omega)
  have h2 := half_cmp u N hN
  rw [show N * (2 * b) = 2 * N * b by rw [← Nat.mul_assoc, Nat.mul_comm N 2]]
  exact ⟨fun hc => h2.1 (h1.1 hc), fun hc => h2.2.1 (h1.2.1 hc), fun hc => h2.2.2 (h1.2.2 hc)⟩

/-- From an unrounded number that is like 4 n / (k 2^t) to the nearest rung. -/
theorem near_of_like {u n k t : Nat} (hk : 0 < k) (h : Like u (4 * n) (k * 2 ^ t)) (hu : u < 36028797018963966)
    (ht : t = 0 ∨ (18014398509481983 ≤ u ∧ 18014398509481983 * (k * 2 ^ t) ≤ 4 * n)) : Near (t * 4503599627370496 + rnd u) n k := by
  have l := rnd_lo u
  have g := rnd_hi u
  refine near_of_round t (rnd u) n k (by omega) ?_ ?_ ?_ hk
  · rcases l with l | l
    · by_cases h0 : rnd u = 0
      · left
        rw [h0, Nat.mul_zero, Nat.zero_mul]
        have := Nat.mul_pos hk (Nat.two_pow_pos t)
        omega
      · left
        have := h.gt (N := 4 * rnd u - 2) (by omega) (by omega)
        obtain ⟨m, hm⟩ : ∃ m, rnd u = m + 1 := ⟨rnd u - 1, by omega⟩
        rw [hm] at this ⊢
        rw [show 4 * (m + 1) - 2 = 2 * (2 * m + 1) by omega, Nat.mul_assoc] at this
        have e : 2 * (m + 1) * (k * 2 ^ t) = (2 * m + 1) * (k * 2 ^ t) + k * 2 ^ t := Nat.succ_mul (2 * m + 1) (k * 2 ^ t)
        rw [e]
        generalize (2 * m + 1) * (k * 2 ^ t) = X at *
        omega
    · by_cases h0 : rnd u = 0
      · omega
      · right
        have := h.eq (N := 4 * rnd u - 2) (by omega) (by omega)
        obtain ⟨m, hm⟩ : ∃ m, rnd u = m + 1 := ⟨rnd u - 1, by omega⟩
        have l2 := l.2
        rw [hm] at this l2 ⊢
        rw [show 4 * (m + 1) - 2 = 2 * (2 * m + 1) by omega, Nat.mul_assoc] at this
        have e : 2 * (m + 1) * (k * 2 ^ t) = (2 * m + 1) * (k * 2 ^ t) + k * 2 ^ t := Nat.succ_mul (2 * m + 1) (k * 2 ^ t)
        rw [e]
        refine ⟨?_, l2⟩
        generalize (2 * m + 1) * (k * 2 ^ t) = X at *
        omega
  · rcases g with g | g
    · left
      have := h.lt (N := 4 * rnd u + 2) (by omega) g
      rw [show 4 * rnd u + 2 = 2 * (2 * rnd u + 1) by omega, Nat.mul_assoc] at this
      generalize (2 * rnd u + 1) * (k * 2 ^ t) = X at *
      omega
    · right
      have := h.eq (N := 4 * rnd u + 2) (by omega) g.1
      rw [show 4 * rnd u + 2 = 2 * (2 * rnd u + 1) by omega, Nat.mul_assoc] at this
      refine ⟨?_, g.2⟩
      generalize (2 * rnd u + 1) * (k * 2 ^ t) = X at *
      omega
  · rcases ht with ht | ht
    · exact Or.inl ht
    · refine Or.inr ⟨?_, ht.2⟩
      have := ht.1
      omega

end Fl
end Go.Proofs.YtfemnjgcodcfkaaGreatDoor

namespace Go.Proofs.YtfemnjgcodcfkaaGreatDoor
namespace Fl

/-- The least place, behind a name. -/
def unitP : Nat := 1074

/-- D * 10^P in units of 2^-1074, as a fraction. -/
def vn (D : Nat) (P : Int) : Nat := D * 10 ^ P.toNat * 2 ^ unitP
def vk (P : Int) : Nat := 10 ^ (-P).toNat

theorem vk_pos (P : Int) : 0 < vk P := Nat.pow_pos (by decide)
theorem R64_eq : R64 = 2 ^ 64 := by decide

/-- The product of a left-justified number and the table's row, against the value at a place: t is 1074 - e. -/
theorem cross (D a t s : Nat) (P : Int) (h : (a : Int) + 127 - l2 P + t = 1204 + s) :
    (D * 2 ^ a * num P) * (vk P * 2 ^ t) = (4 * vn D P) * (2 ^ (64 + s) * (R64 * den P)) := by
  unfold num den vn vk
  rw [R64_eq]
  have hu : unitP = 1074 := rfl
  have e1 : a + (127 - l2 P).toNat + t = 2 + unitP + (64 + s) + 64 + (l2 P - 127).toNat := by omega
  have e2 : 2 ^ a * 2 ^ (127 - l2 P).toNat * 2 ^ t = 2 ^ 2 * 2 ^ unitP * 2 ^ (64 + s) * 2 ^ 64 * 2 ^ (l2 P - 127).toNat := by
    rw [← Nat.pow_add, ← Nat.pow_add, e1, Nat.pow_add, Nat.pow_add, Nat.pow_add, Nat.pow_add]
  generalize 10 ^ P.toNat = Q
  generalize 10 ^ (-P).toNat = K
  generalize 2 ^ a = x1 at *
  generalize 2 ^ (127 - l2 P).toNat = x2 at *
  generalize 2 ^ t = x3 at *
  rw [show 2 ^ 2 = 4 from rfl] at e2
  generalize 2 ^ unitP = x4 at *
  generalize 2 ^ (64 + s) = x5 at *
  generalize 2 ^ 64 = x6 at *
  generalize 2 ^ (l2 P - 127).toNat = x7 at *
  have l : D * x1 * (Q * x2) * (K * x3) = D * Q * K * (x1 * x2 * x3) := by ac_rfl
  have r : 4 * (D * Q * x4) * (x5 * (x6 * (K * x7))) = D * Q * K * (4 * x4 * x5 * x6 * x7) := by ac_rfl
  rw [l, r, e2]

theorem parse_close (P : Int) (h1 : -348 ≤ P) (h2 : P ≤ 347) (x H : Nat) (hx : 0 < x) (hl : x < 2 ^ 57) : Close (num P) (2 ^ 130 * den P) (2 ^ 58 * den P) x H := by
  have h := allBelow_at parse_all (show (P + 348).toNat < 696 by omega)
  unfold parseChk at h
  have e : (((P + 348).toNat : Nat) : Int) - 348 = P := by omega
  rw [e] at h
  exact close_of_chk h x H hx hl

/-- The closeness that the scaling of a number of up to 57 bits asks. -/
theorem parse_close' (P : Int) (h1 : -348 ≤ P) (h2 : P ≤ 347) (D a s N : Nat) (hD : 0 < D) (ha : 7 ≤ a) (hl : D * 2 ^ (a - 7) < 2 ^ 57) (hs : 8 ≤ s) (hN : N % 2 = 0) :
    Close (num P) (2 ^ (64 + s) * (R64 * den P)) (2 * (R64 * den P)) (D * 2 ^ a) N := by
  have h := parse_close P h1 h2 (D * 2 ^ (a - 7)) (N / 2 * 2 ^ (s - 8)) (Nat.mul_pos hD (Nat.two_pow_pos _)) hl
  unfold Close at *
  have e1 : D * 2 ^ a = D * 2 ^ (a - 7) * 2 ^ 7 := by rw [Nat.mul_assoc, ← Nat.pow_add]; congr 2; omega
  have e2 : N * (2 ^ (64 + s) * (R64 * den P)) = N / 2 * 2 ^ (s - 8) * (2 ^ 130 * den P) * 2 ^ 7 := by
    have g1 : N = N / 2 * 2 ^ 1 := by omega
    have g2 : 2 ^ 1 * (2 ^ (64 + s) * 2 ^ 64) = 2 ^ (s - 8) * 2 ^ 130 * 2 ^ 7 := by
      rw [← Nat.pow_add, ← Nat.pow_add, ← Nat.pow_add, ← Nat.pow_add]; congr 1; omega
    rw [R64_eq]
    conv => lhs; rw [g1]
    generalize 2 ^ (64 + s) = y1 at *
    generalize 2 ^ 64 = y2 at *
    generalize 2 ^ (s - 8) = y3 at *
    generalize 2 ^ 130 = y4 at *
    generalize 2 ^ 7 = y5 at *
    generalize 2 ^ 1 = y6 at *
    have l : N / 2 * y6 * (y1 * (y2 * den P)) = N / 2 * den P * (y6 * (y1 * y2)) := by ac_rfl
    have r : N / 2 * y3 * (y4 * den P) * y5 = N / 2 * den P * (y3 * y4 * y5) := by ac_rfl
    rw [l, r, g2]
  have e3 : 2 * (R64 * den P) = 2 ^ 58 * den P * 2 ^ 7 := by
    rw [R64_eq, Nat.mul_right_comm, ← Nat.mul_assoc]
  have e4 : D * 2 ^ (a - 7) * 2 ^ 7 * num P = D * 2 ^ (a - 7) * num P * 2 ^ 7 := Nat.mul_right_comm _ _ _
  rw [e2, e3, e1, e4]
  generalize D * 2 ^ (a - 7) * num P = X at *
  generalize N / 2 * 2 ^ (s - 8) * (2 ^ 130 * den P) = Y at *
  generalize 2 ^ 58 * den P = Z at *
  have hp : (2 : Nat) ^ 7 = 128 := rfl
  rw [hp]
  omega

/-- The exponent, and the shift, that parseFloat64 reckons for a number of b bits. -/
def pe (b : Nat) (P : Int) : Int := min 1074 (53 - b - l2 P)
def ps (b : Nat) (P : Int) : Int := -(pe b P - (64 - b) + l2 P + 3)
/-- What it scales to, before and behind the shift by one. -/
def pu (D b : Nat) (P : Int) : Nat := us (D * 2 ^ (64 - b)) (tabOf P) (ps b P).toNat
def big (D b : Nat) (P : Int) : Bool := decide (36028797018963966 ≤ pu D b P)
def pm (D b : Nat) (P : Int) : Nat := if big D b P then rnd (half (pu D b P)) else rnd (pu D b P)
/-- The place: 1074 less the exponent. -/
def pt (D b : Nat) (P : Int) : Nat := (1074 - pe b P).toNat + (big D b P).toNat

theorem ps_lt (D b : Nat) (P : Int) (h1 : -348 ≤ P) (h2 : P ≤ 347) (hb : 1 ≤ b) (hb2 : b ≤ 57) (hD : D < 2 ^ b) (hv : vk P ≤ 2 * vn D P) : ps b P < 64 := by
  have T := tab_ok P h1 h2
  rcases Int.lt_or_le (ps b P) 64 with h | h
  · exact h
  · exfalso
    have hps := h
    unfold ps pe at hps
    obtain ⟨s, hs⟩ : ∃ s : Nat, (s : Int) = ps b P := ⟨(ps b P).toNat, by omega⟩
    have hs' := hs
    unfold ps pe at hs'
    have c := cross D (64 - b) 0 s P (by omega)
    rw [Nat.pow_zero, Nat.mul_one] at c
    have hx : D * 2 ^ (64 - b) < 2 ^ 64 := by
      have : D * 2 ^ (64 - b) < 2 ^ b * 2 ^ (64 - b) := (Nat.mul_lt_mul_right (Nat.two_pow_pos _)).2 hD
      rwa [← Nat.pow_add, show b + (64 - b) = 64 by omega] at this
    have hA : num P < 2 ^ 128 * den P := by
      have := T.dn
      have h3 : tabOf P < 2 ^ 128 := Nat.lt_of_lt_of_le (Nat.lt_add_of_pos_right (Nat.two_pow_pos 110)) T.room
      exact Nat.lt_of_le_of_lt this ((Nat.mul_lt_mul_right (den_pos P)).2 h3)
    have h4 : D * 2 ^ (64 - b) * num P ≤ 2 ^ 64 * (2 ^ 128 * den P) := Nat.mul_le_mul (Nat.le_of_lt hx) (Nat.le_of_lt hA)
    have h5 : 2 ^ (64 + 64) ≤ 2 ^ (64 + s) := Nat.pow_le_pow_right (by decide) (by omega)
    have h6 : (2 * vk P) * (2 ^ (64 + 64) * (R64 * den P)) ≤ 4 * vn D P * (2 ^ (64 + s) * (R64 * den P)) :=
      Nat.mul_le_mul (by omega) (Nat.mul_le_mul_right _ h5)
    rw [← c] at h6
    have h7 : D * 2 ^ (64 - b) * num P * vk P ≤ 2 ^ 64 * (2 ^ 128 * den P) * vk P := Nat.mul_le_mul_right _ h4
    have e : (2 * vk P) * (2 ^ (64 + 64) * (R64 * den P)) = 2 * (2 ^ 64 * (2 ^ 128 * den P) * vk P) := by
      rw [R64_eq]
      generalize den P = B
      generalize vk P = K
      rw [show 2 ^ (64 + 64) = 2 ^ 128 from rfl]
      generalize 2 ^ 128 = y1
      generalize 2 ^ 64 = y2
      ac_rfl
    rw [e] at h6
    have : 0 < 2 ^ 64 * (2 ^ 128 * den P) * vk P := Nat.mul_pos (Nat.mul_pos (Nat.two_pow_pos _) (Nat.mul_pos (Nat.two_pow_pos _) (den_pos P))) (vk_pos P)
    omega

end Fl
end Go.Proofs.YtfemnjgcodcfkaaGreatDoor

namespace Go.Proofs.YtfemnjgcodcfkaaGreatDoor
namespace Fl

theorem Like.ge {u a b N : Nat} (h : Like u a b) (hN : N % 2 = 0) (hu : N ≤ u) : N * b ≤ a := by
  rcases Nat.lt_or_eq_of_le hu with h1 | h1
  · exact Nat.le_of_lt (h.gt hN h1)
  · exact Nat.le_of_eq (h.eq hN h1.symm).symm

theorem Like.le {u a b N : Nat} (h : Like u a b) (hN : N % 2 = 0) (hu : u ≤ N) : a ≤ N * b := by
  rcases Nat.lt_or_eq_of_le hu with h1 | h1
  · exact Nat.le_of_lt (h.lt hN h1)
  · exact Nat.le_of_eq (h.eq hN h1)

theorem half_bounds (u : Nat) : u / 2 ≤ half u ∧ half u ≤ u / 2 + 1 := by
  unfold half
  rcases (show u % 2 = 0 ∨ u % 2 = 1 by omega) with e | e
  · rw [e, Nat.or_zero]; omega
  · rw [e, or_one]; omega

theorem left_lt {D b : Nat} (hb2 : b ≤ 57) (hD : D < 2 ^ b) : D * 2 ^ (64 - b) < 2 ^ 64 := by
  have : D * 2 ^ (64 - b) < 2 ^ b * 2 ^ (64 - b) := (Nat.mul_lt_mul_right (Nat.two_pow_pos _)).2 hD
  rwa [← Nat.pow_add, show b + (64 - b) = 64 by omega] at this

theorem left_lt' {D b : Nat} (hb2 : b ≤ 57) (hD : D < 2 ^ b) : D * 2 ^ (64 - b - 7) < 2 ^ 57 := by
  have : D * 2 ^ (64 - b - 7) < 2 ^ b * 2 ^ (64 - b - 7) := (Nat.mul_lt_mul_right (Nat.two_pow_pos _)).2 hD
  rwa [← Nat.pow_add, show b + (64 - b - 7) = 57 by omega] at this

theorem left_ge {D b : Nat} (hb : 1 ≤ b) (hb2 : b ≤ 57) (hD : 2 ^ (b - 1) ≤ D) : 2 ^ 63 ≤ D * 2 ^ (64 - b) := by
  have : 2 ^ (b - 1) * 2 ^ (64 - b) ≤ D * 2 ^ (64 - b) := Nat.mul_le_mul_right _ hD
  rwa [← Nat.pow_add, show b - 1 + (64 - b) = 63 by omega] at this

theorem room_le (P : Int) (h1 : -348 ≤ P) (h2 : P ≤ 347) (x s : Nat) (hx : x ≤ 2 ^ 64) (hs : 8 ≤ s) : x * num P ≤ 72057594036879360 * (2 ^ (64 + s) * (R64 * den P)) := by
  have T := tab_ok P h1 h2
  have a1 : x * num P ≤ 2 ^ 64 * (tabOf P * den P) := Nat.mul_le_mul hx T.dn
  have a2 : 2 ^ 72 ≤ 2 ^ (64 + s) := Nat.pow_le_pow_right (by decide) (by omega)
  have a3 : tabOf P ≤ 2 ^ 128 - 2 ^ 110 := Nat.le_sub_of_add_le T.room
  have a4 : 2 ^ 64 * (tabOf P * den P) ≤ 2 ^ 64 * ((2 ^ 128 - 2 ^ 110) * den P) := Nat.mul_le_mul_left _ (Nat.mul_le_mul_right _ a3)
  have a5 : 72057594036879360 * (2 ^ 72 * (R64 * den P)) ≤ 72057594036879360 * (2 ^ (64 + s) * (R64 * den P)) := Nat.mul_le_mul_left _ (Nat.mul_le_mul_right _ a2)
  have a6 : 2 ^ 64 * ((2 ^ 128 - 2 ^ 110) * den P) ≤ 72057594036879360 * (2 ^ 72 * (R64 * den P)) := by
    rw [R64_eq]
    generalize den P = B
    have e1 : 2 ^ 64 * ((2 ^ 128 - 2 ^ 110) * B) = (2 ^ 64 * (2 ^ 128 - 2 ^ 110)) * B := (Nat.mul_assoc _ _ _).symm
    have e2 : 72057594036879360 * (2 ^ 72 * (2 ^ 64 * B)) = (72057594036879360 * (2 ^ 72 * 2 ^ 64)) * B := by rw [← Nat.mul_assoc (2 ^ 72), ← Nat.mul_assoc]
    rw [e1, e2]
    exact Nat.mul_le_mul_right _ (by decide)
  exact Nat.le_trans a1 (Nat.le_trans a4 (Nat.le_trans a6 a5))

theorem least_ge (P : Int) (h1 : -348 ≤ P) (h2 : P ≤ 347) (x : Nat) (hx : 2 ^ 63 ≤ x) : 18014398509481984 * (2 ^ (64 + 8) * (R64 * den P)) ≤ x * num P := by
  have T := tab_ok P h1 h2
  have a1 : 2 ^ 63 * (2 ^ 127 * den P) ≤ x * num P := Nat.mul_le_mul hx T.least
  have a6 : 18014398509481984 * (2 ^ (64 + 8) * (R64 * den P)) ≤ 2 ^ 63 * (2 ^ 127 * den P) := by
    rw [R64_eq]
    generalize den P = B
    have e1 : 2 ^ 63 * (2 ^ 127 * B) = (2 ^ 63 * 2 ^ 127) * B := (Nat.mul_assoc _ _ _).symm
    have e2 : 18014398509481984 * (2 ^ (64 + 8) * (2 ^ 64 * B)) = (18014398509481984 * (2 ^ (64 + 8) * 2 ^ 64)) * B := by rw [← Nat.mul_assoc (2 ^ (64 + 8)), ← Nat.mul_assoc]
    rw [e1, e2]
    exact Nat.mul_le_mul_right _ (by decide)
  exact Nat.le_trans a6 a1

theorem ps_ge (b : Nat) (P : Int) : 8 ≤ ps b P := by unfold ps pe; omega

theorem parse_like (D b : Nat) (P : Int) (h1 : -348 ≤ P) (h2 : P ≤ 347) (hb : 1 ≤ b) (hb2 : b ≤ 57) (hlo : 2 ^ (b - 1) ≤ D) (hD : D < 2 ^ b) :
    Like (pu D b P) (4 * vn D P) (vk P * 2 ^ (1074 - pe b P).toNat) := by
  have T := tab_ok P h1 h2
  have hs8 := ps_ge b P
  have hD0 : 0 < D := Nat.lt_of_lt_of_le (Nat.two_pow_pos _) hlo
  have L : Like (pu D b P) (D * 2 ^ (64 - b) * num P) (2 ^ (64 + (ps b P).toNat) * (R64 * den P)) := by
    intro N hN
    refine us_cmp _ (tabOf P) (num P) (den P) _ N ?_ (den_pos P) T.up T.dn hN (parse_close' P h1 h2 D (64 - b) _ N hD0 (by omega) (left_lt' hb2 hD) (by omega) hN)
    rw [R64_eq]
    exact left_lt hb2 hD
  refine L.same (Nat.mul_pos (Nat.two_pow_pos _) (Nat.mul_pos R64_pos (den_pos P))) (Nat.mul_pos (vk_pos P) (Nat.two_pow_pos _)) (cross D (64 - b) _ _ P ?_)
  unfold ps pe at *
  omega

theorem parse_near (D b : Nat) (P : Int) (h1 : -348 ≤ P) (h2 : P ≤ 347) (hb : 1 ≤ b) (hb2 : b ≤ 57) (hlo : 2 ^ (b - 1) ≤ D) (hD : D < 2 ^ b) :
    Near (pt D b P * 4503599627370496 + pm D b P) (vn D P) (vk P) ∧ pm D b P < 9007199254740992 ∧ (pt D b P = 0 ∨ 4503599627370496 ≤ pm D b P) := by
  have L := parse_like D b P h1 h2 hb hb2 hlo hD
  have T := tab_ok P h1 h2
  have hs8 := ps_ge b P
  have hroom : pu D b P ≤ 72057594036879360 :=
    us_le _ _ (num P) (den P) _ _ (by rw [R64_eq]; exact left_lt hb2 hD) (den_pos P) T.up (by decide) (room_le P h1 h2 _ _ (Nat.le_of_lt (left_lt hb2 hD)) (by omega))
  have hmin : (1074 - pe b P).toNat = 0 ∨ 18014398509481984 ≤ pu D b P := by
    by_cases h : (1074 - pe b P).toNat = 0
    · exact Or.inl h
    · right
      have hs : (ps b P).toNat = 8 := by unfold ps pe at *; omega
      have := least_ge P h1 h2 (D * 2 ^ (64 - b)) (left_ge hb hb2 hlo)
      unfold pu
      rw [hs]
      exact us_ge _ _ (num P) (den P) _ _ (den_pos P) T.dn this
  unfold pm pt
  generalize hu : pu D b P = u at *
  generalize (1074 - pe b P).toNat = t at *
  by_cases hbig : 36028797018963966 ≤ u
  · have hB : big D b P = true := by unfold big; rw [hu]; exact decide_eq_true hbig
    rw [hB]
    rw [if_pos rfl]
    show Near ((t + 1) * 4503599627370496 + rnd (half u)) (vn D P) (vk P) ∧ rnd (half u) < 9007199254740992 ∧ (t + 1 = 0 ∨ 4503599627370496 ≤ rnd (half u))
    have L2 : Like (half u) (4 * vn D P) (vk P * 2 ^ (t + 1)) := by
      have := L.half
      rwa [Nat.mul_left_comm, show 2 * 2 ^ t = 2 ^ (t + 1) by rw [Nat.pow_succ, Nat.mul_comm]] at this
    have hh := half_bounds u
    have hge := L.ge (N := 36028797018963966) (by decide) hbig
    have l := rnd_lo (half u)
    have g := rnd_hi (half u)
    refine ⟨near_of_like (vk_pos P) L2 (by omega) (Or.inr ⟨by omega, ?_⟩), by omega, Or.inr (by omega)⟩
    rw [Nat.pow_succ, ← Nat.mul_assoc (vk P), ← Nat.mul_assoc 18014398509481983]
    generalize vk P * 2 ^ t = K at *
    omega
  · have hB : big D b P = false := by unfold big; rw [hu]; exact decide_eq_false hbig
    rw [hB]
    rw [if_neg (by decide)]
    show Near ((t + 0) * 4503599627370496 + rnd u) (vn D P) (vk P) ∧ rnd u < 9007199254740992 ∧ (t + 0 = 0 ∨ 4503599627370496 ≤ rnd u)
    rw [Nat.add_zero]
    have l := rnd_lo u
    have g := rnd_hi u
    refine ⟨near_of_like (vk_pos P) L (by omega) ?_, by omega, ?_⟩
    · rcases hmin with h | h
      · exact Or.inl h
      · have hge := L.ge (N := 18014398509481984) (by decide) h
        refine Or.inr ⟨by omega, ?_⟩
        generalize vk P * 2 ^ t = K at *
        omega
    · rcases hmin with h | h
      · exact Or.inl h
      · exact Or.inr (by omega)

end Fl
end Go.Proofs.YtfemnjgcodcfkaaGreatDoor
