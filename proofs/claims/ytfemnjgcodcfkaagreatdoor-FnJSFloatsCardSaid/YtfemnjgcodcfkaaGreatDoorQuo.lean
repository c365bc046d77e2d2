/- Plain law, part 11: what the exact road of reading a number gives: a whole number times, or by, an exact power of ten, rounded once. Plain law, part 12: a quotient by an exact power of ten; the test against 10^15; whole numbers stay whole. -/
import Derived.Test.YtfemnjgcodcfkaaGreatDoorWord
import Derived.Laws.FloatArith

namespace Go.Proofs.YtfemnjgcodcfkaaGreatDoor
namespace Fl

theorem near_self (r : Nat) : Near r (val r) 1 := by
  refine ⟨fun q hq => ?_, ?_⟩
  · left
    have h := val_lt_succ q
    rw [hq] at h
    omega
  · left
    have := val_lt_succ r
    omega

/-- A whole number in units of the least place. -/
def unit1 : Nat := 2 ^ unitP
theorem unit1_pos : 0 < unit1 := Nat.two_pow_pos _

/-- The word is the nearest to n / k, or infinity if that is too great. -/
def Rounds (b : Nat) (s : Bool) (n k : Nat) : Prop := ∃ r, b = Ieee.double.word s (min r infR) ∧ Near r n k

theorem nearest_rounds (s : Bool) (m q : Nat) (hm : 0 < m) : Rounds (Ieee.double.nearest s m ((q : Int) - 1074)) s (m * 2 ^ q) 1 := by
  by_cases h : tOf m q ≤ q
  · refine ⟨_, nearest_exact s m q hm h, ?_⟩
    have := near_self (tOf m q * 4503599627370496 + m * 2 ^ (q - tOf m q))
    rwa [exact_val hm h] at this
  · have h52 : 52 ≤ m.log2 := by unfold tOf at h; omega
    refine ⟨_, nearest_cut s m q hm h52, ?_⟩
    refine near_cut m q m 1 hm h52 (by decide) s ?_ ?_
    · rw [Nat.one_mul]
      exact cut_rh s m _ (by omega)
    · rw [Nat.one_mul]
      have h1 := log2_lo hm
      have e : 2 ^ m.log2 = 2 ^ 52 * 2 ^ (m.log2 - 52) := by rw [← Nat.pow_add]; congr 1; omega
      have h52' : (2 : Nat) ^ 52 = 4503599627370496 := by decide
      rw [e, h52'] at h1
      exact h1

/-- A whole number below 2^53 has a rung of its own. -/
theorem whole_rung {X : Nat} (h0 : 0 < X) (h : X < 9007199254740992) : ∃ r, val r = X * unit1 ∧ r < infR ∧ 4503599627370496 * 1022 ≤ r ∧ Ieee.double.nearest false X 0 = Ieee.double.word false r := by
  have hl : X.log2 < 53 := (Nat.log2_lt (by omega)).2 (by have h3 : (2 : Nat) ^ 53 = 9007199254740992 := by decide
                                                          rw [h3]; exact h)
  have hu : unitP = 1074 := rfl
  have ht : tOf X unitP ≤ unitP := by unfold tOf; omega
  have hv := exact_val h0 ht
  have h2 := nearest_exact false X unitP h0 ht
  have hlt : tOf X unitP * 4503599627370496 + X * 2 ^ (unitP - tOf X unitP) < infR := by
    have h5 : X * 2 ^ (unitP - tOf X unitP) < 9007199254740992 := by
      have h1 : X * 2 ^ (unitP - tOf X unitP) < 2 ^ (X.log2 + 1) * 2 ^ (unitP - tOf X unitP) := (Nat.mul_lt_mul_right (Nat.two_pow_pos _)).2 (log2_hi X)
      rw [← Nat.pow_add] at h1
      have h2 : 2 ^ (X.log2 + 1 + (unitP - tOf X unitP)) ≤ 2 ^ 53 := Nat.pow_le_pow_right (by decide) (by unfold tOf at *; omega)
      have h3 : (2 : Nat) ^ 53 = 9007199254740992 := by decide
      omega
    have h6 : tOf X unitP ≤ 1074 := by omega
    have h7 : infR = 9218868437227405312 := rfl
    omega
  have hge : 4503599627370496 * 1022 ≤ tOf X unitP * 4503599627370496 + X * 2 ^ (unitP - tOf X unitP) := by
    have h6 : 1022 ≤ tOf X unitP := by unfold tOf; omega
    have := Nat.mul_le_mul_right 4503599627370496 h6
    exact Nat.le_trans (Nat.le_of_eq (Nat.mul_comm _ _)) (Nat.le_trans this (Nat.le_add_right _ _))
  refine ⟨_, hv, hlt, hge, ?_⟩
  rw [show ((unitP : Nat) : Int) - 1074 = 0 by omega] at h2
  rw [h2, Nat.min_eq_left (Nat.le_of_lt hlt)]

/-- The bits of the exact powers of ten, as the program lists them. -/
def p10 : List Nat := [4607182418800017408, 4621819117588971520, 4636737291354636288, 4652007308841189376, 4666723172467343360, 4681608360884174848, 4696837146684686336, 4711630319722168320, 4726483295884279808, 4741671816366391296, 4756540486875873280, 4771362005757984768, 4786511204640096256, 4801453603149578240, 4816244402031689728, 4831355200913801216, 4846369599423283200, 4861130398305394688, 4876203697187506176, 4891288408196988160, 4906019910204099648, 4921056587992461136, 4936209963552724370]

def p10Chk (k : Nat) : Bool := match Ieee.double.read (p10.getD k 0) with
  | .number false m j => decide (-52 ≤ j) && decide (j ≤ 21) && decide (4503599627370496 ≤ m) && decide (m < 9007199254740992) && decide (m * 2 ^ (j + 1074).toNat = 10 ^ k * unit1)
  | _ => false
theorem p10_all : allBelow p10Chk 23 = true := by decide +kernel

theorem p10_at {k : Nat} (hk : k < 23) : ∃ m j, Ieee.double.read (p10.getD k 0) = .number false m j ∧ -52 ≤ j ∧ j ≤ 21 ∧ 4503599627370496 ≤ m ∧ m < 9007199254740992 ∧ m * 2 ^ (j + 1074).toNat = 10 ^ k * unit1 := by
  have h := allBelow_at p10_all hk
  unfold p10Chk at h
  split at h
  · rename_i m j e
    simp only [Bool.and_eq_true, decide_eq_true_eq] at h
    exact ⟨m, j, e, h.1.1.1.1, h.1.1.1.2, h.1.1.2, h.1.2, h.2⟩
  · cases h

theorem mag_sh (r : Nat) : mag r * 2 ^ sh r = val r := rfl
theorem mag_pos {r : Nat} (h : 0 < r) : 0 < mag r := by unfold mag; split <;> omega
theorem sh_ge {r t : Nat} (h : 4503599627370496 * (t + 1) ≤ r) : t ≤ sh r := by unfold sh; omega

theorem mul_rounds (s : Bool) (r X k : Nat) (hr : r < infR) (hr2 : 4503599627370496 * 1022 ≤ r) (hv : val r = X * unit1) (hk : k < 23) :
    ∃ b, floatBits .mul .f64 (Ieee.double.word s r) (p10.getD k 0) = some b ∧ Rounds b s (X * 10 ^ k * unit1) 1 := by
  obtain ⟨m, j, he, hj1, hj2, hm1, hm2, hm⟩ := p10_at hk
  have hsh := sh_ge (r := r) (t := 1021) (by omega)
  refine ⟨_, ?_, nearest_rounds s (mag r * m) ((sh r : Int) + j).toNat (Nat.mul_pos (mag_pos (by omega)) (by omega)) |> fun ⟨r', h1, h2⟩ => ⟨r', h1, ?_⟩⟩
  · show Ieee.double.mul _ _ = _
    unfold Ieee.Format.mul
    rw [read_word s r hr, he]
    show some (Ieee.double.nearest (s ^^ false) (mag r * m) (-1074 + (sh r : Int) + j)) = _
    rw [show -1074 + (sh r : Int) + j = (((sh r : Int) + j).toNat : Int) - 1074 by omega, Bool.xor_false]
  · have e : mag r * m * 2 ^ ((sh r : Int) + j).toNat = X * 10 ^ k * unit1 := by
      have e1 : mag r * m * 2 ^ ((sh r : Int) + j).toNat * unit1 = mag r * 2 ^ sh r * (m * 2 ^ (j + 1074).toNat) := by
        unfold unit1
        have hu : unitP = 1074 := rfl
        have : 2 ^ ((sh r : Int) + j).toNat * 2 ^ unitP = 2 ^ sh r * 2 ^ (j + 1074).toNat := by
          rw [← Nat.pow_add, ← Nat.pow_add]; congr 1; omega
        rw [Nat.mul_assoc, this]
        generalize 2 ^ sh r = V1
        generalize 2 ^ (j + 1074).toNat = V2
        ac_rfl
      rw [mag_sh, hv, hm] at e1
      have e2 : X * unit1 * (10 ^ k * unit1) = X * 10 ^ k * unit1 * unit1 := by
        generalize unit1 = V
        generalize 10 ^ k = W
        ac_rfl
      rw [e2] at e1
      exact Nat.eq_of_mul_eq_mul_right unit1_pos e1
    rw [e] at h2
    exact h2

theorem sticky_rh {c d nd drop : Nat} (hnd : 0 < nd) (hdrop : 2 ≤ drop) (h : RH c (2 * (d / nd) + (d % nd != 0).toNat) (2 ^ drop)) : RH c (2 * d) (nd * 2 ^ drop) := by
  have hd := Nat.div_add_mod d nd
  have hlt := Nat.mod_lt d hnd
  obtain ⟨e, rfl⟩ : ∃ e, drop = e + 2 := ⟨drop - 2, by omega⟩
  have ep : 2 ^ (e + 2) = 4 * 2 ^ e := by rw [Nat.pow_add, Nat.mul_comm]
  rw [ep] at h ⊢
  have hg := Nat.two_pow_pos e
  generalize 2 ^ e = g at *
  generalize hQ : d / nd = Q at *
  generalize hS : d % nd = S at *
  have hs : ((S != 0) = true → 0 < S ∧ (S != 0).toNat = 1) ∧ ((S != 0) = false → S = 0 ∧ (S != 0).toNat = 0) := by
    by_cases h0 : S = 0
    · subst h0; simp
    · have : (S != 0) = true := by simpa using h0
      rw [this]; simp; omega
  unfold RH at *
  -- the two even numbers
  have eA : 2 * c * (4 * g) = 8 * (c * g) := by
    rw [Nat.mul_comm 4 g, ← Nat.mul_assoc, Nat.mul_assoc 2 c g]; omega
  have eB : (2 * c + 1) * (4 * g) = 8 * (c * g) + 4 * g := by rw [Nat.add_mul, eA]; omega
  have eA' : 2 * c * (nd * (4 * g)) = 8 * (c * g) * nd := by rw [← eA]; ac_rfl
  have eB' : (2 * c + 1) * (nd * (4 * g)) = (8 * (c * g) + 4 * g) * nd := by rw [← eB]; ac_rfl
  have eC' : nd * (4 * g) = 4 * g * nd := Nat.mul_comm _ _
  rw [eA, eB] at h
  rw [eA', eB', eC']
  generalize c * g = Y at *
  have dd : 2 * (2 * d) = 4 * Q * nd + 4 * S := by rw [← hd, Nat.mul_comm nd Q, Nat.mul_assoc 4 Q nd]; omega
  rw [dd]
  obtain ⟨hs1, hs2⟩ := hs
  cases hb : (S != 0)
  · obtain ⟨h0, h1⟩ := hs2 hb
    rw [hb] at h1
    rw [hb, h1, Nat.add_zero] at h
    subst h0
    rw [Nat.mul_zero, Nat.add_zero]
    refine ⟨?_, ?_⟩
    · rcases h.1 with h1 | h1
      · left
        rw [← Nat.add_mul]
        exact (Nat.mul_lt_mul_right hnd).2 (by omega)
      · right
        rw [← Nat.add_mul]
        exact ⟨by congr 1; omega, h1.2⟩
    · rcases h.2 with h1 | h1
      · left
        exact (Nat.mul_lt_mul_right hnd).2 (by omega)
      · right
        exact ⟨by congr 1; omega, h1.2⟩
  · obtain ⟨h0, h1⟩ := hs1 hb
    rw [hb] at h1
    rw [hb, h1] at h
    have p1 : 8 * Y ≤ 4 * Q + 4 * g := by omega
    have p2 : 4 * Q + 4 ≤ 8 * Y + 4 * g := by omega
    have q1 := Nat.mul_le_mul_right nd p1
    have q2 := Nat.mul_le_mul_right nd p2
    rw [Nat.add_mul] at q1
    rw [Nat.add_mul] at q2
    exact ⟨Or.inl (by omega), Or.inl (by omega)⟩

end Fl
end Go.Proofs.YtfemnjgcodcfkaaGreatDoor

namespace Go.Proofs.YtfemnjgcodcfkaaGreatDoor
namespace Fl

theorem log2_full {m : Nat} (h1 : 4503599627370496 ≤ m) (h2 : m < 9007199254740992) : m.log2 = 52 := by
  have h52 : (2 : Nat) ^ 52 = 4503599627370496 := by decide
  have h53 : (2 : Nat) ^ 53 = 9007199254740992 := by decide
  have a : m.log2 < 53 := (Nat.log2_lt (by omega)).2 (by rw [h53]; exact h2)
  have b : 52 ≤ m.log2 := (Nat.le_log2 (by omega)).2 (by rw [h52]; exact h1)
  omega

theorem mag_full {r : Nat} (h : 4503599627370496 * 1022 ≤ r) : 4503599627370496 ≤ mag r ∧ mag r < 9007199254740992 := by
  unfold mag
  rw [if_neg (by omega)]
  omega

theorem quo_form (m nd : Nat) (h1 : 4503599627370496 ≤ m) (h3 : 4503599627370496 ≤ nd) (h4 : nd < 9007199254740992) :
    9007199254740992 ≤ m * 18014398509481984 / nd := by
  refine (Nat.le_div_iff_mul_le (by omega)).2 ?_
  have a := Nat.mul_le_mul_right 18014398509481984 h1
  have b := Nat.mul_le_mul_left 9007199254740992 (Nat.le_of_lt h4)
  refine Nat.le_trans b (Nat.le_trans ?_ a)
  decide

theorem div_cross (shr m nd X K : Nat) (j : Int) (q : Nat) (hq : (q : Int) = (shr : Int) - j - 54 - 1) (hj : -52 ≤ j) (hv : m * 2 ^ shr = X * unit1) (hm : nd * 2 ^ (j + 1074).toNat = K * unit1) :
    2 * (m * 18014398509481984) * 2 ^ q * K = X * unit1 * nd := by
  have hu : unitP = 1074 := rfl
  have h54 : (18014398509481984 : Nat) = 2 ^ 54 := by decide
  have hp := Nat.two_pow_pos (j + 1074).toNat
  have ep : 2 * 2 ^ 54 * 2 ^ q * 2 ^ (j + 1074).toNat = 2 ^ shr * unit1 := by
    unfold unit1
    rw [show 2 * 2 ^ 54 = 2 ^ 55 from rfl, ← Nat.pow_add, ← Nat.pow_add, ← Nat.pow_add]
    congr 1
    omega
  have e1 : 2 * (m * 18014398509481984) * 2 ^ q * K * 2 ^ (j + 1074).toNat = X * unit1 * nd * 2 ^ (j + 1074).toNat := by
    have l : 2 * (m * 18014398509481984) * 2 ^ q * K * 2 ^ (j + 1074).toNat = m * (2 * 2 ^ 54 * 2 ^ q * 2 ^ (j + 1074).toNat) * K := by
      rw [h54]
      generalize 2 ^ 54 = V1
      generalize 2 ^ q = V2
      generalize 2 ^ (j + 1074).toNat = V3
      ac_rfl
    have r : X * unit1 * nd * 2 ^ (j + 1074).toNat = X * unit1 * (nd * 2 ^ (j + 1074).toNat) := Nat.mul_assoc _ _ _
    rw [l, r, ep, hm, ← hv]
    generalize unit1 = V1
    generalize 2 ^ shr = V2
    ac_rfl
  exact Nat.eq_of_mul_eq_mul_right hp e1

theorem near_quo (s : Bool) (m nd q : Nat) (h1 : 4503599627370496 ≤ m) (h3 : 4503599627370496 ≤ nd) (h4 : nd < 9007199254740992) :
    ∃ r, Ieee.double.nearest s (2 * (m * 18014398509481984 / nd) + (m * 18014398509481984 % nd != 0).toNat) ((q : Int) - 1074) = Ieee.double.word s (min r infR) ∧ Near r (2 * (m * 18014398509481984) * 2 ^ q) nd := by
  have hge := quo_form m nd h1 h3 h4
  have hnd : 0 < nd := by omega
  have hdm := Nat.div_add_mod (m * 18014398509481984) nd
  generalize hM : 2 * (m * 18014398509481984 / nd) + (m * 18014398509481984 % nd != 0).toNat = M at *
  have hb : (m * 18014398509481984 % nd != 0).toNat ≤ 1 := Bool.toNat_le _
  have hM0 : 0 < M := by omega
  have h54 : (2 : Nat) ^ 54 = 18014398509481984 := by decide
  have hl : 54 ≤ M.log2 := (Nat.le_log2 (by omega)).2 (by rw [h54]; omega)
  refine ⟨_, nearest_cut s M q hM0 (by omega), ?_⟩
  refine near_cut M q (2 * (m * 18014398509481984)) nd hM0 (by omega) hnd s ?_ ?_
  · have hr := cut_rh s M (M.log2 - 52) (by omega)
    generalize hc : Ieee.Toward.even.cut s M (M.log2 - 52) = c at *
    rw [← hM] at hr
    have hM' := hM
    rw [hM'] at hr
    refine sticky_rh (d := m * 18014398509481984) hnd (show 2 ≤ M.log2 - 52 by omega) ?_
    rw [hM]
    exact hr
  · have g1 := log2_lo hM0
    have e : 2 ^ M.log2 = 2 ^ 52 * 2 ^ (M.log2 - 52) := by rw [← Nat.pow_add]; congr 1; omega
    have h52' : (2 : Nat) ^ 52 = 4503599627370496 := by decide
    obtain ⟨f, hf⟩ : ∃ f, M.log2 - 52 = f + 1 := ⟨M.log2 - 52 - 1, by omega⟩
    rw [e, h52', hf, Nat.pow_succ] at g1
    rw [hf, Nat.pow_succ]
    generalize 2 ^ f = g at *
    have g2 : 4503599627370496 * g ≤ m * 18014398509481984 / nd := by omega
    have g3 := Nat.mul_le_mul_left nd g2
    have e3 : 4503599627370496 * (nd * (g * 2)) = 2 * (nd * (4503599627370496 * g)) := by
      generalize (4503599627370496 : Nat) = V
      ac_rfl
    rw [e3]
    generalize nd * (4503599627370496 * g) = Y at *
    generalize nd * (m * 18014398509481984 / nd) = Z at *
    generalize m * 18014398509481984 = V at *
    omega

theorem div_rounds (s : Bool) (r X k : Nat) (hr : r < infR) (hr2 : 4503599627370496 * 1022 ≤ r) (hv : val r = X * unit1) (hk : k < 23) :
    ∃ b, floatBits .quo .f64 (Ieee.double.word s r) (p10.getD k 0) = some b ∧ Rounds b s (X * unit1) (10 ^ k) := by
  obtain ⟨m, j, he, hj1, hj2, hm1, hm2, hm⟩ := p10_at hk
  have hsh := sh_ge (r := r) (t := 1021) (by omega)
  have hmag := mag_full hr2
  obtain ⟨r', hr'1, hr'2⟩ := near_quo s (mag r) m ((sh r : Int) - j - 54 - 1).toNat hmag.1 hm1 hm2
  refine ⟨_, ?_, r', hr'1, near_same (by omega) (Nat.pow_pos (by decide)) ?_ hr'2⟩
  · show Ieee.double.div _ _ = _
    unfold Ieee.Format.div
    rw [read_word s r hr, he]
    unfold Ieee.Datum.quotient
    simp only
    rw [if_neg (by omega), dbl_frac, log2_full hmag.1 hmag.2, log2_full hm1 hm2]
    show some (Ieee.double.nearest (s ^^ false) (2 * (mag r <<< 54 / m) + (mag r <<< 54 % m != 0).toNat) (-1074 + (sh r : Int) - j - (54 : Nat) - 1)) = _
    rw [Bool.xor_false, Nat.shiftLeft_eq, show (2 : Nat) ^ 54 = 18014398509481984 by decide]
    rw [show -1074 + (sh r : Int) - j - ((54 : Nat) : Int) - 1 = (((sh r : Int) - j - 54 - 1).toNat : Int) - 1074 by omega]
  · exact div_cross (sh r) (mag r) m X (10 ^ k) j _ (by omega) hj1 hv hm

theorem near_ge {r s n : Nat} (h : Near r n 1) (hs : val s ≤ n) : s ≤ r := by
  rcases Nat.lt_or_ge r s with h1 | h1
  · exfalso
    have := h.2
    rw [Nat.mul_one] at this
    have m1 : val (r + 1) ≤ val s := val_mono h1
    have m2 := val_lt_succ r
    omega
  · exact h1

theorem near_le {r s n : Nat} (h : Near r n 1) (hs : n ≤ val s) : r ≤ s := by
  rcases Nat.lt_or_ge s r with h1 | h1
  · exfalso
    obtain ⟨q, rfl⟩ : ∃ q, r = q + 1 := ⟨r - 1, by omega⟩
    have := h.1 q rfl
    rw [Nat.mul_one] at this
    have m1 : val s ≤ val q := val_mono (by omega)
    have m2 := val_lt_succ q
    omega
  · exact h1

/-- 10^15 in units. -/
def e15 : Nat := 10 ^ 15 * unit1
def bigR (r : Nat) : Bool := decide (e15 < val r)

theorem top_val : 2 ^ 110 * unit1 ≤ val (infR - 1) := by decide +kernel

theorem near_lt_inf {r X : Nat} (hX : X ≤ 2 ^ 110) (h : Near r (X * unit1) 1) : r < infR := by
  have h1 : X * unit1 ≤ val (infR - 1) := Nat.le_trans (Nat.mul_le_mul_right _ hX) top_val
  have := near_le h h1
  have h7 : infR = 9218868437227405312 := rfl
  omega

/-- Rounded below 10^15: it was whole, and no rounding took place. -/
theorem whole_of_small {r X : Nat} (h0 : 0 < X) (h : Near r (X * unit1) 1) (hb : bigR r = false) : val r = X * unit1 ∧ r < infR ∧ 4503599627370496 * 1022 ≤ r := by
  have hX : X < 1000000000000001 := by
    rcases Nat.lt_or_ge X 1000000000000001 with h1 | h1
    · exact h1
    · exfalso
      obtain ⟨s, hs, _, _, _⟩ := whole_rung (X := 1000000000000001) (by decide) (by decide)
      have h2 : val s ≤ X * unit1 := by rw [hs]; exact Nat.mul_le_mul_right _ h1
      have h3 := val_mono (near_ge h h2)
      have h4 : e15 < val s := by
        rw [hs]
        unfold e15
        exact (Nat.mul_lt_mul_right unit1_pos).2 (by decide)
      unfold bigR at hb
      have h5 := of_decide_eq_false hb
      omega
  obtain ⟨s, hs, hs1, hs2, _⟩ := whole_rung h0 (show X < 9007199254740992 by omega)
  have hn := near_self s
  rw [hs] at hn
  have := near_unique (by decide) h hn
  subst this
  exact ⟨hs, hs1, hs2⟩

theorem signed_pos (m a : Nat) : Ieee.signed false m a = ((m * 2 ^ a : Nat) : Int) := by
  unfold Ieee.signed; rw [if_neg (by decide), Nat.shiftLeft_eq]
theorem signed_neg (m a : Nat) : Ieee.signed true m a = -((m * 2 ^ a : Nat) : Int) := by
  unfold Ieee.signed; rw [if_pos rfl, Nat.shiftLeft_eq]

theorem cmp_gt (a b : Int) : (some (compare a b) == some Ordering.gt) = decide (b < a) := by
  simp only [compare, compareOfLessAndEq]
  by_cases h1 : a < b
  · rw [if_pos h1]
    rw [decide_eq_false (by omega)]; rfl
  · rw [if_neg h1]
    by_cases h2 : a = b
    · rw [if_pos h2, decide_eq_false (by omega)]; rfl
    · rw [if_neg h2, decide_eq_true (by omega)]; rfl

theorem cmp_lt (a b : Int) : (some (compare a b) == some Ordering.lt) = decide (a < b) := by
  simp only [compare, compareOfLessAndEq]
  by_cases h1 : a < b
  · rw [if_pos h1, decide_eq_true h1]; rfl
  · rw [if_neg h1, decide_eq_false h1]
    by_cases h2 : a = b
    · rw [if_pos h2]; rfl
    · rw [if_neg h2]; rfl

theorem read_e15 : Ieee.double.read 4831355200913801216 = .number false 8000000000000000 (-3) := by decide +kernel
theorem read_me15 : Ieee.double.read 14054727237768577024 = .number true 8000000000000000 (-3) := by decide +kernel

/-- Both sides of a comparison at one place. -/
theorem scaled (r : Nat) : (8000000000000000 * 2 ^ ((-3 : Int) - min (-1074 + (sh r : Int)) (-3)).toNat < mag r * 2 ^ (-1074 + (sh r : Int) - min (-1074 + (sh r : Int)) (-3)).toNat) ↔ e15 < val r := by
  have hu : unitP = 1074 := rfl
  have e1 : mag r * 2 ^ (-1074 + (sh r : Int) - min (-1074 + (sh r : Int)) (-3)).toNat * 2 ^ (min (-1074 + (sh r : Int)) (-3) + 1074).toNat = val r := by
    rw [Nat.mul_assoc, ← Nat.pow_add, ← mag_sh]
    congr 2
    omega
  have e2 : 8000000000000000 * 2 ^ ((-3 : Int) - min (-1074 + (sh r : Int)) (-3)).toNat * 2 ^ (min (-1074 + (sh r : Int)) (-3) + 1074).toNat = e15 := by
    have e3 : 2 ^ ((-3 : Int) - min (-1074 + (sh r : Int)) (-3)).toNat * 2 ^ (min (-1074 + (sh r : Int)) (-3) + 1074).toNat * 8 = unit1 := by
      unfold unit1
      rw [show 8 = 2 ^ 3 from rfl, ← Nat.pow_add, ← Nat.pow_add]
      congr 1
      omega
    unfold e15
    rw [← e3, show 8000000000000000 = 10 ^ 15 * 8 by decide]
    generalize 2 ^ ((-3 : Int) - min (-1074 + (sh r : Int)) (-3)).toNat = V1
    generalize 2 ^ (min (-1074 + (sh r : Int)) (-3) + 1074).toNat = V2
    generalize 10 ^ 15 = V3
    ac_rfl
  rw [← e1, ← e2]
  exact (Nat.mul_lt_mul_right (Nat.two_pow_pos _)).symm

theorem gt_e15 (s : Bool) (r : Nat) (hr : r < infR) : (Ieee.double.order (Ieee.double.word s r) 4831355200913801216 == some .gt) = (!s && bigR r) := by
  unfold Ieee.Format.order
  rw [read_word s r hr, read_e15]
  unfold Ieee.Datum.order
  simp only
  rw [cmp_gt]
  cases s
  · rw [signed_pos, signed_pos]
    unfold bigR
    simp only [Bool.not_false, Bool.true_and]
    rw [Bool.eq_iff_iff, decide_eq_true_eq, decide_eq_true_eq, ← scaled r]
    omega
  · rw [signed_pos, signed_neg]
    simp only [Bool.not_true, Bool.false_and]
    apply decide_eq_false
    omega

theorem lt_me15 (s : Bool) (r : Nat) (hr : r < infR) : (Ieee.double.order (Ieee.double.word s r) 14054727237768577024 == some .lt) = (s && bigR r) := by
  unfold Ieee.Format.order
  rw [read_word s r hr, read_me15]
  unfold Ieee.Datum.order
  simp only
  rw [cmp_lt]
  cases s
  · rw [signed_pos, signed_neg]
    simp only [Bool.false_and]
    apply decide_eq_false
    omega
  · rw [signed_neg, signed_neg]
    unfold bigR
    simp only [Bool.true_and]
    rw [Bool.eq_iff_iff, decide_eq_true_eq, decide_eq_true_eq, ← scaled r]
    omega

end Fl
end Go.Proofs.YtfemnjgcodcfkaaGreatDoor
