/-
  shortFloat, at every finite float: the digits and the exponent that it returns have that float for their nearest one.
-/
import Derived.Test.YtfemnjgcodcfkaaGreatDoorShortEven
namespace Go.Proofs.YtfemnjgcodcfkaaGreatDoor
open Go.RowKit

theorem i64_and1 (n : Nat) (h : n < 9223372036854775808) : bits .and .i64 (n : Int) 1 = ((n % 2 : Nat) : Int) := by
  have := bits_mask .i64 63 (by decide) (fun m h0 h1 => by
    have : (2 : Int) ^ 63 = 9223372036854775808 := by decide
    rw [IntKind.wrap_i64]; omega) 1 (by decide) (n : Int) (by omega) (by
    have : (2 : Int) ^ 63 = 9223372036854775808 := by decide
    omega)
  have e : (2 : Int) ^ 1 - 1 = 1 := by decide
  have e2 : (2 : Int) ^ 1 = 2 := by decide
  rw [e, e2] at this
  rw [this]; omega

theorem l2_bounds {p : Int} (h1 : -348 ≤ p) (h2 : p ≤ 347) : -3000 ≤ Fl.l2 p ∧ Fl.l2 p ≤ 3000 := by unfold Fl.l2; omega

theorem tab_le {p : Int} (T : Fl.Tab p) : Fl.tabOf p ≤ 2 ^ 128 := Nat.le_trans (Nat.le_add_right _ _) T.room

theorem sub_cast {x g m : Nat} (h : x + g = m) : (m : Int) - (g : Int) = (x : Int) := by omega

theorem top_lt {M s : Nat} (hs : s ≤ 63) (hs1 : 1 ≤ s) (h : M * 2 ^ s < 18446744073709551616) : (2 * M + 1) * 2 ^ (s - 1) < 18446744073709551616 := by
  have h64 : (18446744073709551616 : Nat) = 2 ^ (64 - s) * 2 ^ s := by
    rw [← Nat.pow_add, show 64 - s + s = 64 by omega]
  have e : 2 ^ s = 2 * 2 ^ (s - 1) := by
    obtain ⟨t, rfl⟩ : ∃ t, s = t + 1 := ⟨s - 1, by omega⟩
    rw [Nat.add_sub_cancel, Nat.pow_succ, Nat.mul_comm]
  rw [h64] at h
  have h2 : M < 2 ^ (64 - s) := Nat.lt_of_mul_lt_mul_right h
  rw [h64, e]
  have h3 : (2 * M + 1) * 2 ^ (s - 1) < 2 ^ (64 - s) * 2 * 2 ^ (s - 1) := (Nat.mul_lt_mul_right (Nat.two_pow_pos _)).2 (by omega)
  rwa [Nat.mul_assoc] at h3

/-- What the whole table says of a world. -/
def TabAll (w : World) : Prop := ∀ p : Int, -348 ≤ p → p ≤ 347 → TabRow w p

theorem three_r {a M s : Nat} (ha : a < 2046) (hM : 1 ≤ M) (hM2 : M < 9007199254740992) (hs : 11 ≤ s) (hs2 : s ≤ 63) (hm2 : M * 2 ^ s < 18446744073709551616) :
    Three (Fl.pR a) (Fl.fs a s (Fl.pR a)).toNat ((2 * M - 1) * 2 ^ (s - 1)) (2 * M * 2 ^ (s - 1)) ((2 * M + 1) * 2 ^ (s - 1)) (M % 2)
      (Fl.us ((2 * M - 1) * 2 ^ (s - 1)) (Fl.tabOf (Fl.pR a)) (Fl.fs a s (Fl.pR a)).toNat) (Fl.us (2 * M * 2 ^ (s - 1)) (Fl.tabOf (Fl.pR a)) (Fl.fs a s (Fl.pR a)).toNat) (Fl.us ((2 * M + 1) * 2 ^ (s - 1)) (Fl.tabOf (Fl.pR a)) (Fl.fs a s (Fl.pR a)).toNat)
      ((Fl.us ((2 * M - 1) * 2 ^ (s - 1)) (Fl.tabOf (Fl.pR a)) (Fl.fs a s (Fl.pR a)).toNat + M % 2 + 3) / 4) ((Fl.us ((2 * M + 1) * 2 ^ (s - 1)) (Fl.tabOf (Fl.pR a)) (Fl.fs a s (Fl.pR a)).toNat - M % 2) / 4) := by
  have F := Fl.format_at ha
  have T := Fl.tab_ok (Fl.pR a) (by have := F.p1; omega) (by have := F.p2; omega)
  have hS : 3 ≤ (Fl.fs a s (Fl.pR a)).toNat := by have := F.s0; unfold Fl.fs at *; omega
  have x3 := top_lt hs2 (by omega) hm2
  have x1 : (2 * M - 1) * 2 ^ (s - 1) < 18446744073709551616 := Nat.lt_of_le_of_lt (Nat.mul_le_mul_right _ (by omega)) x3
  have x2 : 2 * M * 2 ^ (s - 1) < 18446744073709551616 := Nat.lt_of_le_of_lt (Nat.mul_le_mul_right _ (by omega)) x3
  have h54 : (2 : Nat) ^ 54 = 18014398509481984 := by decide
  have L := Fl.format_like ha hs (2 * M + 1) (by omega) (by rw [h54]; omega) x3
  have h0 : 0 < Fl.us ((2 * M + 1) * 2 ^ (s - 1)) (Fl.tabOf (Fl.pR a)) (Fl.fs a s (Fl.pR a)).toNat := by
    have := (L 0).2.2 (by
      rw [Nat.mul_zero, Nat.zero_mul]
      exact Nat.mul_pos (by decide) (Nat.mul_pos (Nat.mul_pos (by omega) (Nat.two_pow_pos _)) (Fl.vk_pos _)))
    omega
  exact ⟨x1, x2, x3, rfl, rfl, rfl, Fl.us_bound _ _ _ x1 (tab_le T) hS, Fl.us_bound _ _ _ x2 (tab_le T) hS, Fl.us_bound _ _ _ x3 (tab_le T) hS, by omega, by omega, rfl, rfl⟩

theorem three_s {a : Nat} (S : Fl.SkewAt a) :
    Three (Fl.pS a) (Fl.fs a 11 (Fl.pS a)).toNat 9223372036854775296 9223372036854775808 9223372036854776832 0
      (Fl.us 9223372036854775296 (Fl.tabOf (Fl.pS a)) (Fl.fs a 11 (Fl.pS a)).toNat) (Fl.us 9223372036854775808 (Fl.tabOf (Fl.pS a)) (Fl.fs a 11 (Fl.pS a)).toNat) (Fl.us 9223372036854776832 (Fl.tabOf (Fl.pS a)) (Fl.fs a 11 (Fl.pS a)).toNat)
      ((Fl.us 9223372036854775296 (Fl.tabOf (Fl.pS a)) (Fl.fs a 11 (Fl.pS a)).toNat + 0 + 3) / 4) ((Fl.us 9223372036854776832 (Fl.tabOf (Fl.pS a)) (Fl.fs a 11 (Fl.pS a)).toNat - 0) / 4) := by
  have T := Fl.tab_ok (Fl.pS a) S.p1 S.p2
  have hS : 3 ≤ (Fl.fs a 11 (Fl.pS a)).toNat := by have := S.f1; omega
  have x1 : 9223372036854775296 < 18446744073709551616 := by decide
  have x2 : 9223372036854775808 < 18446744073709551616 := by decide
  have x3 : 9223372036854776832 < 18446744073709551616 := by decide
  exact ⟨x1, x2, x3, rfl, rfl, rfl, Fl.us_bound _ _ _ x1 (tab_le T) hS, Fl.us_bound _ _ _ x2 (tab_le T) hS, Fl.us_bound _ _ _ x3 (tab_le T) hS, by omega, by omega, rfl, rfl⟩

theorem short_all (a M s m : Nat) (e : Int) (ha : a < 2046) (hM : 1 ≤ M) (hM2 : M < 9007199254740992) (hn : a = 0 ∨ 4503599627370496 ≤ M) (hs : 11 ≤ s) (hs2 : s ≤ 63) (has : a = 0 ∨ s = 11)
    (hm : m = M * 2 ^ s) (hm1 : 9223372036854775808 ≤ m) (hm2 : m < 18446744073709551616) (he : e = (a : Int) - 1074 - s) :
    ∃ x, Fl.Good (a * 4503599627370496 + M) x ∧ ∀ w, TabAll w → Calls Tryz.prog 53 #[.int .u64 m, .int .i64 e] w (ShortOut x w) := by
  by_cases hsk : M = 4503599627370496 ∧ 0 < a
  · obtain ⟨hMe, ha0⟩ := hsk
    have S := Fl.skew_at ha0 ha
    have hs11 : s = 11 := by omega
    have hb := l2_bounds S.p1 S.p2
    have hm' : (m : Int) = 9223372036854775808 := by
      rw [hm, hMe, hs11]
      decide
    refine ⟨Fl.shortS a, by rw [hMe]; exact Fl.short_skewed a ha0 ha, fun w ht => ?_⟩
    have T3 := three_s S
    have h := short_a e (Fl.pS a) _ _ _ _ _ _ w (by omega) (by omega) (by unfold Fl.pS; rw [Int.neg_neg]; congr 1; omega) S.p1 S.p2 (by have := S.f1; unfold Fl.fs at *; omega) (by have := S.f2; omega) (ht _ S.p1 S.p2) (Fl.tab_ok _ S.p1 S.p2) hb.1 hb.2 T3
    rw [T3.sel] at h
    rw [hm']
    exact h
  · have F := Fl.format_at ha
    have p1 : -348 ≤ Fl.pR a := by have := F.p1; omega
    have p2 : Fl.pR a ≤ 347 := by have := F.p2; omega
    have hb := l2_bounds p1 p2
    have T := Fl.tab_ok _ p1 p2
    have T3 := three_r ha hM hM2 hs hs2 (by rw [← hm]; exact hm2)
    have hout := T3.sel
    have hmm : 2 * M * 2 ^ (s - 1) = m := by
      obtain ⟨t, rfl⟩ : ∃ t, s = t + 1 := ⟨s - 1, by omega⟩
      rw [hm, Nat.add_sub_cancel, Nat.pow_succ, Nat.mul_comm (2 ^ t) 2, ← Nat.mul_assoc, Nat.mul_comm M 2]
    have hout2 : Fl.shortR M a s = Fl.sel (Fl.pR a) (Fl.us ((2 * M - 1) * 2 ^ (s - 1)) (Fl.tabOf (Fl.pR a)) (Fl.fs a s (Fl.pR a)).toNat) (Fl.us (2 * M * 2 ^ (s - 1)) (Fl.tabOf (Fl.pR a)) (Fl.fs a s (Fl.pR a)).toNat) (Fl.us ((2 * M + 1) * 2 ^ (s - 1)) (Fl.tabOf (Fl.pR a)) (Fl.fs a s (Fl.pR a)).toNat) (M % 2) := rfl
    rw [hmm] at T3 hout hout2
    have hS0 : 3 ≤ Fl.fs a s (Fl.pR a) := by have := F.s0; unfold Fl.fs at *; omega
    have hS8 : Fl.fs a s (Fl.pR a) < 64 := by have := F.s8; unfold Fl.fs at *; omega
    have hSe : (((Fl.fs a s (Fl.pR a)).toNat : Nat) : Int) = -(e + Fl.l2 (Fl.pR a) + 3) := by unfold Fl.fs at *; omega
    refine ⟨Fl.shortR M a s, Fl.short_regular a M s ha hs hM hM2 (by omega) (top_lt hs2 (by omega) (by rw [← hm]; exact hm2)), fun w ht => ?_⟩
    rw [hout2, ← hout]
    clear hout hout2
    by_cases hs11 : s = 11
    · have h10 : 2 ^ (s - 1) = 1024 := by rw [hs11]
      have h11 : m = M * 2048 := by rw [hm, hs11]
      have hmin : (m : Int) - 1024 = (((2 * M - 1) * 2 ^ (s - 1) : Nat) : Int) := by rw [h10]; omega
      have hmax : (m : Int) + 1024 = (((2 * M + 1) * 2 ^ (s - 1) : Nat) : Int) := by rw [h10]; omega
      have hodd : bits .and .i64 ((m : Int) / 2048) 1 = ((M % 2 : Nat) : Int) := by
        rw [show (m : Int) / 2048 = (M : Int) by omega]
        exact i64_and1 M (by omega)
      have hl : Fl.l10 (e + 11) = -Fl.pR a := by unfold Fl.pR; rw [Int.neg_neg]; congr 1; omega
      by_cases hMe : M = 4503599627370496
      · have ha0 : a = 0 := by omega
        exact short_b2 m _ e (Fl.pR a) _ _ _ _ _ _ _ _ _ w hm1 (by omega) rfl (by omega) (by omega) (by simp; omega) hl p1 p2 hSe (by omega) (ht _ p1 p2) T hb.1 hb.2 T3 hmin hmax hodd
      · exact short_b m e (Fl.pR a) _ _ _ _ _ _ _ _ _ w hm1 (by omega) (by rw [beq_eq_false_iff_ne]; omega) (by omega) (by omega) hl p1 p2 hSe (by omega) (ht _ p1 p2) T hb.1 hb.2 T3 hmin hmax hodd
    · have ha0 : a = 0 := by omega
      obtain ⟨k, hk⟩ : ∃ k, s = 11 + k := ⟨s - 11, by omega⟩
      have e10 : 2 ^ (s - 1) = 2 ^ (10 + k) := by congr 1; omega
      have hpk : 2 ^ (10 + k) ≤ 2 ^ 62 := Nat.pow_le_pow_right (by decide) (by omega)
      have h62 : (2 : Nat) ^ 62 = 4611686018427387904 := by decide
      have hg : IntKind.u64.wrap (2 ^ (10 + k)) = ((2 ^ (10 + k) : Nat) : Int) := by
        have e : (2 : Int) ^ (10 + k) = ((2 ^ (10 + k) : Nat) : Int) := by simp
        rw [e, IntKind.wrap_u64]
        generalize 2 ^ (10 + k) = g at *
        omega
      have x3 := T3.x3
      have hmax' : (2 * M + 1) * 2 ^ (s - 1) = m + 2 ^ (10 + k) := by rw [Nat.add_mul, hmm, e10, Nat.one_mul]
      have hmin' : (2 * M - 1) * 2 ^ (s - 1) + 2 ^ (10 + k) = m := by
        rw [← hmm, e10, ← Nat.succ_mul]; congr 1; omega
      have hq : (m : Int) / 2 ^ (11 + k) = (M : Int) := by
        have e : (2 : Int) ^ (11 + k) = ((2 ^ (11 + k) : Nat) : Int) := by simp
        rw [e, ← Int.natCast_ediv, hm, hk, Nat.mul_div_cancel _ (Nat.two_pow_pos _)]
      have hl : Fl.l10 (e + (11 + (k : Int))) = -Fl.pR a := by unfold Fl.pR; rw [Int.neg_neg]; congr 1; omega
      rw [hmax'] at x3
      exact short_c m k (2 ^ (10 + k)) M _ e (Fl.pR a) _ _ _ _ _ _ _ _ _ w hm1 rfl (by omega) (by omega) (by omega) (by omega) hl p1 p2 hSe (by omega) (ht _ p1 p2) T hb.1 hb.2 T3 hg (by omega) x3 hq (by omega) (i64_and1 M (by omega))
        (sub_cast hmin') (by rw [hmax']; rw [Int.natCast_add])

end Go.Proofs.YtfemnjgcodcfkaaGreatDoor
