/- readFloat: it reads the text of a number back, digit for digit. -/
import Derived.Test.YtfemnjgcodcfkaaGreatDoorStr
import Derived.WalkMore

namespace Go.Proofs.YtfemnjgcodcfkaaGreatDoor
open Go.RowKit

theorem Fl.first_digit {k D : Nat} (hk : 1 ≤ k) (h1 : 10 ^ (k - 1) ≤ D) (h2 : D < 10 ^ k) : ∃ c, c = 48 + D / 10 ^ (k - 1) % 10 ∧ 49 ≤ c ∧ c ≤ 57 ∧ c = 48 + Fl.pre k D 1 := by
  have hp : 0 < 10 ^ (k - 1) := Nat.pow_pos (by decide)
  have a : 1 ≤ D / 10 ^ (k - 1) := (Nat.le_div_iff_mul_le hp).2 (by rw [Nat.one_mul]; exact h1)
  have b : D / 10 ^ (k - 1) < 10 := (Nat.div_lt_iff_lt_mul hp).2 (by
    have e : 10 * 10 ^ (k - 1) = 10 ^ k := by rw [Nat.mul_comm, ← Nat.pow_succ]; congr 1; omega
    rw [e]; exact h2)
  exact ⟨_, rfl, by omega, by omega, by unfold Fl.pre; omega⟩

theorem lower_e (w : World) : Calls Tryz.prog 79 #[.int .u8 101] w fun e w' => e = .returned (.int .u8 101) ∧ w = w' := by
  go_enter Tryz.func79, Tryz.ntmps79
  go_wp2
  go_ret
  exact ⟨rfl, rfl⟩

/-- What readFloat hands back. -/
def ReadOut (D n : Nat) (P : Int) (neg : Bool) (w : World) (e : Ending) (w' : World) : Prop :=
  e = .returned (.tuple #[.int .u64 (D : Nat), .int .i64 P, .bool neg, .bool false, .bool false, .int .i64 (n : Nat), .bool true]) ∧ w = w'

theorem readOut_mk {D n : Nat} {P d' P' n' : Int} {neg : Bool} {w w' : World} (hd : d' = (D : Int)) (hP : P' = P) (hn : n' = (n : Int)) (hw : w = w' := by rfl) :
    ReadOut D n P neg w (.returned (.tuple #[.int .u64 d', .int .i64 P', .bool neg, .bool false, .bool false, .int .i64 n', .bool true])) w' := by
  subst hd; subst hP; subst hn
  exact ⟨rfl, hw⟩

/-- The state behind t places of the digits. -/
inductive St (k D : Nat) : Nat → Nat → Bool → Bool → Nat → Int → Prop
  | start : St k D 0 0 false false 0 0
  | one : St k D 1 (Fl.pre k D 1) false true 1 0
  | more (t : Nat) : 1 ≤ t → t ≤ k → 2 ≤ k → St k D (t + 1) (Fl.pre k D t) true true t 1

set_option maxRecDepth 100000 in
set_option maxHeartbeats 4000000 in
theorem read_np (s : ByteArray) (k D mlen m x n : Nat) (w : World) (hp : Places s 1 k D mlen m x 43 n) (h0 : byteAt s 0 = 45) (hk : 1 ≤ k) (hk2 : k ≤ 17) (hD : D < 10 ^ k) (hD1 : 10 ^ (k - 1) ≤ D) (hm1 : 2 ≤ m) (hm2 : m ≤ 3) (hx : x < 10 ^ m) (hml : mlen = if k = 1 then 1 else k + 1) :
    Calls Tryz.prog 116 #[.string s] w (ReadOut D n ((x : Int) + 1 - k) true w) := by
  have hb := get_byteAt s
  have hsz := hp.size
  have hlen := hp.len
  have hf := hp.first
  obtain ⟨c0, hc0, hc1, hc2, hcv⟩ := Fl.first_digit hk hD1 hD
  rw [← hc0] at hf
  have hf48 : ((c0 : Int) == 48) = false := by rw [beq_eq_false_iff_ne]; omega
  have hf43 : ((c0 : Int) == 43) = false := by rw [beq_eq_false_iff_ne]; omega
  have hf45 : ((c0 : Int) == 45) = false := by rw [beq_eq_false_iff_ne]; omega
  have hf46 : ((c0 : Int) == 46) = false := by rw [beq_eq_false_iff_ne]; omega
  have hf95 : ((c0 : Int) == 95) = false := by rw [beq_eq_false_iff_ne]; omega
  have HC0 := Lib.hid hc0
  have HCV := Lib.hid hcv
  clear hc0 hcv
  have HP := Lib.hid hp
  have HD := Lib.hid hD
  have HX := Lib.hid hx
  have hDD : D < 100000000000000000 := by
    have a : 10 ^ k ≤ 10 ^ 17 := Nat.pow_le_pow_right (by decide) hk2
    have b : (10 : Nat) ^ 17 = 100000000000000000 := by decide
    omega
  have hD0 : 1 ≤ D := by
    have := Nat.pow_pos (n := k - 1) (show 0 < 10 by decide)
    omega
  have hDn : ((D : Int) != 0) = true := by rw [bne_iff_ne]; omega
  have hmb : 1 ≤ mlen ∧ mlen ≤ 18 := by rw [hml]; split <;> omega
  have HM := Lib.hid hml
  clear hp hD hD1 hx hml
  have hn1 : 5 ≤ n := by omega
  have hn2 : n ≤ 30 := by omega
  clear hlen
  go_enter Tryz.func116, Tryz.ntmps116
  go_wp2_with fail
  go_step3
  go_wp2_with fail
  go_step3
  go_wp2_with fail
  go_loopw [2, 5, 7, 9, 13, 14, 15, 16, 17] (fun mm tr i un sd sg nd nm dp wr => ∃ (t p mv ndv : Nat) (b1 b2 : Bool) (dpv : Int), St k D t mv b1 b2 ndv dpv ∧ p = 1 + t ∧ mm = .int .u64 (mv : Int) ∧ tr = .bool false ∧ i = .int .i64 (p : Int) ∧ un = .bool false ∧ sd = .bool b1 ∧ sg = .bool b2 ∧ nd = .int .i64 (ndv : Int) ∧ nm = .int .i64 (ndv : Int) ∧ dp = .int .i64 dpv ∧ w = wr)
    (fun _ _ i _ _ _ _ _ _ _ => n - (RowKit.intOf i).toNat)
  case atStart => exact ⟨0, 1, 0, 0, false, false, 0, .start, rfl, rfl, rfl, rfl, rfl, rfl, rfl, rfl, rfl, rfl, rfl⟩
  case round =>
    obtain ⟨t, p, mv, ndv, b1, b2, dpv, hSt, hpt, rfl, rfl, rfl, rfl, rfl, rfl, rfl, rfl, rfl, rfl⟩ := hrel
    cases hSt with
    | start =>
      have hfp : byteAt s p = c0 := by rw [show p = 1 by omega]; exact hf
      have hlt : p + 4 ≤ n := by have := HP.out.len; omega
      have HPT := Lib.hid hpt
      clear hpt
      go_wp2_with fail
      go_roundw
      case rel => exact ⟨1, p + 1, Fl.pre k D 1, 1, false, true, 0, .one, by have := HPT.out; omega, by congr 1; have := HCV.out; omega, rfl, by congr 1, rfl, rfl, rfl, rfl, rfl, rfl, by first | rfl | trivial⟩
      case measure => simp [RowKit.intOf]; omega
    | one =>
      by_cases hk1 : k = 1
      · have hm1' : mlen = 1 := by rw [HM.out, if_pos hk1]
        have hpe : byteAt s p = 101 := by rw [show p = 1 + mlen by omega]; exact HP.out.e
        have HPO := Lib.hid (show p = 1 + mlen by omega)
        have hlt : p + 4 ≤ n := by have := HP.out.len; omega
        have hmv : Fl.pre k D 1 = D := by rw [hk1]; exact Fl.pre_all 1 D
        rw [hmv]
        clear hmv hpt
        have hkk : (k : Int) = 1 := by omega
        have hs1 : byteAt s (p + 1) = 43 := by rw [HPO.out]; exact HP.out.sign
        have hx0 : byteAt s (p + 1 + 1) = ((48 + x / 10 ^ (m - 1) % 10 : Nat) : Int) := by rw [HPO.out]; exact HP.out.exp 0 (by omega)
        obtain ⟨cx, hcx⟩ : ∃ cx, cx = 48 + x / 10 ^ (m - 1) % 10 := ⟨_, rfl⟩
        have hcx1 : 48 ≤ cx := by omega
        have hcx2 : cx ≤ 57 := by omega
        rw [← hcx] at hx0
        have HCX := Lib.hid hcx
        clear hcx
        have hpb : (p : Int) + 2 + m = n := by have := HP.out.len; have := HPO.out; omega
        go_wp2_with (go_at_call 79; refine (lower_e _).mono ?_; rintro en w2 ⟨rfl, rfl⟩)
        go_loopw [7, 9, 20] (fun i un ev wr => ∃ (t p2 e2 : Nat), t ≤ m ∧ p2 = p + 2 + t ∧ e2 = Fl.pre m x t ∧ i = .int .i64 (p2 : Int) ∧ un = .bool false ∧ ev = .int .i64 (e2 : Int) ∧ w = wr) (fun i _ _ _ => (n - (RowKit.intOf i).toNat))
        case atStart => exact ⟨0, p + 1 + 1, 0, Nat.zero_le _, rfl, (Fl.pre_zero HX.out).symm, by congr 1, rfl, rfl, rfl⟩
        case round =>
          obtain ⟨t2, p2, e2, ht2, hp2, he2, rfl, rfl, rfl, rfl⟩ := hrel
          have he3 : e2 < 1000 := by
            have a := Fl.pre_le m x t2
            have b : 10 ^ m ≤ 10 ^ 3 := Nat.pow_le_pow_right (by decide) hm2
            have c := HX.out
            have d : (10 : Nat) ^ 3 = 1000 := by decide
            omega
          have HE2 := Lib.hid he2
          have HP2 := Lib.hid hp2
          clear he2
          rcases Nat.lt_or_ge t2 m with h | h
          · have hc := HP.out.exp t2 h
            rw [← HPO.out, ← hp2] at hc
            obtain ⟨c, hcv⟩ : ∃ c, c = 48 + x / 10 ^ (m - 1 - t2) % 10 := ⟨_, rfl⟩
            have hc1 : 48 ≤ c := by omega
            have hc2 : c ≤ 57 := by omega
            rw [← hcv] at hc
            have HCV2 := Lib.hid hcv
            clear hcv
            have hlt : p2 < n := by omega
            have h95 : ((c : Int) == 95) = false := by rw [beq_eq_false_iff_ne]; omega
            clear hp2
            go_wp2_with fail
            go_roundw
            case rel => exact ⟨t2 + 1, p2 + 1, Fl.pre m x (t2 + 1), by omega, by have := HP2.out; omega, rfl, by congr 1, rfl, by congr 1; have a := Fl.pre_succ (D := x) h; have b := HE2.out; have c := HCV2.out; omega, by first | rfl | trivial⟩
            case measure => simp [RowKit.intOf]; omega
          · have he4 : p2 = n := by omega
            have hex : e2 = x := by rw [HE2.out, show t2 = m by omega]; exact Fl.pre_all m x
            clear hp2
            subst he4
            subst hex
            go_wp2_with fail
            rw [Exit.noGoto_ret]
            (try simp only [Exit.inBlock, Exit.then]); refine bodyPost_ret (results_tmp7 rfl _ _ _) rfl ?_
            exact readOut_mk rfl (by omega) rfl
      · have hpe : byteAt s p = 46 := by rw [hpt]; exact HP.out.dot (by omega)
        have hlt : p + 4 ≤ n := by have := HP.out.len; have h2 := HM.out; rw [if_neg hk1] at h2; omega
        have HPT := Lib.hid hpt
        clear hpt
        generalize hmv : Fl.pre k D 1 = mv
        go_wp2_with fail
        subst hmv
        go_roundw
        case rel => exact ⟨2, p + 1, Fl.pre k D 1, 1, true, true, 1, .more 1 (by omega) hk (by omega), by have := HPT.out; omega, rfl, rfl, by congr 1, rfl, rfl, rfl, rfl, rfl, rfl, by first | rfl | trivial⟩
        case measure => simp [RowKit.intOf]; omega
    | more t ht1 ht2 hk2' =>
      have hne : ((ndv : Int) == 0) = false := by rw [beq_eq_false_iff_ne]; omega
      have hmlen : mlen = k + 1 := by rw [HM.out, if_neg (by omega)]
      rcases Nat.lt_or_ge ndv k with h | h
      · have hc := HP.out.more ndv ht1 h
        rw [show 1 + 1 + ndv = p by omega] at hc
        obtain ⟨c, hcv⟩ : ∃ c, c = 48 + D / 10 ^ (k - 1 - ndv) % 10 := ⟨_, rfl⟩
        have hc1' : 48 ≤ c := by omega
        have hc2' : c ≤ 57 := by omega
        rw [← hcv] at hc
        have HCV2 := Lib.hid hcv
        clear hcv
        have hlt : p + 4 ≤ n := by have := HP.out.len; omega
        have HPT := Lib.hid hpt
        clear hpt
        have h95 : ((c : Int) == 95) = false := by rw [beq_eq_false_iff_ne]; omega
        have h46 : ((c : Int) == 46) = false := by rw [beq_eq_false_iff_ne]; omega
        obtain ⟨mv, hmv⟩ : ∃ mv, mv = Fl.pre k D ndv := ⟨_, rfl⟩
        have hmb2 : mv < 100000000000000000 := by have := Fl.pre_le k D ndv; omega
        rw [← hmv]
        have HMV := Lib.hid hmv
        clear hmv
        by_cases h48 : c = 48
        · have h48' : ((c : Int) == 48) = true := by rw [beq_iff_eq]; omega
          go_wp2_with fail
          go_roundw
          case rel => exact ⟨ndv + 1 + 1, p + 1, Fl.pre k D (ndv + 1), ndv + 1, true, true, 1, .more (ndv + 1) (by omega) (by omega) hk2', by have := HPT.out; omega, by congr 1; have a := Fl.pre_succ (D := D) h; have b := HMV.out; have d := HCV2.out; omega, rfl, by congr 1, rfl, rfl, rfl, by congr 1, by congr 1, rfl, by first | rfl | trivial⟩
          case measure => simp [RowKit.intOf]; omega
        · have h48' : ((c : Int) == 48) = false := by rw [beq_eq_false_iff_ne]; omega
          go_wp2_with fail
          go_roundw
          case rel => exact ⟨ndv + 1 + 1, p + 1, Fl.pre k D (ndv + 1), ndv + 1, true, true, 1, .more (ndv + 1) (by omega) (by omega) hk2', by have := HPT.out; omega, by congr 1; have a := Fl.pre_succ (D := D) h; have b := HMV.out; have d := HCV2.out; omega, rfl, by congr 1, rfl, rfl, rfl, by congr 1, by congr 1, rfl, by first | rfl | trivial⟩
          case measure => simp [RowKit.intOf]; omega
      · have hpe : byteAt s p = 101 := by rw [show p = 1 + mlen by omega]; exact HP.out.e
        have HPO := Lib.hid (show p = 1 + mlen by omega)
        have hlt : p + 4 ≤ n := by have := HP.out.len; omega
        have hnk : ndv = k := by omega
        have hmv : Fl.pre k D ndv = D := by rw [hnk]; exact Fl.pre_all k D
        rw [hmv]
        clear hmv hpt
        have hkk : (k : Int) = ndv := by omega
        have hs1 : byteAt s (p + 1) = 43 := by rw [HPO.out]; exact HP.out.sign
        have hx0 : byteAt s (p + 1 + 1) = ((48 + x / 10 ^ (m - 1) % 10 : Nat) : Int) := by rw [HPO.out]; exact HP.out.exp 0 (by omega)
        obtain ⟨cx, hcx⟩ : ∃ cx, cx = 48 + x / 10 ^ (m - 1) % 10 := ⟨_, rfl⟩
        have hcx1 : 48 ≤ cx := by omega
        have hcx2 : cx ≤ 57 := by omega
        rw [← hcx] at hx0
        have HCX := Lib.hid hcx
        clear hcx
        have hpb : (p : Int) + 2 + m = n := by have := HP.out.len; have := HPO.out; omega
        go_wp2_with (go_at_call 79; refine (lower_e _).mono ?_; rintro en w2 ⟨rfl, rfl⟩)
        go_loopw [7, 9, 20] (fun i un ev wr => ∃ (t p2 e2 : Nat), t ≤ m ∧ p2 = p + 2 + t ∧ e2 = Fl.pre m x t ∧ i = .int .i64 (p2 : Int) ∧ un = .bool false ∧ ev = .int .i64 (e2 : Int) ∧ w = wr) (fun i _ _ _ => (n - (RowKit.intOf i).toNat))
        case atStart => exact ⟨0, p + 1 + 1, 0, Nat.zero_le _, rfl, (Fl.pre_zero HX.out).symm, by congr 1, rfl, rfl, rfl⟩
        case round =>
          obtain ⟨t2, p2, e2, ht2, hp2, he2, rfl, rfl, rfl, rfl⟩ := hrel
          have he3 : e2 < 1000 := by
            have a := Fl.pre_le m x t2
            have b : 10 ^ m ≤ 10 ^ 3 := Nat.pow_le_pow_right (by decide) hm2
            have c := HX.out
            have d : (10 : Nat) ^ 3 = 1000 := by decide
            omega
          have HE2 := Lib.hid he2
          have HP2 := Lib.hid hp2
          clear he2
          rcases Nat.lt_or_ge t2 m with h | h
          · have hc := HP.out.exp t2 h
            rw [← HPO.out, ← hp2] at hc
            obtain ⟨c, hcv⟩ : ∃ c, c = 48 + x / 10 ^ (m - 1 - t2) % 10 := ⟨_, rfl⟩
            have hc1 : 48 ≤ c := by omega
            have hc2 : c ≤ 57 := by omega
            rw [← hcv] at hc
            have HCV2 := Lib.hid hcv
            clear hcv
            have hlt : p2 < n := by omega
            have h95 : ((c : Int) == 95) = false := by rw [beq_eq_false_iff_ne]; omega
            clear hp2
            go_wp2_with fail
            go_roundw
            case rel => exact ⟨t2 + 1, p2 + 1, Fl.pre m x (t2 + 1), by omega, by have := HP2.out; omega, rfl, by congr 1, rfl, by congr 1; have a := Fl.pre_succ (D := x) h; have b := HE2.out; have c := HCV2.out; omega, by first | rfl | trivial⟩
            case measure => simp [RowKit.intOf]; omega
          · have he4 : p2 = n := by omega
            have hex : e2 = x := by rw [HE2.out, show t2 = m by omega]; exact Fl.pre_all m x
            clear hp2
            subst he4
            subst hex
            go_wp2_with fail
            rw [Exit.noGoto_ret]
            (try simp only [Exit.inBlock, Exit.then]); refine bodyPost_ret (results_tmp7 rfl _ _ _) rfl ?_
            exact readOut_mk rfl (by omega) rfl


end Go.Proofs.YtfemnjgcodcfkaaGreatDoor
