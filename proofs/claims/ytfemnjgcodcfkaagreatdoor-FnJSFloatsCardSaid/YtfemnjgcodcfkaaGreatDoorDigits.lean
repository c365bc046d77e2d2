/- setDigits: the digits of a number, without the zeros at its end. -/
import Derived.Test.YtfemnjgcodcfkaaGreatDoorText
import Derived.Lib.ItoaNum
import Derived.Lib.ItoaLen

namespace Go.Proofs.YtfemnjgcodcfkaaGreatDoor
open Go.RowKit Go.Sort Go.Lib

abbrev encB : UInt8 → Value := fun b => Value.int .u8 (b.toNat : Int)

namespace Fl
/-- The k digits of D, the first the greatest. -/
def digs (k D : Nat) : List Nat := (List.range k).map fun t => 48 + D / 10 ^ (k - 1 - t) % 10

theorem digs_length (k D : Nat) : (digs k D).length = k := by simp [digs]
theorem digs_at {k D t : Nat} (h : t < k) : (digs k D)[t]? = some (48 + D / 10 ^ (k - 1 - t) % 10) := by
  unfold digs
  rw [List.getElem?_map, List.getElem?_range h]
  rfl

theorem dg_toNat (u j : Nat) : (Lib.dg u j).toNat = 48 + u / 10 ^ j % 10 := by
  unfold Lib.dg
  rw [UInt8.toNat_ofNat']
  have := Nat.mod_lt (u / 10 ^ j) (show 0 < 10 by decide)
  show _ % 256 = _
  omega

/-- A digit of the number, or of what is left of it. -/
theorem digit_cut {D D' n k t : Nat} (hk : k ≤ n) (ht : t < k) (h : D = D' * 10 ^ (n - k)) : D / 10 ^ (n - 1 - t) = D' / 10 ^ (k - 1 - t) := by
  have e : n - 1 - t = (n - k) + (k - 1 - t) := by omega
  rw [e, Nat.pow_add, ← Nat.div_div_eq_div_mul, h, Nat.mul_div_cancel _ (Nat.pow_pos (by decide))]

theorem cut_more {D D' n k : Nat} (hk : k ≤ n) (h1 : 1 ≤ k) (h : D = D' * 10 ^ (n - k)) (hz : D' % 10 = 0) : D = (D' / 10) * 10 ^ (n - (k - 1)) := by
  have e : n - (k - 1) = (n - k) + 1 := by omega
  have e2 : D' = D' / 10 * 10 := by omega
  rw [e, Nat.pow_succ, Nat.mul_comm (10 ^ (n - k)) 10, ← Nat.mul_assoc, ← e2]
  exact h

theorem nDigits_ge : ∀ u : Nat, 1 ≤ u → 10 ^ (nDigits u - 1) ≤ u := by
  intro u
  induction u using Nat.strongRecOn with
  | _ u ih =>
    intro h
    by_cases hs : u < 10
    · rw [nDigits_small hs]; exact h
    · rw [nDigits_big hs]
      have := ih (u / 10) (by omega) (by omega)
      have hp := nDigits_pos (u / 10)
      have e : nDigits (u / 10) + 1 - 1 = (nDigits (u / 10) - 1) + 1 := by omega
      rw [e, Nat.pow_succ]
      have := Nat.mul_le_mul_right 10 this
      omega
end Fl

/-- What setDigits leaves. -/
def SetOut (D n bb : Nat) (P : Int) (w : World) (e : Ending) (w' : World) : Prop :=
  ∃ (k D' m : Nat) (dk : Array UInt8), 1 ≤ k ∧ k ≤ n ∧ D = D' * 10 ^ (n - k) ∧ dk.size = n ∧ (∀ t, t < k → (dk[t]!).toNat = 48 + D' / 10 ^ (k - 1 - t) % 10) ∧
    e = .returned (.tuple #[.int .i64 ((n : Int) + P), .int .i64 (k : Int)]) ∧ w' = (putRow encB w bb 0 dk).drewN m

set_option maxRecDepth 100000 in
set_option maxHeartbeats 4000000 in
theorem set_digits (D n bb : Nat) (P : Int) (w : World) (hn : n = nDigits D) (hn17 : n ≤ 17) (hD0 : 1 ≤ D) (hD : D < 18446744073709551616) (hP1 : -1000 < P) (hP2 : P < 1000) (hH : Holds encB w bb 0 (Array.replicate n (0 : UInt8))) :
    Calls Tryz.prog 46 #[.slice (some ⟨bb, 0, none⟩) 32 32, .int .u64 D, .int .i64 P, .int .i64 n] w (SetOut D n bb P w) := by
  have hn1 : 1 ≤ n := by rw [hn]; exact nDigits_pos D
  have hlt : D < 10 ^ n := by rw [hn]; exact lt_pow_nDigits D
  clear hn
  have hsz : (Array.replicate n (0 : UInt8)).size = n := by simp
  have hc := Tryz.internal_strconv_formatBase10 bb 0 32 D (Array.replicate n (0 : UInt8)) w hH (by rw [hsz]; exact hlt) hD (by rw [hsz]; omega)
  rw [hsz] at hc
  go_enter Tryz.func46, Tryz.ntmps46
  go_wp2_with fail
  refine hc.mono ?_
  rintro en w1 ⟨rfl, m0, v', dk, hw1, hI⟩
  have hdk := hI.size
  have hd : ∀ t, t < n → (dk[t]!).toNat = 48 + D / 10 ^ (n - 1 - t) % 10 := fun t ht => by rw [hI.done t (Nat.zero_le _) ht, Fl.dg_toNat]
  have hcell : ∀ t m, t < n → ((putRow encB w bb 0 dk).drewN m).cell? ⟨bb, t, none⟩ = some (.int .u8 ((48 + D / 10 ^ (n - 1 - t) % 10 : Nat) : Int)) := fun t m ht => by
    rw [World.cell?_drewN]
    have := cell?_putRow encB w bb 0 _ dk hH (by rw [hsz, hdk]) t (by rw [hdk]; exact ht)
    rw [Nat.zero_add] at this
    rw [this, ← hd t ht]
  clear hI hc
  have HW := Lib.hid hw1
  clear hw1
  have HD := Lib.hid hd
  have HC := Lib.hid hcell
  clear hd hcell hH
  go_wp2_with fail
  go_loopw [3] (fun v wr => ∃ (k m D' : Nat), v = .int .i64 (k : Int) ∧ wr = (putRow encB w bb 0 dk).drewN m ∧ 1 ≤ k ∧ k ≤ n ∧ D = D' * 10 ^ (n - k)) (fun v _ => (RowKit.intOf v).toNat)
  case atStart => exact ⟨n, m0, D, rfl, HW.out, hn1, Nat.le_refl _, by rw [Nat.sub_self, Nat.pow_zero, Nat.mul_one]⟩
  case round =>
    obtain ⟨k, m, D', rfl, rfl, hk1, hkn, hkD⟩ := hrel
    have HK := Lib.hid hkD
    clear hkD
    have hcc := HC.out (k - 1) m (by omega)
    have hb1 : (0 : Int) ≤ (k : Int) - 1 := by omega
    have hb2 : (k : Int) - 1 < 32 := by omega
    have hb3 : ((k : Int) - 1).toNat = k - 1 := by omega
    generalize hcv : 48 + D / 10 ^ (n - 1 - (k - 1)) % 10 = c at hcc
    by_cases h48 : c = 48
    · have ht : ((c : Int) == 48) = true := by rw [beq_iff_eq]; omega
      go_wp2_with fail
      have hz : D' % 10 = 0 := by
        have e := Fl.digit_cut hkn (show k - 1 < k by omega) HK.out
        rw [e, Nat.sub_self, Nat.pow_zero, Nat.div_one] at hcv
        omega
      have hk2 : 2 ≤ k := by
        rcases Nat.lt_or_ge 1 k with h | h
        · exact h
        · exfalso
          have hk : k = 1 := by omega
          have e := HK.out
          rw [hk] at e
          have e2 : 10 ^ n = 10 * 10 ^ (n - 1) := by rw [Nat.mul_comm, ← Nat.pow_succ]; congr 1; omega
          have hD2 : D' < 10 := by
            rw [e2, e] at hlt
            exact Nat.lt_of_mul_lt_mul_right hlt
          have : D' = 0 := by omega
          rw [this, Nat.zero_mul] at e
          omega
      go_roundw
      case rel => exact ⟨k - 1, m, D' / 10, by congr 1; omega, rfl, by omega, by omega, Fl.cut_more hkn hk1 HK.out hz⟩
      case measure => simp [RowKit.intOf]; omega
    · have ht : ((c : Int) == 48) = false := by rw [beq_eq_false_iff_ne]; omega
      go_wp2_with fail
      go_ret2
      refine ⟨k, D', m, dk, hk1, hkn, HK.out, hdk, fun t ht => ?_, rfl, rfl⟩
      rw [HD.out t (by omega), Fl.digit_cut hkn ht HK.out]

end Go.Proofs.YtfemnjgcodcfkaaGreatDoor
