/- The tokenizer's small functions, where there is no stack. A kind that was put into the flags is the kind that is read out of them. -/
import Derived.Test.YtfemnjgcodcfkaaGreatDoorFlags

namespace Go.Proofs.YtfemnjgcodcfkaaGreatDoor
open Go.RowKit

set_option maxHeartbeats 1000000 in
theorem depth_any (w : World) (tb : Nat) (h8 : w.cell? ⟨tb, 8, none⟩ = some (.pointer none)) : Calls Tryz.prog 31 #[.pointer (some ⟨tb, 0, none⟩)] w fun e w' => e = .returned (.int .i64 0) ∧ w = w' := by
  go_enter Tryz.func31, Tryz.ntmps31
  go_wp2_with fail
  go_ret
  exact ⟨rfl, rfl⟩

set_option maxHeartbeats 1000000 in
theorem index_zero (w : World) (tb : Nat) (h8 : w.cell? ⟨tb, 8, none⟩ = some (.pointer none)) : Calls Tryz.prog 32 #[.pointer (some ⟨tb, 0, none⟩)] w fun e w' => e = .returned (.int .i64 0) ∧ w = w' := by
  go_enter Tryz.func32, Tryz.ntmps32
  go_wp2_with fail
  go_ret
  exact ⟨rfl, rfl⟩

set_option maxHeartbeats 1000000 in
theorem with_kind (w : World) (f : Int) (g : Int) (k : Nat) (hg : bits .and .u32 f 4278255615 = g) (hk : k < 256) : Calls Tryz.prog 33 #[.int .u32 f, .int .u64 (k : Int)] w fun e w' => e = .returned (.int .u32 (bits .or .u32 g ((k : Int) * 65536))) ∧ w = w' := by
  go_enter Tryz.func33, Tryz.ntmps33
  go_wp2_with fail
  go_ret
  exact ⟨rfl, rfl⟩

end Go.Proofs.YtfemnjgcodcfkaaGreatDoor

namespace Go.Proofs.YtfemnjgcodcfkaaGreatDoor
open Go.RowKit

theorem bits_and_u32_nat (a b : Nat) (ha : a < 4294967296) (hb : b < 4294967296) : bits .and .u32 (a : Int) (b : Int) = ((a &&& b : Nat) : Int) := by
  have hx : a &&& b < 2 ^ 32 := Nat.and_lt_two_pow _ (by omega)
  have h1 : (BitVec.ofInt 32 (a : Int)).toNat = a := by
    rw [BitVec.ofInt_natCast, BitVec.toNat_ofNat]; exact Nat.mod_eq_of_lt (by omega)
  have h2 : (BitVec.ofInt 32 (b : Int)).toNat = b := by
    rw [BitVec.ofInt_natCast, BitVec.toNat_ofNat]; exact Nat.mod_eq_of_lt (by omega)
  show IntKind.u32.wrap ((BitVec.ofInt 32 (a : Int) &&& BitVec.ofInt 32 (b : Int)).toNat : Int) = _
  rw [BitVec.toNat_and, h1, h2, IntKind.wrap_u32]
  omega

theorem bits_or_u32_nat (a b : Nat) (ha : a < 4294967296) (hb : b < 4294967296) : bits .or .u32 (a : Int) (b : Int) = ((a ||| b : Nat) : Int) := by
  have hx : a ||| b < 2 ^ 32 := Nat.or_lt_two_pow (by omega) (by omega)
  have h1 : (BitVec.ofInt 32 (a : Int)).toNat = a := by
    rw [BitVec.ofInt_natCast, BitVec.toNat_ofNat]; exact Nat.mod_eq_of_lt (by omega)
  have h2 : (BitVec.ofInt 32 (b : Int)).toNat = b := by
    rw [BitVec.ofInt_natCast, BitVec.toNat_ofNat]; exact Nat.mod_eq_of_lt (by omega)
  show IntKind.u32.wrap ((BitVec.ofInt 32 (a : Int) ||| BitVec.ofInt 32 (b : Int)).toNat : Int) = _
  rw [BitVec.toNat_or, h1, h2, IntKind.wrap_u32]
  omega

theorem kind_nat (f k : Nat) (hk : k < 256) : ((f &&& 4278255615) ||| (k * 65536)) / 65536 &&& 255 = k := by
  have e1 : k * 65536 = k <<< 16 := by rw [Nat.shiftLeft_eq]
  have e2 : ∀ x : Nat, x / 65536 = x >>> 16 := fun x => by rw [Nat.shiftRight_eq_div_pow]
  rw [e1, e2]
  apply Nat.eq_of_testBit_eq
  intro i
  rw [Nat.testBit_and, Nat.testBit_shiftRight, Nat.testBit_or, Nat.testBit_and, Nat.testBit_shiftLeft]
  rcases Nat.lt_or_ge i 8 with h | h
  · have hm : Nat.testBit 4278255615 (16 + i) = false := by
      have : ∀ j : Fin 8, Nat.testBit 4278255615 (16 + j.val) = false := by decide
      exact this ⟨i, h⟩
    have h2 : Nat.testBit 255 i = true := by
      have : ∀ j : Fin 8, Nat.testBit 255 j.val = true := by decide
      exact this ⟨i, h⟩
    rw [hm, h2, Bool.and_false, Bool.false_or, Bool.and_true, Nat.add_sub_cancel_left]
    simp
  · have h2 : Nat.testBit 255 i = false := Nat.testBit_lt_two_pow (Nat.lt_of_lt_of_le (show 255 < 2 ^ 8 by decide) (Nat.pow_le_pow_right (by decide) h))
    have h3 : Nat.testBit k i = false := Nat.testBit_lt_two_pow (Nat.lt_of_lt_of_le (show k < 2 ^ 8 by omega) (Nat.pow_le_pow_right (by decide) h))
    rw [h2, h3, Bool.and_false]

theorem kind_back (f : Int) (h0 : 0 ≤ f) (h1 : f < 4294967296) (k : Nat) (hk : k < 256) (g q : Int) (hg : bits .and .u32 f 4278255615 = g) (hq : bits .or .u32 g ((k : Int) * 65536) = q) : bits .and .u32 (q / 65536) 255 = (k : Int) := by
  obtain ⟨f, rfl⟩ : ∃ x : Nat, f = (x : Int) := ⟨f.toNat, by omega⟩
  have hx : f &&& 4278255615 < 2 ^ 32 := Nat.and_lt_two_pow _ (by decide)
  have hg' := bits_and_u32_nat f 4278255615 (by omega) (by decide)
  rw [show ((4278255615 : Nat) : Int) = 4278255615 from rfl, hg] at hg'
  subst hg'
  have hk' : k * 65536 < 4294967296 := by omega
  have hq' := bits_or_u32_nat (f &&& 4278255615) (k * 65536) (by omega) hk'
  rw [Int.natCast_mul, show ((65536 : Nat) : Int) = 65536 from rfl, hq] at hq'
  subst hq'
  have hy : (f &&& 4278255615) ||| (k * 65536) < 2 ^ 32 := Nat.or_lt_two_pow (by omega) (by omega)
  have e : (((((f &&& 4278255615) ||| (k * 65536) : Nat)) : Int)) / 65536 = ((((f &&& 4278255615) ||| (k * 65536)) / 65536 : Nat) : Int) := by rw [Int.natCast_ediv]; rfl
  rw [e, show (255 : Int) = ((255 : Nat) : Int) from rfl, bits_and_u32_nat _ 255 (by omega) (by decide), kind_nat f k hk]

end Go.Proofs.YtfemnjgcodcfkaaGreatDoor
