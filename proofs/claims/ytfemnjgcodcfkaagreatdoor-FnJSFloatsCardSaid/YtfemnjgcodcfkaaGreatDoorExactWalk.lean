/-
  The walk of atof64exact.
-/
import Derived.Test.YtfemnjgcodcfkaaGreatDoorParseWalk
namespace Go.Proofs.YtfemnjgcodcfkaaGreatDoor
open Go.RowKit

/-- The exact powers of ten, and the width of the fraction, as they lie in the program's memory. -/
structure Powers (w : World) (bp op : Nat) : Prop where
  m52 : w.cell? ⟨11, 0, none⟩ = some (.int .u64 52)
  head : w.cell? ⟨14, 0, none⟩ = some (.slice (some ⟨bp, op, none⟩) 23 23)
  cells : ∀ i, i < 23 → w.cell? ⟨bp, op + i, none⟩ = some (.float .f64 (Fl.p10.getD i 0))

/-- What atof64exact hands back: nothing, or a word that is the nearest to the number. -/
def ExactOut (s : Bool) (n k : Nat) (w : World) (e : Ending) (w' : World) : Prop :=
  (∃ b ok, e = .returned (.tuple #[.float .f64 b, .bool ok]) ∧ (ok = true → Fl.Rounds b s n k)) ∧ w = w'

theorem exactOut_no {s : Bool} {n k b : Nat} {w : World} : ExactOut s n k w (.returned (.tuple #[.float .f64 b, .bool false])) w :=
  ⟨⟨b, false, rfl, fun h => by cases h⟩, rfl⟩
theorem exactOut_yes {s : Bool} {n k b : Nat} {w : World} (h : Fl.Rounds b s n k) : ExactOut s n k w (.returned (.tuple #[.float .f64 b, .bool true])) w :=
  ⟨⟨b, true, rfl, fun _ => h⟩, rfl⟩

set_option maxHeartbeats 1000000 in
theorem exact_big (D : Nat) (P : Int) (s : Bool) (n k : Nat) (w : World) (hc : w.cell? ⟨11, 0, none⟩ = some (.int .u64 52)) (hD : 4503599627370496 ≤ D) (hD2 : D < 18446744073709551616) :
    Calls Tryz.prog 125 #[.int .u64 D, .int .i64 P, .bool s] w (ExactOut s n k w) := by
  have ht : ((D : Int) / 4503599627370496 != 0) = true := by rw [bne_iff_ne]; omega
  go_enter Tryz.func125, Tryz.ntmps125
  go_wp2
  go_ret2
  exact exactOut_no

/-- The road up to the switch is the same for all: f is the number with its sign. -/
theorem neg_word (r : Nat) (h : r < Fl.infR) : Op.negFloat .f64 (Ieee.double.word false r) = Ieee.double.word true r := by
  have h' : r < 9218868437227405312 := h
  rw [Fl.word_eq, Fl.word_eq, if_neg (by decide), if_pos rfl]
  show r ^^^ 2 ^ 63 = 9223372036854775808 + r
  have h63 : (2 : Nat) ^ 63 = 9223372036854775808 := by decide
  have e := Nat.two_pow_add_eq_or_of_lt (i := 63) (b := r) (by rw [h63]; omega) 1
  rw [Nat.mul_one] at e
  have e2 : r ^^^ 2 ^ 63 = 2 ^ 63 ||| r := by
    apply Nat.eq_of_testBit_eq
    intro j
    rw [Nat.testBit_xor, Nat.testBit_or, Nat.testBit_two_pow]
    by_cases hj : 63 = j
    · subst hj
      rw [Nat.testBit_lt_two_pow (by rw [h63]; omega)]
      decide
    · rw [decide_eq_false hj]
      simp
  rw [e2, ← e, h63]

theorem run_negf (b : Nat) (w : World) : (Op.unary .neg (.float .f64 b)).run Tryz.prog w = .ok (.float .f64 (Op.negFloat .f64 b)) w := rfl

theorem floatOfInt_whole {X r : Nat} (h : Ieee.double.nearest false X 0 = Ieee.double.word false r) : floatOfInt .f64 (X : Int) = Ieee.double.word false r := by
  rw [← h]
  show Ieee.double.nearest (decide ((X : Int) < 0)) (X : Int).natAbs 0 = _
  rw [decide_eq_false (by omega), Int.natAbs_natCast]

set_option maxHeartbeats 1000000 in
theorem exact_zero (D f0 f : Nat) (s : Bool) (n k : Nat) (w : World) (hc : w.cell? ⟨11, 0, none⟩ = some (.int .u64 52)) (hD : D < 4503599627370496) (hf0 : floatOfInt .f64 (D : Int) = f0)
    (hneg : s = true → Op.negFloat .f64 f0 = f) (hpos : s = false → f0 = f) (hR : Fl.Rounds f s n k) :
    Calls Tryz.prog 125 #[.int .u64 D, .int .i64 0, .bool s] w (ExactOut s n k w) := by
  have ht : ((D : Int) / 4503599627370496 != 0) = false := by rw [bne_eq_false_iff_eq]; omega
  have HR := Lib.hid hR
  clear hR
  cases s
  · have hp := hpos rfl
    clear hneg hpos
    subst hp
    go_enter Tryz.func125, Tryz.ntmps125
    go_wp2
    go_ret2
    exact exactOut_yes HR.out
  · have hp := hneg rfl
    clear hneg hpos
    have hun := run_negf
    go_enter Tryz.func125, Tryz.ntmps125
    go_wp2
    go_ret2
    exact exactOut_yes HR.out

set_option maxHeartbeats 1000000 in
theorem exact_pos (D k f0 f pv r bp op : Nat) (s bg : Bool) (n d : Nat) (w : World) (hp : Powers w bp op) (hD : D < 4503599627370496) (hk1 : 1 ≤ k) (hk2 : k ≤ 22) (hf0 : floatOfInt .f64 (D : Int) = f0)
    (hneg : s = true → Op.negFloat .f64 f0 = f) (hpos : s = false → f0 = f) (hpv : pv = Fl.p10.getD k 0)
    (hgt : (FloatKind.f64.format.order f 4831355200913801216 == some .gt) = (!s && bg)) (hlt : (FloatKind.f64.format.order f 14054727237768577024 == some .lt) = (s && bg))
    (hmul : floatBits .mul .f64 f pv = some r) (hR : bg = false → Fl.Rounds r s n d) :
    Calls Tryz.prog 125 #[.int .u64 D, .int .i64 k, .bool s] w (ExactOut s n d w) := by
  have ht : ((D : Int) / 4503599627370496 != 0) = false := by rw [bne_eq_false_iff_eq]; omega
  have hk0 : ((k : Int) == 0) = false := by rw [beq_eq_false_iff_ne]; omega
  have hc := hp.m52
  have hh := hp.head
  have hcell := hp.cells k (by omega)
  rw [← hpv] at hcell
  have hm := fun w => run_float_arith (P := Tryz.prog) w .mul 23 .f64 f pv r hmul
  have hun := run_negf
  have hb1 : (0 : Int) ≤ (k : Int) := by omega
  have hb2 : (k : Int) < 23 := by omega
  have HR := Lib.hid hR
  clear hR hp hpv hmul
  cases s
  · have hp := hpos rfl
    clear hneg hpos
    subst hp
    cases bg
    · go_enter Tryz.func125, Tryz.ntmps125
      go_wp2
      go_ret2
      exact exactOut_yes (HR.out trivial)
    · go_enter Tryz.func125, Tryz.ntmps125
      go_wp2
      go_ret2
      exact exactOut_no
  · have hp := hneg rfl
    clear hneg hpos
    cases bg
    · go_enter Tryz.func125, Tryz.ntmps125
      go_wp2
      go_ret2
      exact exactOut_yes (HR.out trivial)
    · go_enter Tryz.func125, Tryz.ntmps125
      go_wp2
      go_ret2
      exact exactOut_no

set_option maxHeartbeats 1000000 in
theorem exact_mid (D k f0 f pv g r bp op : Nat) (s bg : Bool) (n d : Nat) (w : World) (hp : Powers w bp op) (hD : D < 4503599627370496) (hk1 : 23 ≤ k) (hk2 : k ≤ 37) (hf0 : floatOfInt .f64 (D : Int) = f0)
    (hneg : s = true → Op.negFloat .f64 f0 = f) (hpos : s = false → f0 = f) (hpv : pv = Fl.p10.getD (k - 22) 0) (hmul0 : floatBits .mul .f64 f pv = some g)
    (hgt : (FloatKind.f64.format.order g 4831355200913801216 == some .gt) = (!s && bg)) (hlt : (FloatKind.f64.format.order g 14054727237768577024 == some .lt) = (s && bg))
    (hmul : floatBits .mul .f64 g (Fl.p10.getD 22 0) = some r) (hR : bg = false → Fl.Rounds r s n d) :
    Calls Tryz.prog 125 #[.int .u64 D, .int .i64 k, .bool s] w (ExactOut s n d w) := by
  have ht : ((D : Int) / 4503599627370496 != 0) = false := by rw [bne_eq_false_iff_eq]; omega
  have hk0 : ((k : Int) == 0) = false := by rw [beq_eq_false_iff_ne]; omega
  have hc := hp.m52
  have hh := hp.head
  have hcell := hp.cells (k - 22) (by omega)
  rw [← hpv] at hcell
  have hcell2 := hp.cells 22 (by omega)
  have hm := fun w => run_float_arith (P := Tryz.prog) w .mul 23 .f64 f pv g hmul0
  have hm2 := fun w => run_float_arith (P := Tryz.prog) w .mul 23 .f64 g (Fl.p10.getD 22 0) r hmul
  generalize Fl.p10.getD 22 0 = pw at hcell2 hm2
  have hun := run_negf
  have hb0 : (22 : Int) < (k : Int) := by omega
  have hb1 : (0 : Int) ≤ (k : Int) - 22 := by omega
  have hb2 : (k : Int) - 22 < 23 := by omega
  have hb3 : ((k : Int) - 22).toNat = k - 22 := by omega
  have HR := Lib.hid hR
  clear hR hp hpv hmul hmul0
  cases s
  · have hp := hpos rfl
    clear hneg hpos
    subst hp
    cases bg
    · go_enter Tryz.func125, Tryz.ntmps125
      go_wp2
      go_ret2
      exact exactOut_yes (HR.out trivial)
    · go_enter Tryz.func125, Tryz.ntmps125
      go_wp2
      go_ret2
      exact exactOut_no
  · have hp := hneg rfl
    clear hneg hpos
    cases bg
    · go_enter Tryz.func125, Tryz.ntmps125
      go_wp2
      go_ret2
      exact exactOut_yes (HR.out trivial)
    · go_enter Tryz.func125, Tryz.ntmps125
      go_wp2
      go_ret2
      exact exactOut_no

set_option maxHeartbeats 1000000 in
theorem exact_far (D k : Nat) (s : Bool) (n d : Nat) (w : World) (hc : w.cell? ⟨11, 0, none⟩ = some (.int .u64 52)) (hD : D < 4503599627370496) (hk1 : 38 ≤ k) (hk2 : k < 1000) :
    Calls Tryz.prog 125 #[.int .u64 D, .int .i64 k, .bool s] w (ExactOut s n d w) := by
  have ht : ((D : Int) / 4503599627370496 != 0) = false := by rw [bne_eq_false_iff_eq]; omega
  have hk0 : ((k : Int) == 0) = false := by rw [beq_eq_false_iff_ne]; omega
  have hun := run_negf
  cases s
  · go_enter Tryz.func125, Tryz.ntmps125
    go_wp2
    go_ret2
    exact exactOut_no
  · go_enter Tryz.func125, Tryz.ntmps125
    go_wp2
    go_ret2
    exact exactOut_no

set_option maxHeartbeats 1000000 in
theorem exact_nfar (D : Nat) (P : Int) (s : Bool) (n d : Nat) (w : World) (hc : w.cell? ⟨11, 0, none⟩ = some (.int .u64 52)) (hD : D < 4503599627370496) (hk1 : P < -22) (hk2 : -1000 < P) :
    Calls Tryz.prog 125 #[.int .u64 D, .int .i64 P, .bool s] w (ExactOut s n d w) := by
  have ht : ((D : Int) / 4503599627370496 != 0) = false := by rw [bne_eq_false_iff_eq]; omega
  have hk0 : (P == 0) = false := by rw [beq_eq_false_iff_ne]; omega
  have hun := run_negf
  cases s
  · go_enter Tryz.func125, Tryz.ntmps125
    go_wp2
    go_ret2
    exact exactOut_no
  · go_enter Tryz.func125, Tryz.ntmps125
    go_wp2
    go_ret2
    exact exactOut_no

set_option maxHeartbeats 1000000 in
theorem exact_neg (D k f0 f pv r bp op : Nat) (P : Int) (s : Bool) (n d : Nat) (w : World) (hp : Powers w bp op) (hD : D < 4503599627370496) (hk1 : 1 ≤ k) (hk2 : k ≤ 22) (hP : P = -(k : Int)) (hf0 : floatOfInt .f64 (D : Int) = f0)
    (hneg : s = true → Op.negFloat .f64 f0 = f) (hpos : s = false → f0 = f) (hpv : pv = Fl.p10.getD k 0)
    (hmul : floatBits .quo .f64 f pv = some r) (hR : Fl.Rounds r s n d) :
    Calls Tryz.prog 125 #[.int .u64 D, .int .i64 P, .bool s] w (ExactOut s n d w) := by
  have ht : ((D : Int) / 4503599627370496 != 0) = false := by rw [bne_eq_false_iff_eq]; omega
  have hk0 : (P == 0) = false := by rw [beq_eq_false_iff_ne]; omega
  have hc := hp.m52
  have hh := hp.head
  have hcell := hp.cells k (by omega)
  rw [← hpv] at hcell
  have hm := fun w => run_float_arith (P := Tryz.prog) w .quo 23 .f64 f pv r hmul
  have hun := run_negf
  have hb0 : P < 0 := by omega
  have hb1 : (0 : Int) ≤ -P := by omega
  have hb2 : -P < 23 := by omega
  have hb3 : (-P).toNat = k := by omega
  have HR := Lib.hid hR
  clear hR hp hpv hmul hP
  cases s
  · have hp := hpos rfl
    clear hneg hpos
    subst hp
    go_enter Tryz.func125, Tryz.ntmps125
    go_wp2
    go_ret2
    exact exactOut_yes HR.out
  · have hp := hneg rfl
    clear hneg hpos
    go_enter Tryz.func125, Tryz.ntmps125
    go_wp2
    go_ret2
    exact exactOut_yes HR.out

end Go.Proofs.YtfemnjgcodcfkaaGreatDoor
