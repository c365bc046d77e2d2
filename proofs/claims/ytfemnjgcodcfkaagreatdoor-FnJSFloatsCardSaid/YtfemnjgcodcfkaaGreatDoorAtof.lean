/- atof64 and ParseFloat: the text of a number is read back to the same word. -/
import Derived.Test.YtfemnjgcodcfkaaGreatDoorFormat
import Derived.Test.YtfemnjgcodcfkaaGreatDoorRead
import Derived.Test.YtfemnjgcodcfkaaGreatDoorSpecial

namespace Go.Proofs.YtfemnjgcodcfkaaGreatDoor
open Go.RowKit

namespace Fl
theorem near_pos {r n k : Nat} (hr : 0 < r) (h : Near r n k) : k ≤ 2 * n := by
  obtain ⟨q, rfl⟩ : ∃ q, r = q + 1 := ⟨r - 1, by omega⟩
  have h1 := h.1 q rfl
  have hv : 1 ≤ val (q + 1) := by have := val_lt_succ q; omega
  have h2 : 1 * k ≤ (val q + val (q + 1)) * k := Nat.mul_le_mul_right _ (by omega)
  omega

theorem rounds_is {s : Bool} {b r n k : Nat} (hk : 0 < k) (hr : r < infR) (h : Near r n k) (hR : Rounds b s n k) : b = Ieee.double.word s r := by
  obtain ⟨r', hb, h'⟩ := hR
  have e := near_unique hk h' h
  subst e
  rw [Nat.min_eq_left (Nat.le_of_lt hr)] at hb
  exact hb
end Fl

/-- What is known of the number behind a text. -/
structure Num (r D : Nat) (P : Int) : Prop where
  r0 : 0 < r
  r1 : r < 9218868437227405312
  D1 : 1 ≤ D
  D2 : D < 100000000000000000
  P1 : -324 ≤ P
  P2 : P ≤ 309
  near : Fl.Near r (Fl.vn D P) (Fl.vk P)

theorem parseF_is (r D : Nat) (P : Int) (s : Bool) (h : Num r D P) (w : World) (ht : TabAll w) :
    Calls Tryz.prog 126 #[.int .u64 D, .int .i64 P, .int .u64 (sgn s)] w fun en w' => en = .returned (.tuple #[.float .f64 (Ieee.double.word s r), .nilIface]) ∧ Below w.heap.size w w' := by
  have hP1 := h.P1
  have hP2 := h.P2
  have hr1 := h.r1
  have hD2 := h.D2
  have hD1 := h.D1
  obtain ⟨b1, b2, b3⟩ := Lib.bitLenAux_bounds 64 D (by have e : (2 : Nat) ^ 64 = 18446744073709551616 := by decide
                                                       rw [e]; omega) (by omega)
  obtain ⟨b, hb⟩ : ∃ b, b = Lib.bitLenAux 64 D := ⟨_, rfl⟩
  rw [← hb] at b1 b2 b3
  have hb57 : b ≤ 57 := by
    rcases Nat.lt_or_ge 57 b with h | h
    · exfalso
      have h57 : (2 : Nat) ^ 57 = 144115188075855872 := by decide
      have := Nat.pow_le_pow_right (show 0 < 2 by decide) (show 57 ≤ b - 1 by omega)
      omega
    · exact h
  obtain ⟨n1, n2, n3⟩ := Fl.parse_near D b P (by omega) (by omega) b1 hb57 b2 b3
  have e := Fl.near_unique (Fl.vk_pos P) n1 h.near
  have hps := Fl.ps_lt D b P (by omega) (by omega) b1 hb57 b3 (Fl.near_pos h.r0 h.near)
  have hpt : Fl.pt D b P ≤ 2045 := by omega
  have := parseF_any D b P s w b1 hb57 b2 b3 (by omega) (by omega) ht hps hpt
  rw [e] at this
  exact this

/-- What the readers of a number's text leave. -/
def AtofOut (v n : Nat) (w : World) (e : Ending) (w' : World) : Prop :=
  e = .returned (.tuple #[.float .f64 v, .int .i64 (n : Nat), .nilIface]) ∧ Below w.heap.size w w'

theorem sgn_run (s : Bool) : ((s.toNat : Nat) : Int) * 9223372036854775808 = ((sgn s : Nat) : Int) := by cases s <;> rfl

theorem bits_or_zero (s : Bool) : bits .or .u64 ((sgn s : Nat) : Int) 0 = ((sgn s : Nat) : Int) := by
  have := sgn_or_bits s 0 (by decide)
  simpa using this

set_option maxRecDepth 100000 in
set_option maxHeartbeats 4000000 in
theorem atof_zero (s : ByteArray) (n v bp op : Nat) (neg : Bool) (w : World) (ht : Consts bp op w) (hv : v = Ieee.double.word neg 0) (hsp : Calls Tryz.prog 115 #[.string s] w (SpecOut w))
    (hrd : Calls Tryz.prog 116 #[.string s] w (ReadOut 0 n 0 neg w)) : Calls Tryz.prog 104 #[.string s] w (AtofOut v n w) := by
  have hopt := ht.opt
  rw [word_sgn, Nat.add_zero] at hv
  have hfb := frombits_run
  obtain ⟨g, hg⟩ : ∃ g, g = sgn neg := ⟨_, rfl⟩
  have hor := bits_or_zero neg
  have hsh := sgn_run neg
  rw [← hg] at hv hor hsh
  have hgb : g < 18446744073709551616 := by rw [hg]; cases neg <;> decide
  clear hg
  subst hv
  go_enter Tryz.func104, Tryz.ntmps104
  go_wp2_with fail
  refine hsp.mono ?_
  rintro en w1 ⟨rfl, rfl⟩
  clear hsp
  go_wp2_with fail
  refine hrd.mono ?_
  rintro en w1 ⟨rfl, rfl⟩
  clear hrd
  go_wp2_with fail
  refine (bool2u_any neg _).mono ?_
  rintro en w1 ⟨rfl, rfl⟩
  go_wp2_with fail
  go_ret3
  exact ⟨rfl, Below.refl _ _⟩

set_option maxRecDepth 100000 in
set_option maxHeartbeats 4000000 in
theorem atof_some (s : ByteArray) (r D n v bp op : Nat) (P : Int) (neg : Bool) (w : World) (ht : Consts bp op w) (hN : Num r D P) (hv : v = Ieee.double.word neg r) (hsp : Calls Tryz.prog 115 #[.string s] w (SpecOut w))
    (hrd : Calls Tryz.prog 116 #[.string s] w (ReadOut D n P neg w)) : Calls Tryz.prog 104 #[.string s] w (AtofOut v n w) := by
  have hopt := ht.opt
  have hP1 := hN.P1
  have hP2 := hN.P2
  have hD1 := hN.D1
  have hD2 := hN.D2
  have hD0 : ((D : Int) == 0) = false := by rw [beq_eq_false_iff_ne]; omega
  obtain ⟨g, hg⟩ : ∃ g, g = sgn neg := ⟨_, rfl⟩
  have hsh := sgn_run neg
  have hpf := parseF_is r D P neg hN w ht.tab
  have hex := exact_any D P neg bp op w ht.powers hD1 (by omega) (by omega) (by omega)
  have his : ∀ b, Fl.Rounds b neg (Fl.vn D P) (Fl.vk P) → b = v := fun b hb => by rw [hv]; exact Fl.rounds_is (Fl.vk_pos P) hN.r1 hN.near hb
  rw [← hv] at hpf
  rw [← hg] at hpf hsh
  have hgb : g < 18446744073709551616 := by rw [hg]; cases neg <;> decide
  have HI := Lib.hid his
  clear hg hv his hN ht
  go_enter Tryz.func104, Tryz.ntmps104
  go_wp2_with fail
  refine hsp.mono ?_
  rintro en w1 ⟨rfl, rfl⟩
  clear hsp
  go_wp2_with fail
  refine hrd.mono ?_
  rintro en w1 ⟨rfl, rfl⟩
  clear hrd
  go_wp2_with fail
  refine (bool2u_any neg _).mono ?_
  rintro en w1 ⟨rfl, rfl⟩
  go_wp2_with fail
  refine hex.mono ?_
  rintro en w1 ⟨⟨b, ok, rfl, hok⟩, rfl⟩
  clear hex
  cases ok
  · clear hok
    go_wp2_with fail
    refine hpf.mono ?_
    rintro en w1 ⟨rfl, hb1⟩
    have HB := Lib.hid hb1
    clear hpf hb1
    go_wp2_with fail
    go_ret3
    exact ⟨rfl, HB.out⟩
  · obtain rfl := HI.out b (hok rfl)
    clear hok
    go_wp2_with fail
    go_ret3
    exact ⟨rfl, Below.refl _ _⟩

set_option maxHeartbeats 1000000 in
theorem prefix_any (s : ByteArray) (n v : Nat) (w : World) (h : Calls Tryz.prog 104 #[.string s] w (AtofOut v n w)) : Calls Tryz.prog 72 #[.string s, .int .i64 64] w (AtofOut v n w) := by
  go_enter Tryz.func72, Tryz.ntmps72
  go_wp2_with fail
  refine h.mono ?_
  rintro en w1 ⟨rfl, hb1⟩
  have HB := Lib.hid hb1
  clear h hb1
  go_wp2_with fail
  go_ret3
  exact ⟨rfl, HB.out⟩

/-- What ParseFloat leaves. -/
def FloatOut (v : Nat) (w : World) (e : Ending) (w' : World) : Prop :=
  e = .returned (.tuple #[.float .f64 v, .nilIface]) ∧ Below w.heap.size w w'

set_option maxHeartbeats 1000000 in
theorem parse_in (s : ByteArray) (n v : Nat) (w : World) (hn : s.size = n) (h : Calls Tryz.prog 104 #[.string s] w (AtofOut v n w)) : Calls Tryz.prog 37 #[.string s, .int .i64 64] w (FloatOut v w) := by
  have h := prefix_any s n v w h
  go_enter Tryz.func37, Tryz.ntmps37
  go_wp2_with fail
  refine h.mono ?_
  rintro en w1 ⟨rfl, hb1⟩
  have HB := Lib.hid hb1
  clear h hb1
  go_wp2_with fail
  go_ret2
  exact ⟨rfl, HB.out⟩

set_option maxHeartbeats 1000000 in
theorem parse_out (s : ByteArray) (v : Nat) (w : World) (h : Calls Tryz.prog 37 #[.string s, .int .i64 64] w (FloatOut v w)) : Calls Tryz.prog 19 #[.string s, .int .i64 64] w (FloatOut v w) := by
  go_enter Tryz.func19, Tryz.ntmps19
  go_wp2_with fail
  refine h.mono ?_
  rintro en w1 ⟨rfl, hb1⟩
  have HB := Lib.hid hb1
  clear h hb1
  go_wp2_with fail
  go_ret2
  exact ⟨rfl, HB.out⟩

end Go.Proofs.YtfemnjgcodcfkaaGreatDoor
