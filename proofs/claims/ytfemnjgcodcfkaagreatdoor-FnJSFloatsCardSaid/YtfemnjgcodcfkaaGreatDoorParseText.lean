/- ParseFloat reads every text that FormatFloat writes back to the same word. -/
import Derived.Test.YtfemnjgcodcfkaaGreatDoorAtof
import Derived.Test.YtfemnjgcodcfkaaGreatDoorReadB
import Derived.Test.YtfemnjgcodcfkaaGreatDoorReadC
import Derived.Test.YtfemnjgcodcfkaaGreatDoorReadD
import Derived.Test.YtfemnjgcodcfkaaGreatDoorReadZero

namespace Go.Proofs.YtfemnjgcodcfkaaGreatDoor
open Go.RowKit

theorem parse_zero (s : ByteArray) (neg : Bool) (bp op : Nat) (w : World) (ht : Consts bp op w) (h : Bytes s (Fl.text neg [] 0)) : Calls Tryz.prog 19 #[.string s, .int .i64 64] w (FloatOut (Ieee.double.word neg 0) w) := by
  have hsz := h.size
  refine parse_out _ _ _ (parse_in s s.size _ w rfl ?_)
  cases neg
  · have e : Fl.text false [] 0 = [48, 101, 43, 48, 48] := rfl
    rw [e] at h hsz
    have b0 := h.at_ 0 48 rfl
    have b1 := h.at_ 1 101 rfl
    have b2 := h.at_ 2 43 rfl
    have b3 := h.at_ 3 48 rfl
    have b4 := h.at_ 4 48 rfl
    rw [hsz]
    exact atof_zero s 5 _ bp op false w ht rfl (special_digit s 48 w (by rw [hsz]; decide) b0 (by decide) (by decide)) (read_zero0 s w hsz b0 b1 b2 b3 b4)
  · have e : Fl.text true [] 0 = [45, 48, 101, 43, 48, 48] := rfl
    rw [e] at h hsz
    have b0 := h.at_ 0 45 rfl
    have b1 := h.at_ 1 48 rfl
    have b2 := h.at_ 2 101 rfl
    have b3 := h.at_ 3 43 rfl
    have b4 := h.at_ 4 48 rfl
    have b5 := h.at_ 5 48 rfl
    rw [hsz]
    exact atof_zero s 6 _ bp op true w ht rfl (special_neg s 48 w (by rw [hsz]; decide) b0 b1 (by decide) (by decide)) (read_zero1 s w hsz b0 b1 b2 b3 b4 b5)

theorem parse_some (s : ByteArray) (neg : Bool) (r k D : Nat) (P X : Int) (bp op : Nat) (w : World) (ht : Consts bp op w) (hr : 0 < r) (hr2 : r < 9218868437227405312) (hk : 1 ≤ k) (hk2 : k ≤ 17) (hD1 : 10 ^ (k - 1) ≤ D) (hD : D < 10 ^ k)
    (hP1 : -324 ≤ P) (hP2 : P ≤ 309) (hX : X = P + k - 1) (hX2 : X ≤ 309) (hN : Fl.Near r (Fl.vn D P) (Fl.vk P)) (h : Bytes s (Fl.text neg (Fl.digs k D) X)) :
    Calls Tryz.prog 19 #[.string s, .int .i64 64] w (FloatOut (Ieee.double.word neg r) w) := by
  have hp17 : 10 ^ k ≤ 10 ^ 17 := Nat.pow_le_pow_right (by decide) hk2
  have e17 : (10 : Nat) ^ 17 = 100000000000000000 := by decide
  have hp0 := Nat.pow_pos (n := k - 1) (show 0 < 10 by decide)
  have hNum : Num r D P := ⟨hr, hr2, by omega, by omega, hP1, hP2, hN⟩
  obtain ⟨c0, hc0, hc1, hc2, _⟩ := Fl.first_digit hk hD1 hD
  refine parse_out _ _ _ (parse_in s s.size _ w rfl ?_)
  obtain ⟨m, hm1, hm2, hx, he⟩ := Fl.expText_digs (x := X.natAbs) (by omega)
  have hml : (if k = 1 then 1 else k + 1) = if k = 1 then 1 else k + 1 := rfl
  rcases Int.lt_or_le X 0 with hneg | hneg
  · have ht2 := Fl.text_neg neg (Fl.digs k D) (X := X) (x := X.natAbs) (by omega) (by omega)
    rw [he] at ht2
    rw [ht2] at h
    have hPl := places_of hk h
    have hf := hPl.first
    have hsz := hPl.size
    rw [← hc0] at hf
    have e : -(X.natAbs : Int) + 1 - k = P := by omega
    cases neg
    · have hrd := read_pm s k D _ m X.natAbs _ w hPl hk hk2 hD hD1 hm1 hm2 hx rfl
      rw [e, ← hsz] at hrd
      exact atof_some s r D _ _ bp op P false w ht hNum rfl (special_digit s c0 w (by rw [hsz]; have := hPl.len; omega) hf (by omega) hc2) hrd
    · have h0 := h.at_ 0 45 rfl
      have hrd := read_nm s k D _ m X.natAbs _ w hPl h0 hk hk2 hD hD1 hm1 hm2 hx rfl
      rw [e, ← hsz] at hrd
      exact atof_some s r D _ _ bp op P true w ht hNum rfl (special_neg s c0 w (by rw [hsz]; have := hPl.len; omega) h0 hf (by omega) hc2) hrd
  · have ht2 := Fl.text_pos neg (Fl.digs k D) (X := X) (x := X.natAbs) (by omega)
    rw [he] at ht2
    rw [ht2] at h
    have hPl := places_of hk h
    have hf := hPl.first
    have hsz := hPl.size
    rw [← hc0] at hf
    have e : (X.natAbs : Int) + 1 - k = P := by omega
    cases neg
    · have hrd := read_pp s k D _ m X.natAbs _ w hPl hk hk2 hD hD1 hm1 hm2 hx rfl
      rw [e, ← hsz] at hrd
      exact atof_some s r D _ _ bp op P false w ht hNum rfl (special_digit s c0 w (by rw [hsz]; have := hPl.len; omega) hf (by omega) hc2) hrd
    · have h0 := h.at_ 0 45 rfl
      have hrd := read_np s k D _ m X.natAbs _ w hPl h0 hk hk2 hD hD1 hm1 hm2 hx rfl
      rw [e, ← hsz] at hrd
      exact atof_some s r D _ _ bp op P true w ht hNum rfl (special_neg s c0 w (by rw [hsz]; have := hPl.len; omega) h0 hf (by omega) hc2) hrd

theorem parse_text (s : ByteArray) (neg : Bool) (r : Nat) (L : List Nat) (bp op : Nat) (w : World) (ht : Consts bp op w) (hr2 : r < 9218868437227405312) (hL : Fl.IsText r neg L) (h : Bytes s L) :
    Calls Tryz.prog 19 #[.string s, .int .i64 64] w (FloatOut (Ieee.double.word neg r) w) := by
  cases hL with
  | zero h0 => subst h0; exact parse_zero s neg bp op w ht h
  | some k D P X hr hk hk2 hD1 hD hP1 hP2 hX hX2 hN => exact parse_some s neg r k D P X bp op w ht hr hr2 hk hk2 hD1 hD hP1 hP2 hX hX2 hN h

end Go.Proofs.YtfemnjgcodcfkaaGreatDoor
