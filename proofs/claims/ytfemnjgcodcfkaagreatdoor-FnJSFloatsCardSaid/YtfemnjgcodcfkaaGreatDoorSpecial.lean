/- special: a text that begins with a digit, or with a sign and a digit, is not one of the special ones. -/
import Derived.Test.YtfemnjgcodcfkaaGreatDoorStr

namespace Go.Proofs.YtfemnjgcodcfkaaGreatDoor
open Go.RowKit

theorem byteAt_tail (s : ByteArray) (h : 2 ≤ s.size) : byteAt (s.extract 1 s.size) 0 = byteAt s 1 := by
  have hs : (s.extract 1 s.size).size = s.size - 1 := by rw [ByteArray.size_extract]; omega
  unfold byteAt
  rw [dif_pos (by omega), dif_pos (by omega)]
  rw [ByteArray.getElem_extract]

theorem size_tail (s : ByteArray) (h : 2 ≤ s.size) : (s.extract 1 s.size).size = s.size - 1 := by rw [ByteArray.size_extract]; omega

set_option maxHeartbeats 1000000 in
theorem prefix_no (s : ByteArray) (c : Nat) (w : World) (h : 1 ≤ s.size) (hc : byteAt s 0 = (c : Int)) (h1 : 48 ≤ c) (h2 : c ≤ 57) :
    Calls Tryz.prog 131 #[.string s, .string ⟨#[105, 110, 102, 105, 110, 105, 116, 121]⟩] w fun e w' => e = .returned (.int .i64 0) ∧ w = w' := by
  have hb := get_byteAt s
  have h105 : ((c : Int) != 105) = true := by rw [bne_iff_ne]; omega
  obtain ⟨n, hn⟩ : ∃ n, n = s.size := ⟨_, rfl⟩
  rw [← hn] at h
  have hn' := hn.symm
  clear hn
  go_enter Tryz.func131, Tryz.ntmps131
  go_wp2_with fail
  go_loopw [6] (fun i wr => i = .int .i64 0 ∧ w = wr) (fun _ _ => 0)
  case atStart => exact ⟨rfl, rfl⟩
  case round =>
    obtain ⟨rfl, rfl⟩ := hrel
    have hmin : (0 : Int) < min 8 (n : Int) := by omega
    have hpre : byteAt ⟨#[105, 110, 102, 105, 110, 105, 116, 121]⟩ 0 = 105 := rfl
    have hb2 := get_byteAt ⟨#[105, 110, 102, 105, 110, 105, 116, 121]⟩
    go_wp2_with fail
    go_ret
    exact ⟨rfl, rfl⟩

/-- What special hands back. -/
def SpecOut (w : World) (e : Ending) (w' : World) : Prop := e = .returned (.tuple #[.float .f64 0, .int .i64 0, .bool false]) ∧ w = w'

set_option maxHeartbeats 1000000 in
theorem special_digit (s : ByteArray) (c : Nat) (w : World) (h : 1 ≤ s.size) (hc : byteAt s 0 = (c : Int)) (h1 : 48 ≤ c) (h2 : c ≤ 57) : Calls Tryz.prog 115 #[.string s] w (SpecOut w) := by
  have hb := get_byteAt s
  have e43 : ((c : Int) == 43) = false := by rw [beq_eq_false_iff_ne]; omega
  have e45 : ((c : Int) == 45) = false := by rw [beq_eq_false_iff_ne]; omega
  have e105 : ((c : Int) == 105) = false := by rw [beq_eq_false_iff_ne]; omega
  have e73 : ((c : Int) == 73) = false := by rw [beq_eq_false_iff_ne]; omega
  have e110 : ((c : Int) == 110) = false := by rw [beq_eq_false_iff_ne]; omega
  have e78 : ((c : Int) == 78) = false := by rw [beq_eq_false_iff_ne]; omega
  go_enter Tryz.func115, Tryz.ntmps115
  go_wp2_with fail
  go_ret3
  exact ⟨rfl, rfl⟩

set_option maxHeartbeats 1000000 in
theorem special_neg (s : ByteArray) (c : Nat) (w : World) (h : 2 ≤ s.size) (h0 : byteAt s 0 = 45) (hc : byteAt s 1 = (c : Int)) (h1 : 48 ≤ c) (h2 : c ≤ 57) : Calls Tryz.prog 115 #[.string s] w (SpecOut w) := by
  have hb := get_byteAt s
  have ht := byteAt_tail s h
  have hts := size_tail s h
  go_enter Tryz.func115, Tryz.ntmps115
  go_wp2_with (go_at_call 131; refine (prefix_no _ c _ (by rw [hts]; omega) (by rw [ht]; exact hc) h1 h2).mono ?_; rintro en w2 ⟨rfl, rfl⟩)
  go_ret3
  exact ⟨rfl, rfl⟩

end Go.Proofs.YtfemnjgcodcfkaaGreatDoor
