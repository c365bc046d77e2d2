/- readFloat at the text of zero. -/
import Derived.Test.YtfemnjgcodcfkaaGreatDoorRead

namespace Go.Proofs.YtfemnjgcodcfkaaGreatDoor
open Go.RowKit

set_option maxRecDepth 100000 in
set_option maxHeartbeats 4000000 in
theorem read_zero0 (s : ByteArray) (w : World) (hsz : s.size = 5) (h0 : byteAt s 0 = 48) (h1 : byteAt s 1 = 101) (h2 : byteAt s 2 = 43) (h3 : byteAt s 3 = 48) (h4 : byteAt s 4 = 48) :
    Calls Tryz.prog 116 #[.string s] w (ReadOut 0 5 0 false w) := by
  have hb := get_byteAt s
  go_enter Tryz.func116, Tryz.ntmps116
  go_wp2_with fail
  go_step3
  go_wp2_with (go_at_call 79; refine (lower_e _).mono ?_; rintro en w2 ⟨rfl, rfl⟩)
  go_step3
  go_wp2_with fail
  go_loopw [2, 5, 7, 9, 13, 14, 15, 16, 17] (fun mm tr i un sd sg nd nm dp wr => mm = .int .u64 0 ∧ tr = .bool false ∧ un = .bool false ∧ sd = .bool false ∧ nd = .int .i64 0 ∧ nm = .int .i64 0 ∧ w = wr ∧ (i = .int .i64 0 ∧ sg = .bool false ∧ dp = .int .i64 0 ∨ i = .int .i64 1 ∧ sg = .bool true ∧ dp = .int .i64 (-1)))
    (fun _ _ i _ _ _ _ _ _ _ => 5 - (RowKit.intOf i).toNat)
  case atStart => exact ⟨rfl, rfl, rfl, rfl, rfl, rfl, rfl, .inl ⟨rfl, rfl, rfl⟩⟩
  case round =>
    obtain ⟨rfl, rfl, rfl, rfl, rfl, rfl, rfl, ⟨rfl, rfl, rfl⟩ | ⟨rfl, rfl, rfl⟩⟩ := hrel
    · go_wp2_with fail
      go_roundw
      case rel => exact ⟨rfl, rfl, rfl, rfl, rfl, rfl, by first | rfl | trivial, .inr ⟨rfl, rfl, rfl⟩⟩
      case measure => simp [RowKit.intOf]
    · go_wp2_with (go_at_call 79; refine (lower_e _).mono ?_; rintro en w2 ⟨rfl, rfl⟩)
      go_loopw [7, 9, 20] (fun i un ev wr => un = .bool false ∧ ev = .int .i64 0 ∧ w = wr ∧ (i = .int .i64 3 ∨ i = .int .i64 4 ∨ i = .int .i64 5)) (fun i _ _ _ => (5 - (RowKit.intOf i).toNat))
      case atStart => exact ⟨rfl, rfl, rfl, .inl rfl⟩
      case round =>
        obtain ⟨rfl, rfl, rfl, rfl | rfl | rfl⟩ := hrel
        · go_wp2_with fail
          go_roundw
          case rel => exact ⟨rfl, rfl, by first | rfl | trivial, .inr (.inl rfl)⟩
          case measure => simp [RowKit.intOf]
        · go_wp2_with fail
          go_roundw
          case rel => exact ⟨rfl, rfl, by first | rfl | trivial, .inr (.inr rfl)⟩
          case measure => simp [RowKit.intOf]
        · go_wp2_with fail
          rw [Exit.noGoto_ret]
          (try simp only [Exit.inBlock, Exit.then]); refine bodyPost_ret (results_tmp7 rfl _ _ _) rfl ?_
          exact readOut_mk rfl rfl rfl

set_option maxRecDepth 100000 in
set_option maxHeartbeats 4000000 in
theorem read_zero1 (s : ByteArray) (w : World) (hsz : s.size = 6) (h00 : byteAt s 0 = 45) (h0 : byteAt s 1 = 48) (h1 : byteAt s 2 = 101) (h2 : byteAt s 3 = 43) (h3 : byteAt s 4 = 48) (h4 : byteAt s 5 = 48) :
    Calls Tryz.prog 116 #[.string s] w (ReadOut 0 6 0 true w) := by
  have hb := get_byteAt s
  go_enter Tryz.func116, Tryz.ntmps116
  go_wp2_with fail
  go_step3
  go_wp2_with (go_at_call 79; refine (lower_e _).mono ?_; rintro en w2 ⟨rfl, rfl⟩)
  go_step3
  go_wp2_with fail
  go_loopw [2, 5, 7, 9, 13, 14, 15, 16, 17] (fun mm tr i un sd sg nd nm dp wr => mm = .int .u64 0 ∧ tr = .bool false ∧ un = .bool false ∧ sd = .bool false ∧ nd = .int .i64 0 ∧ nm = .int .i64 0 ∧ w = wr ∧ (i = .int .i64 1 ∧ sg = .bool false ∧ dp = .int .i64 0 ∨ i = .int .i64 2 ∧ sg = .bool true ∧ dp = .int .i64 (-1)))
    (fun _ _ i _ _ _ _ _ _ _ => 6 - (RowKit.intOf i).toNat)
  case atStart => exact ⟨rfl, rfl, rfl, rfl, rfl, rfl, rfl, .inl ⟨rfl, rfl, rfl⟩⟩
  case round =>
    obtain ⟨rfl, rfl, rfl, rfl, rfl, rfl, rfl, ⟨rfl, rfl, rfl⟩ | ⟨rfl, rfl, rfl⟩⟩ := hrel
    · go_wp2_with fail
      go_roundw
      case rel => exact ⟨rfl, rfl, rfl, rfl, rfl, rfl, by first | rfl | trivial, .inr ⟨rfl, rfl, rfl⟩⟩
      case measure => simp [RowKit.intOf]
    · go_wp2_with (go_at_call 79; refine (lower_e _).mono ?_; rintro en w2 ⟨rfl, rfl⟩)
      go_loopw [7, 9, 20] (fun i un ev wr => un = .bool false ∧ ev = .int .i64 0 ∧ w = wr ∧ (i = .int .i64 4 ∨ i = .int .i64 5 ∨ i = .int .i64 6)) (fun i _ _ _ => (6 - (RowKit.intOf i).toNat))
      case atStart => exact ⟨rfl, rfl, rfl, .inl rfl⟩
      case round =>
        obtain ⟨rfl, rfl, rfl, rfl | rfl | rfl⟩ := hrel
        · go_wp2_with fail
          go_roundw
          case rel => exact ⟨rfl, rfl, by first | rfl | trivial, .inr (.inl rfl)⟩
          case measure => simp [RowKit.intOf]
        · go_wp2_with fail
          go_roundw
          case rel => exact ⟨rfl, rfl, by first | rfl | trivial, .inr (.inr rfl)⟩
          case measure => simp [RowKit.intOf]
        · go_wp2_with fail
          rw [Exit.noGoto_ret]
          (try simp only [Exit.inBlock, Exit.then]); refine bodyPost_ret (results_tmp7 rfl _ _ _) rfl ?_
          exact readOut_mk rfl rfl rfl

end Go.Proofs.YtfemnjgcodcfkaaGreatDoor
