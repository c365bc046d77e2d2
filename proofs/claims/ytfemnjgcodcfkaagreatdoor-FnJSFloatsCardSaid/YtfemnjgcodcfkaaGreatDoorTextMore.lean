/- The walk of fmtEFG in the form with an exponent, more digits than one. -/
import Derived.Test.YtfemnjgcodcfkaaGreatDoorTextWalk

namespace Go.Proofs.YtfemnjgcodcfkaaGreatDoor
open Go.RowKit

set_option maxRecDepth 100000 in
set_option maxHeartbeats 4000000 in
theorem fmt2p (b0 B bb d x : Nat) (r : List Nat) (n : Nat) (neg : Bool) (dp : Int) (w : World) (hT : Txt b0 B w w []) (hd : w.cell? ⟨bb, 0, none⟩ = some (.int .u8 (d : Int))) (hr : ∀ (j u : Nat), r[j]? = some u → w.cell? ⟨bb, 1 + j, none⟩ = some (.int .u8 (u : Int))) (hn : r.length = n) (hn1 : 1 ≤ n) (hn2 : n ≤ 16) (hb : bb ≠ B) (hx : dp - 1 = x) (hdp2 : x < 400) :
    Calls Tryz.prog 43 #[.slice (some ⟨B, 0, none⟩) 0 24, .bool neg, .slice (some ⟨bb, 0, none⟩) 32 32, .int .i64 dp, .int .i64 ((n : Int) + 1), .int .i64 (n : Int), .int .u8 101, .bool true] w (FmtOut b0 B w (Fl.text neg (d :: r) (dp - 1))) := by
  obtain ⟨i0, hi, hz0, hz1, hz2⟩ := info_parts Tryz.info5
  have hme : Fl.mantText (d :: r) = d :: 46 :: r := by
    cases r with
    | nil => simp at hn; omega
    | cons e es => rfl
  cases neg
  · go_enter Tryz.func43, Tryz.ntmps43
    go_wp2_with (first
        | (at_builtin; refine wp_appL _ _ rfl (.tmp 79) (.tmp 80) 29 rfl i0 Tryz.underlying29 hi hz1 b0 B _ w _ (by assumption) (by simp <;> omega) rfl [45] _ _ rfl rfl (by simp [u8s] <;> omega) (by simp <;> omega) ?_; intro w1 hT1; have hd1 := hT1.cell (p := ⟨bb, 0, none⟩) hb hd)
        | (at_builtin; refine wp_appL _ _ rfl (.tmp 87) (.tmp 89) 29 rfl i0 Tryz.underlying29 hi hz1 b0 B _ w _ (by assumption) (by simp <;> omega) rfl [d] _ _ rfl rfl (by simp [u8s] <;> omega) (by simp <;> omega) ?_; intro w1 hT1)
        | (at_builtin; refine wp_appL _ _ rfl (.tmp 93) (.tmp 94) 29 rfl i0 Tryz.underlying29 hi hz1 b0 B _ w _ (by assumption) (by simp <;> omega) rfl [46] _ _ rfl rfl (by simp [u8s] <;> omega) (by simp <;> omega) ?_; intro w1 hT1)
        | (at_builtin; refine wp_appR _ rfl (.tmp 103) (.tmp 107) 29 rfl i0 Tryz.underlying29 hi hz1 b0 B _ w _ (by assumption) (by simp <;> omega) rfl r _ _ bb 1 rfl (by omega) hr hb (by simp <;> omega) ?_; intro w1 hT1)
        | (at_builtin; refine wp_appL _ _ rfl (.tmp 120) (.tmp 122) 29 rfl i0 Tryz.underlying29 hi hz1 b0 B _ w _ (by assumption) (by simp <;> omega) rfl [101] _ _ rfl rfl (by simp [u8s] <;> omega) (by simp <;> omega) ?_; intro w1 hT1)
        | (at_builtin; refine wp_appL _ _ rfl (.tmp 132) (.tmp 134) 29 rfl i0 Tryz.underlying29 hi hz1 b0 B _ w _ (by assumption) (by simp <;> omega) rfl [43] _ _ rfl rfl (by simp [u8s] <;> omega) (by simp <;> omega) ?_; intro w1 hT1)
        | (at_builtin; refine wp_appL _ _ rfl (.tmp 155) (.tmp 159) 29 rfl i0 Tryz.underlying29 hi hz1 b0 B _ w _ (by assumption) (by simp <;> omega) rfl [48, x + 48] _ _ rfl rfl (by simp [u8s] <;> omega) (by simp <;> omega) ?_; intro w1 hT1)
        | (at_builtin; refine wp_appL _ _ rfl (.tmp 164) (.tmp 173) 29 rfl i0 Tryz.underlying29 hi hz1 b0 B _ w _ (by assumption) (by simp <;> omega) rfl [x / 10 + 48, x % 10 + 48] _ _ rfl rfl (by simp [u8s] <;> omega) (by simp <;> omega) ?_; intro w1 hT1)
        | (at_builtin; refine wp_appL _ _ rfl (.tmp 136) (.tmp 150) 29 rfl i0 Tryz.underlying29 hi hz1 b0 B _ w _ (by assumption) (by simp <;> omega) rfl [x / 100 + 48, x / 10 % 10 + 48, x % 10 + 48] _ _ rfl rfl (by simp [u8s] <;> omega) (by simp <;> omega) ?_; intro w1 hT1))
    go_loopw [0, 114] (fun d0 i wr => d0 = .slice (some ⟨B, 0, none⟩) (n + 1 + 1) 24 ∧ i = .int .i64 0 ∧ wr = w1) (fun _ _ _ => 0)
    case atStart => exact ⟨rfl, rfl, rfl⟩
    case round =>
      obtain ⟨rfl, rfl, rfl⟩ := hrel
      go_wp2_with (first
        | (at_builtin; refine wp_appL _ _ rfl (.tmp 79) (.tmp 80) 29 rfl i0 Tryz.underlying29 hi hz1 b0 B _ w _ (by assumption) (by simp <;> omega) rfl [45] _ _ rfl rfl (by simp [u8s] <;> omega) (by simp <;> omega) ?_; intro w1 hT1; have hd1 := hT1.cell (p := ⟨bb, 0, none⟩) hb hd)
        | (at_builtin; refine wp_appL _ _ rfl (.tmp 87) (.tmp 89) 29 rfl i0 Tryz.underlying29 hi hz1 b0 B _ w _ (by assumption) (by simp <;> omega) rfl [d] _ _ rfl rfl (by simp [u8s] <;> omega) (by simp <;> omega) ?_; intro w1 hT1)
        | (at_builtin; refine wp_appL _ _ rfl (.tmp 93) (.tmp 94) 29 rfl i0 Tryz.underlying29 hi hz1 b0 B _ w _ (by assumption) (by simp <;> omega) rfl [46] _ _ rfl rfl (by simp [u8s] <;> omega) (by simp <;> omega) ?_; intro w1 hT1)
        | (at_builtin; refine wp_appR _ rfl (.tmp 103) (.tmp 107) 29 rfl i0 Tryz.underlying29 hi hz1 b0 B _ w _ (by assumption) (by simp <;> omega) rfl r _ _ bb 1 rfl (by omega) hr hb (by simp <;> omega) ?_; intro w1 hT1)
        | (at_builtin; refine wp_appL _ _ rfl (.tmp 120) (.tmp 122) 29 rfl i0 Tryz.underlying29 hi hz1 b0 B _ w _ (by assumption) (by simp <;> omega) rfl [101] _ _ rfl rfl (by simp [u8s] <;> omega) (by simp <;> omega) ?_; intro w1 hT1)
        | (at_builtin; refine wp_appL _ _ rfl (.tmp 132) (.tmp 134) 29 rfl i0 Tryz.underlying29 hi hz1 b0 B _ w _ (by assumption) (by simp <;> omega) rfl [43] _ _ rfl rfl (by simp [u8s] <;> omega) (by simp <;> omega) ?_; intro w1 hT1)
        | (at_builtin; refine wp_appL _ _ rfl (.tmp 155) (.tmp 159) 29 rfl i0 Tryz.underlying29 hi hz1 b0 B _ w _ (by assumption) (by simp <;> omega) rfl [48, x + 48] _ _ rfl rfl (by simp [u8s] <;> omega) (by simp <;> omega) ?_; intro w1 hT1)
        | (at_builtin; refine wp_appL _ _ rfl (.tmp 164) (.tmp 173) 29 rfl i0 Tryz.underlying29 hi hz1 b0 B _ w _ (by assumption) (by simp <;> omega) rfl [x / 10 + 48, x % 10 + 48] _ _ rfl rfl (by simp [u8s] <;> omega) (by simp <;> omega) ?_; intro w1 hT1)
        | (at_builtin; refine wp_appL _ _ rfl (.tmp 136) (.tmp 150) 29 rfl i0 Tryz.underlying29 hi hz1 b0 B _ w _ (by assumption) (by simp <;> omega) rfl [x / 100 + 48, x / 10 % 10 + 48, x % 10 + 48] _ _ rfl rfl (by simp [u8s] <;> omega) (by simp <;> omega) ?_; intro w1 hT1))
      all_goals
        go_ret
        exact fmtOut_of hT1 (by first | rw [Fl.text_pos _ _ hx, Fl.expText_1 (by omega)] | rw [Fl.text_pos _ _ hx, Fl.expText_2 (by omega) (by omega)] | rw [Fl.text_pos _ _ hx, Fl.expText_3 (by omega)]
                                simp [Fl.signText, hme]) (by simp <;> omega)
  · go_enter Tryz.func43, Tryz.ntmps43
    go_wp2_with (first
        | (at_builtin; refine wp_appL _ _ rfl (.tmp 79) (.tmp 80) 29 rfl i0 Tryz.underlying29 hi hz1 b0 B _ w _ (by assumption) (by simp <;> omega) rfl [45] _ _ rfl rfl (by simp [u8s] <;> omega) (by simp <;> omega) ?_; intro w1 hT1; have hd1 := hT1.cell (p := ⟨bb, 0, none⟩) hb hd)
        | (at_builtin; refine wp_appL _ _ rfl (.tmp 87) (.tmp 89) 29 rfl i0 Tryz.underlying29 hi hz1 b0 B _ w _ (by assumption) (by simp <;> omega) rfl [d] _ _ rfl rfl (by simp [u8s] <;> omega) (by simp <;> omega) ?_; intro w1 hT1)
        | (at_builtin; refine wp_appL _ _ rfl (.tmp 93) (.tmp 94) 29 rfl i0 Tryz.underlying29 hi hz1 b0 B _ w _ (by assumption) (by simp <;> omega) rfl [46] _ _ rfl rfl (by simp [u8s] <;> omega) (by simp <;> omega) ?_; intro w1 hT1)
        | (at_builtin; refine wp_appR _ rfl (.tmp 103) (.tmp 107) 29 rfl i0 Tryz.underlying29 hi hz1 b0 B _ w _ (by assumption) (by simp <;> omega) rfl r _ _ bb 1 rfl (by omega) hr hb (by simp <;> omega) ?_; intro w1 hT1)
        | (at_builtin; refine wp_appL _ _ rfl (.tmp 120) (.tmp 122) 29 rfl i0 Tryz.underlying29 hi hz1 b0 B _ w _ (by assumption) (by simp <;> omega) rfl [101] _ _ rfl rfl (by simp [u8s] <;> omega) (by simp <;> omega) ?_; intro w1 hT1)
        | (at_builtin; refine wp_appL _ _ rfl (.tmp 132) (.tmp 134) 29 rfl i0 Tryz.underlying29 hi hz1 b0 B _ w _ (by assumption) (by simp <;> omega) rfl [43] _ _ rfl rfl (by simp [u8s] <;> omega) (by simp <;> omega) ?_; intro w1 hT1)
        | (at_builtin; refine wp_appL _ _ rfl (.tmp 155) (.tmp 159) 29 rfl i0 Tryz.underlying29 hi hz1 b0 B _ w _ (by assumption) (by simp <;> omega) rfl [48, x + 48] _ _ rfl rfl (by simp [u8s] <;> omega) (by simp <;> omega) ?_; intro w1 hT1)
        | (at_builtin; refine wp_appL _ _ rfl (.tmp 164) (.tmp 173) 29 rfl i0 Tryz.underlying29 hi hz1 b0 B _ w _ (by assumption) (by simp <;> omega) rfl [x / 10 + 48, x % 10 + 48] _ _ rfl rfl (by simp [u8s] <;> omega) (by simp <;> omega) ?_; intro w1 hT1)
        | (at_builtin; refine wp_appL _ _ rfl (.tmp 136) (.tmp 150) 29 rfl i0 Tryz.underlying29 hi hz1 b0 B _ w _ (by assumption) (by simp <;> omega) rfl [x / 100 + 48, x / 10 % 10 + 48, x % 10 + 48] _ _ rfl rfl (by simp [u8s] <;> omega) (by simp <;> omega) ?_; intro w1 hT1))
    go_loopw [0, 114] (fun d0 i wr => d0 = .slice (some ⟨B, 0, none⟩) (n + 1 + 1 + 1) 24 ∧ i = .int .i64 0 ∧ wr = w1) (fun _ _ _ => 0)
    case atStart => exact ⟨rfl, rfl, rfl⟩
    case round =>
      obtain ⟨rfl, rfl, rfl⟩ := hrel
      go_wp2_with (first
        | (at_builtin; refine wp_appL _ _ rfl (.tmp 79) (.tmp 80) 29 rfl i0 Tryz.underlying29 hi hz1 b0 B _ w _ (by assumption) (by simp <;> omega) rfl [45] _ _ rfl rfl (by simp [u8s] <;> omega) (by simp <;> omega) ?_; intro w1 hT1; have hd1 := hT1.cell (p := ⟨bb, 0, none⟩) hb hd)
        | (at_builtin; refine wp_appL _ _ rfl (.tmp 87) (.tmp 89) 29 rfl i0 Tryz.underlying29 hi hz1 b0 B _ w _ (by assumption) (by simp <;> omega) rfl [d] _ _ rfl rfl (by simp [u8s] <;> omega) (by simp <;> omega) ?_; intro w1 hT1)
        | (at_builtin; refine wp_appL _ _ rfl (.tmp 93) (.tmp 94) 29 rfl i0 Tryz.underlying29 hi hz1 b0 B _ w _ (by assumption) (by simp <;> omega) rfl [46] _ _ rfl rfl (by simp [u8s] <;> omega) (by simp <;> omega) ?_; intro w1 hT1)
        | (at_builtin; refine wp_appR _ rfl (.tmp 103) (.tmp 107) 29 rfl i0 Tryz.underlying29 hi hz1 b0 B _ w _ (by assumption) (by simp <;> omega) rfl r _ _ bb 1 rfl (by omega) hr hb (by simp <;> omega) ?_; intro w1 hT1)
        | (at_builtin; refine wp_appL _ _ rfl (.tmp 120) (.tmp 122) 29 rfl i0 Tryz.underlying29 hi hz1 b0 B _ w _ (by assumption) (by simp <;> omega) rfl [101] _ _ rfl rfl (by simp [u8s] <;> omega) (by simp <;> omega) ?_; intro w1 hT1)
        | (at_builtin; refine wp_appL _ _ rfl (.tmp 132) (.tmp 134) 29 rfl i0 Tryz.underlying29 hi hz1 b0 B _ w _ (by assumption) (by simp <;> omega) rfl [43] _ _ rfl rfl (by simp [u8s] <;> omega) (by simp <;> omega) ?_; intro w1 hT1)
        | (at_builtin; refine wp_appL _ _ rfl (.tmp 155) (.tmp 159) 29 rfl i0 Tryz.underlying29 hi hz1 b0 B _ w _ (by assumption) (by simp <;> omega) rfl [48, x + 48] _ _ rfl rfl (by simp [u8s] <;> omega) (by simp <;> omega) ?_; intro w1 hT1)
        | (at_builtin; refine wp_appL _ _ rfl (.tmp 164) (.tmp 173) 29 rfl i0 Tryz.underlying29 hi hz1 b0 B _ w _ (by assumption) (by simp <;> omega) rfl [x / 10 + 48, x % 10 + 48] _ _ rfl rfl (by simp [u8s] <;> omega) (by simp <;> omega) ?_; intro w1 hT1)
        | (at_builtin; refine wp_appL _ _ rfl (.tmp 136) (.tmp 150) 29 rfl i0 Tryz.underlying29 hi hz1 b0 B _ w _ (by assumption) (by simp <;> omega) rfl [x / 100 + 48, x / 10 % 10 + 48, x % 10 + 48] _ _ rfl rfl (by simp [u8s] <;> omega) (by simp <;> omega) ?_; intro w1 hT1))
      all_goals
        go_ret
        exact fmtOut_of hT1 (by first | rw [Fl.text_pos _ _ hx, Fl.expText_1 (by omega)] | rw [Fl.text_pos _ _ hx, Fl.expText_2 (by omega) (by omega)] | rw [Fl.text_pos _ _ hx, Fl.expText_3 (by omega)]
                                simp [Fl.signText, hme]) (by simp <;> omega)

set_option maxRecDepth 100000 in
set_option maxHeartbeats 4000000 in
theorem fmt2n (b0 B bb d x : Nat) (r : List Nat) (n : Nat) (neg : Bool) (dp : Int) (w : World) (hT : Txt b0 B w w []) (hd : w.cell? ⟨bb, 0, none⟩ = some (.int .u8 (d : Int))) (hr : ∀ (j u : Nat), r[j]? = some u → w.cell? ⟨bb, 1 + j, none⟩ = some (.int .u8 (u : Int))) (hn : r.length = n) (hn1 : 1 ≤ n) (hn2 : n ≤ 16) (hb : bb ≠ B) (hx : dp - 1 = -(x : Int)) (hx0 : 0 < x) (hdp2 : x < 400) :
    Calls Tryz.prog 43 #[.slice (some ⟨B, 0, none⟩) 0 24, .bool neg, .slice (some ⟨bb, 0, none⟩) 32 32, .int .i64 dp, .int .i64 ((n : Int) + 1), .int .i64 (n : Int), .int .u8 101, .bool true] w (FmtOut b0 B w (Fl.text neg (d :: r) (dp - 1))) := by
  obtain ⟨i0, hi, hz0, hz1, hz2⟩ := info_parts Tryz.info5
  have hme : Fl.mantText (d :: r) = d :: 46 :: r := by
    cases r with
    | nil => simp at hn; omega
    | cons e es => rfl
  cases neg
  · go_enter Tryz.func43, Tryz.ntmps43
    go_wp2_with (first
        | (at_builtin; refine wp_appL _ _ rfl (.tmp 79) (.tmp 80) 29 rfl i0 Tryz.underlying29 hi hz1 b0 B _ w _ (by assumption) (by simp <;> omega) rfl [45] _ _ rfl rfl (by simp [u8s] <;> omega) (by simp <;> omega) ?_; intro w1 hT1; have hd1 := hT1.cell (p := ⟨bb, 0, none⟩) hb hd)
        | (at_builtin; refine wp_appL _ _ rfl (.tmp 87) (.tmp 89) 29 rfl i0 Tryz.underlying29 hi hz1 b0 B _ w _ (by assumption) (by simp <;> omega) rfl [d] _ _ rfl rfl (by simp [u8s] <;> omega) (by simp <;> omega) ?_; intro w1 hT1)
        | (at_builtin; refine wp_appL _ _ rfl (.tmp 93) (.tmp 94) 29 rfl i0 Tryz.underlying29 hi hz1 b0 B _ w _ (by assumption) (by simp <;> omega) rfl [46] _ _ rfl rfl (by simp [u8s] <;> omega) (by simp <;> omega) ?_; intro w1 hT1)
        | (at_builtin; refine wp_appR _ rfl (.tmp 103) (.tmp 107) 29 rfl i0 Tryz.underlying29 hi hz1 b0 B _ w _ (by assumption) (by simp <;> omega) rfl r _ _ bb 1 rfl (by omega) hr hb (by simp <;> omega) ?_; intro w1 hT1)
        | (at_builtin; refine wp_appL _ _ rfl (.tmp 120) (.tmp 122) 29 rfl i0 Tryz.underlying29 hi hz1 b0 B _ w _ (by assumption) (by simp <;> omega) rfl [101] _ _ rfl rfl (by simp [u8s] <;> omega) (by simp <;> omega) ?_; intro w1 hT1)
        | (at_builtin; refine wp_appL _ _ rfl (.tmp 132) (.tmp 134) 29 rfl i0 Tryz.underlying29 hi hz1 b0 B _ w _ (by assumption) (by simp <;> omega) rfl [45] _ _ rfl rfl (by simp [u8s] <;> omega) (by simp <;> omega) ?_; intro w1 hT1)
        | (at_builtin; refine wp_appL _ _ rfl (.tmp 155) (.tmp 159) 29 rfl i0 Tryz.underlying29 hi hz1 b0 B _ w _ (by assumption) (by simp <;> omega) rfl [48, x + 48] _ _ rfl rfl (by simp [u8s] <;> omega) (by simp <;> omega) ?_; intro w1 hT1)
        | (at_builtin; refine wp_appL _ _ rfl (.tmp 164) (.tmp 173) 29 rfl i0 Tryz.underlying29 hi hz1 b0 B _ w _ (by assumption) (by simp <;> omega) rfl [x / 10 + 48, x % 10 + 48] _ _ rfl rfl (by simp [u8s] <;> omega) (by simp <;> omega) ?_; intro w1 hT1)
        | (at_builtin; refine wp_appL _ _ rfl (.tmp 136) (.tmp 150) 29 rfl i0 Tryz.underlying29 hi hz1 b0 B _ w _ (by assumption) (by simp <;> omega) rfl [x / 100 + 48, x / 10 % 10 + 48, x % 10 + 48] _ _ rfl rfl (by simp [u8s] <;> omega) (by simp <;> omega) ?_; intro w1 hT1))
    go_loopw [0, 114] (fun d0 i wr => d0 = .slice (some ⟨B, 0, none⟩) (n + 1 + 1) 24 ∧ i = .int .i64 0 ∧ wr = w1) (fun _ _ _ => 0)
    case atStart => exact ⟨rfl, rfl, rfl⟩
    case round =>
      obtain ⟨rfl, rfl, rfl⟩ := hrel
      go_wp2_with (first
        | (at_builtin; refine wp_appL _ _ rfl (.tmp 79) (.tmp 80) 29 rfl i0 Tryz.underlying29 hi hz1 b0 B _ w _ (by assumption) (by simp <;> omega) rfl [45] _ _ rfl rfl (by simp [u8s] <;> omega) (by simp <;> omega) ?_; intro w1 hT1; have hd1 := hT1.cell (p := ⟨bb, 0, none⟩) hb hd)
        | (at_builtin; refine wp_appL _ _ rfl (.tmp 87) (.tmp 89) 29 rfl i0 Tryz.underlying29 hi hz1 b0 B _ w _ (by assumption) (by simp <;> omega) rfl [d] _ _ rfl rfl (by simp [u8s] <;> omega) (by simp <;> omega) ?_; intro w1 hT1)
        | (at_builtin; refine wp_appL _ _ rfl (.tmp 93) (.tmp 94) 29 rfl i0 Tryz.underlying29 hi hz1 b0 B _ w _ (by assumption) (by simp <;> omega) rfl [46] _ _ rfl rfl (by simp [u8s] <;> omega) (by simp <;> omega) ?_; intro w1 hT1)
        | (at_builtin; refine wp_appR _ rfl (.tmp 103) (.tmp 107) 29 rfl i0 Tryz.underlying29 hi hz1 b0 B _ w _ (by assumption) (by simp <;> omega) rfl r _ _ bb 1 rfl (by omega) hr hb (by simp <;> omega) ?_; intro w1 hT1)
        | (at_builtin; refine wp_appL _ _ rfl (.tmp 120) (.tmp 122) 29 rfl i0 Tryz.underlying29 hi hz1 b0 B _ w _ (by assumption) (by simp <;> omega) rfl [101] _ _ rfl rfl (by simp [u8s] <;> omega) (by simp <;> omega) ?_; intro w1 hT1)
        | (at_builtin; refine wp_appL _ _ rfl (.tmp 132) (.tmp 134) 29 rfl i0 Tryz.underlying29 hi hz1 b0 B _ w _ (by assumption) (by simp <;> omega) rfl [45] _ _ rfl rfl (by simp [u8s] <;> omega) (by simp <;> omega) ?_; intro w1 hT1)
        | (at_builtin; refine wp_appL _ _ rfl (.tmp 155) (.tmp 159) 29 rfl i0 Tryz.underlying29 hi hz1 b0 B _ w _ (by assumption) (by simp <;> omega) rfl [48, x + 48] _ _ rfl rfl (by simp [u8s] <;> omega) (by simp <;> omega) ?_; intro w1 hT1)
        | (at_builtin; refine wp_appL _ _ rfl (.tmp 164) (.tmp 173) 29 rfl i0 Tryz.underlying29 hi hz1 b0 B _ w _ (by assumption) (by simp <;> omega) rfl [x / 10 + 48, x % 10 + 48] _ _ rfl rfl (by simp [u8s] <;> omega) (by simp <;> omega) ?_; intro w1 hT1)
        | (at_builtin; refine wp_appL _ _ rfl (.tmp 136) (.tmp 150) 29 rfl i0 Tryz.underlying29 hi hz1 b0 B _ w _ (by assumption) (by simp <;> omega) rfl [x / 100 + 48, x / 10 % 10 + 48, x % 10 + 48] _ _ rfl rfl (by simp [u8s] <;> omega) (by simp <;> omega) ?_; intro w1 hT1))
      all_goals
        go_ret
        exact fmtOut_of hT1 (by first | rw [Fl.text_neg _ _ hx hx0, Fl.expText_1 (by omega)] | rw [Fl.text_neg _ _ hx hx0, Fl.expText_2 (by omega) (by omega)] | rw [Fl.text_neg _ _ hx hx0, Fl.expText_3 (by omega)]
                                simp [Fl.signText, hme]) (by simp <;> omega)
  · go_enter Tryz.func43, Tryz.ntmps43
    go_wp2_with (first
        | (at_builtin; refine wp_appL _ _ rfl (.tmp 79) (.tmp 80) 29 rfl i0 Tryz.underlying29 hi hz1 b0 B _ w _ (by assumption) (by simp <;> omega) rfl [45] _ _ rfl rfl (by simp [u8s] <;> omega) (by simp <;> omega) ?_; intro w1 hT1; have hd1 := hT1.cell (p := ⟨bb, 0, none⟩) hb hd)
        | (at_builtin; refine wp_appL _ _ rfl (.tmp 87) (.tmp 89) 29 rfl i0 Tryz.underlying29 hi hz1 b0 B _ w _ (by assumption) (by simp <;> omega) rfl [d] _ _ rfl rfl (by simp [u8s] <;> omega) (by simp <;> omega) ?_; intro w1 hT1)
        | (at_builtin; refine wp_appL _ _ rfl (.tmp 93) (.tmp 94) 29 rfl i0 Tryz.underlying29 hi hz1 b0 B _ w _ (by assumption) (by simp <;> omega) rfl [46] _ _ rfl rfl (by simp [u8s] <;> omega) (by simp <;> omega) ?_; intro w1 hT1)
        | (at_builtin; refine wp_appR _ rfl (.tmp 103) (.tmp 107) 29 rfl i0 Tryz.underlying29 hi hz1 b0 B _ w _ (by assumption) (by simp <;> omega) rfl r _ _ bb 1 rfl (by omega) hr hb (by simp <;> omega) ?_; intro w1 hT1)
        | (at_builtin; refine wp_appL _ _ rfl (.tmp 120) (.tmp 122) 29 rfl i0 Tryz.underlying29 hi hz1 b0 B _ w _ (by assumption) (by simp <;> omega) rfl [101] _ _ rfl rfl (by simp [u8s] <;> omega) (by simp <;> omega) ?_; intro w1 hT1)
        | (at_builtin; refine wp_appL _ _ rfl (.tmp 132) (.tmp 134) 29 rfl i0 Tryz.underlying29 hi hz1 b0 B _ w _ (by assumption) (by simp <;> omega) rfl [45] _ _ rfl rfl (by simp [u8s] <;> omega) (by simp <;> omega) ?_; intro w1 hT1)
        | (at_builtin; refine wp_appL _ _ rfl (.tmp 155) (.tmp 159) 29 rfl i0 Tryz.underlying29 hi hz1 b0 B _ w _ (by assumption) (by simp <;> omega) rfl [48, x + 48] _ _ rfl rfl (by simp [u8s] <;> omega) (by simp <;> omega) ?_; intro w1 hT1)
        | (at_builtin; refine wp_appL _ _ rfl (.tmp 164) (.tmp 173) 29 rfl i0 Tryz.underlying29 hi hz1 b0 B _ w _ (by assumption) (by simp <;> omega) rfl [x / 10 + 48, x % 10 + 48] _ _ rfl rfl (by simp [u8s] <;> omega) (by simp <;> omega) ?_; intro w1 hT1)
        | (at_builtin; refine wp_appL _ _ rfl (.tmp 136) (.tmp 150) 29 rfl i0 Tryz.underlying29 hi hz1 b0 B _ w _ (by assumption) (by simp <;> omega) rfl [x / 100 + 48, x / 10 % 10 + 48, x % 10 + 48] _ _ rfl rfl (by simp [u8s] <;> omega) (by simp <;> omega) ?_; intro w1 hT1))
    go_loopw [0, 114] (fun d0 i wr => d0 = .slice (some ⟨B, 0, none⟩) (n + 1 + 1 + 1) 24 ∧ i = .int .i64 0 ∧ wr = w1) (fun _ _ _ => 0)
    case atStart => exact ⟨rfl, rfl, rfl⟩
    case round =>
      obtain ⟨rfl, rfl, rfl⟩ := hrel
      go_wp2_with (first
        | (at_builtin; refine wp_appL _ _ rfl (.tmp 79) (.tmp 80) 29 rfl i0 Tryz.underlying29 hi hz1 b0 B _ w _ (by assumption) (by simp <;> omega) rfl [45] _ _ rfl rfl (by simp [u8s] <;> omega) (by simp <;> omega) ?_; intro w1 hT1; have hd1 := hT1.cell (p := ⟨bb, 0, none⟩) hb hd)
        | (at_builtin; refine wp_appL _ _ rfl (.tmp 87) (.tmp 89) 29 rfl i0 Tryz.underlying29 hi hz1 b0 B _ w _ (by assumption) (by simp <;> omega) rfl [d] _ _ rfl rfl (by simp [u8s] <;> omega) (by simp <;> omega) ?_; intro w1 hT1)
        | (at_builtin; refine wp_appL _ _ rfl (.tmp 93) (.tmp 94) 29 rfl i0 Tryz.underlying29 hi hz1 b0 B _ w _ (by assumption) (by simp <;> omega) rfl [46] _ _ rfl rfl (by simp [u8s] <;> omega) (by simp <;> omega) ?_; intro w1 hT1)
        | (at_builtin; refine wp_appR _ rfl (.tmp 103) (.tmp 107) 29 rfl i0 Tryz.underlying29 hi hz1 b0 B _ w _ (by assumption) (by simp <;> omega) rfl r _ _ bb 1 rfl (by omega) hr hb (by simp <;> omega) ?_; intro w1 hT1)
        | (at_builtin; refine wp_appL _ _ rfl (.tmp 120) (.tmp 122) 29 rfl i0 Tryz.underlying29 hi hz1 b0 B _ w _ (by assumption) (by simp <;> omega) rfl [101] _ _ rfl rfl (by simp [u8s] <;> omega) (by simp <;> omega) ?_; intro w1 hT1)
        | (at_builtin; refine wp_appL _ _ rfl (.tmp 132) (.tmp 134) 29 rfl i0 Tryz.underlying29 hi hz1 b0 B _ w _ (by assumption) (by simp <;> omega) rfl [45] _ _ rfl rfl (by simp [u8s] <;> omega) (by simp <;> omega) ?_; intro w1 hT1)
        | (at_builtin; refine wp_appL _ _ rfl (.tmp 155) (.tmp 159) 29 rfl i0 Tryz.underlying29 hi hz1 b0 B _ w _ (by assumption) (by simp <;> omega) rfl [48, x + 48] _ _ rfl rfl (by simp [u8s] <;> omega) (by simp <;> omega) ?_; intro w1 hT1)
        | (at_builtin; refine wp_appL _ _ rfl (.tmp 164) (.tmp 173) 29 rfl i0 Tryz.underlying29 hi hz1 b0 B _ w _ (by assumption) (by simp <;> omega) rfl [x / 10 + 48, x % 10 + 48] _ _ rfl rfl (by simp [u8s] <;> omega) (by simp <;> omega) ?_; intro w1 hT1)
        | (at_builtin; refine wp_appL _ _ rfl (.tmp 136) (.tmp 150) 29 rfl i0 Tryz.underlying29 hi hz1 b0 B _ w _ (by assumption) (by simp <;> omega) rfl [x / 100 + 48, x / 10 % 10 + 48, x % 10 + 48] _ _ rfl rfl (by simp [u8s] <;> omega) (by simp <;> omega) ?_; intro w1 hT1))
      all_goals
        go_ret
        exact fmtOut_of hT1 (by first | rw [Fl.text_neg _ _ hx hx0, Fl.expText_1 (by omega)] | rw [Fl.text_neg _ _ hx hx0, Fl.expText_2 (by omega) (by omega)] | rw [Fl.text_neg _ _ hx hx0, Fl.expText_3 (by omega)]
                                simp [Fl.signText, hme]) (by simp <;> omega)

end Go.Proofs.YtfemnjgcodcfkaaGreatDoor
