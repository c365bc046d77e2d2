/- The walk of fmtEFG at zero. -/
import Derived.Test.YtfemnjgcodcfkaaGreatDoorTextWalk

namespace Go.Proofs.YtfemnjgcodcfkaaGreatDoor
open Go.RowKit

set_option maxRecDepth 100000 in
set_option maxHeartbeats 4000000 in
theorem fmt0 (b0 B : Nat) (neg : Bool) (w : World) (hT : Txt b0 B w w []) :
    Calls Tryz.prog 43 #[.slice (some ⟨B, 0, none⟩) 0 24, .bool neg, .slice none 0 0, .int .i64 0, .int .i64 0, .int .i64 (-1), .int .u8 101, .bool true] w (FmtOut b0 B w (Fl.text neg [] 0)) := by
  obtain ⟨i0, hi, hz0, hz1, hz2⟩ := info_parts Tryz.info5
  cases neg
  · go_enter Tryz.func43, Tryz.ntmps43
    go_wp2_with (first
        | (at_builtin; refine wp_appL _ _ rfl (.tmp 79) (.tmp 80) 29 rfl i0 Tryz.underlying29 hi hz1 b0 B _ w _ (by assumption) (by simp) rfl [45] _ _ rfl rfl (by simp [u8s]) (by simp) ?_; intro w1 hT1)
        | (at_builtin; refine wp_appL _ _ rfl (.tmp 87) (.tmp 89) 29 rfl i0 Tryz.underlying29 hi hz1 b0 B _ w _ (by assumption) (by simp) rfl [48] _ _ rfl rfl (by simp [u8s]) (by simp) ?_; intro w1 hT1)
        | (at_builtin; refine wp_appL _ _ rfl (.tmp 120) (.tmp 122) 29 rfl i0 Tryz.underlying29 hi hz1 b0 B _ w _ (by assumption) (by simp) rfl [101] _ _ rfl rfl (by simp [u8s]) (by simp) ?_; intro w1 hT1)
        | (at_builtin; refine wp_appL _ _ rfl (.tmp 132) (.tmp 134) 29 rfl i0 Tryz.underlying29 hi hz1 b0 B _ w _ (by assumption) (by simp) rfl [43] _ _ rfl rfl (by simp [u8s]) (by simp) ?_; intro w1 hT1)
        | (at_builtin; refine wp_appL _ _ rfl (.tmp 155) (.tmp 159) 29 rfl i0 Tryz.underlying29 hi hz1 b0 B _ w _ (by assumption) (by simp) rfl [48, 48] _ _ rfl rfl (by simp [u8s]) (by simp) ?_; intro w1 hT1))
    go_ret
    exact fmtOut_of hT1 rfl (by simp)
  · go_enter Tryz.func43, Tryz.ntmps43
    go_wp2_with (first
        | (at_builtin; refine wp_appL _ _ rfl (.tmp 79) (.tmp 80) 29 rfl i0 Tryz.underlying29 hi hz1 b0 B _ w _ (by assumption) (by simp) rfl [45] _ _ rfl rfl (by simp [u8s]) (by simp) ?_; intro w1 hT1)
        | (at_builtin; refine wp_appL _ _ rfl (.tmp 87) (.tmp 89) 29 rfl i0 Tryz.underlying29 hi hz1 b0 B _ w _ (by assumption) (by simp) rfl [48] _ _ rfl rfl (by simp [u8s]) (by simp) ?_; intro w1 hT1)
        | (at_builtin; refine wp_appL _ _ rfl (.tmp 120) (.tmp 122) 29 rfl i0 Tryz.underlying29 hi hz1 b0 B _ w _ (by assumption) (by simp) rfl [101] _ _ rfl rfl (by simp [u8s]) (by simp) ?_; intro w1 hT1)
        | (at_builtin; refine wp_appL _ _ rfl (.tmp 132) (.tmp 134) 29 rfl i0 Tryz.underlying29 hi hz1 b0 B _ w _ (by assumption) (by simp) rfl [43] _ _ rfl rfl (by simp [u8s]) (by simp) ?_; intro w1 hT1)
        | (at_builtin; refine wp_appL _ _ rfl (.tmp 155) (.tmp 159) 29 rfl i0 Tryz.underlying29 hi hz1 b0 B _ w _ (by assumption) (by simp) rfl [48, 48] _ _ rfl rfl (by simp [u8s]) (by simp) ?_; intro w1 hT1))
    go_ret
    exact fmtOut_of hT1 rfl (by simp)

end Go.Proofs.YtfemnjgcodcfkaaGreatDoor
