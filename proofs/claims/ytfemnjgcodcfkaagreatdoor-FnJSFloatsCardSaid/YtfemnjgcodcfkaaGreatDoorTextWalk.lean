/- The walk of fmtEFG in the form with an exponent. -/
import Derived.Test.YtfemnjgcodcfkaaGreatDoorText

namespace Go.Proofs.YtfemnjgcodcfkaaGreatDoor
open Go.RowKit

theorem Tryz.info5 : (Tryz.prog.info? 5).map (fun i => (i.zero, i.size, i.bytes)) = some (some (.int .u8 0), 1, 1) := by kernel_rfl

/-- What fmtEFG hands back. -/
def FmtOut (b0 B : Nat) (w0 : World) (L : List Nat) (e : Ending) (w' : World) : Prop :=
  ∃ n, e = .returned (.slice (some ⟨B, 0, none⟩) n 24) ∧ n = L.length ∧ Txt b0 B w0 w' L

theorem fmtOut_of {b0 B n : Nat} {w0 w' : World} {L T : List Nat} (h : Txt b0 B w0 w' L) (hL : T = L) (hn : n = L.length) : FmtOut b0 B w0 T (.returned (.slice (some ⟨B, 0, none⟩) n 24)) w' := by
  subst hL
  exact ⟨n, rfl, hn, h⟩

set_option maxRecDepth 100000 in
set_option maxHeartbeats 4000000 in
theorem fmt1p (b0 B bb d x : Nat) (neg : Bool) (dp : Int) (w : World) (hT : Txt b0 B w w []) (hd : w.cell? ⟨bb, 0, none⟩ = some (.int .u8 (d : Int))) (hb : bb ≠ B) (hx : dp - 1 = x) (hdp2 : x < 400) :
    Calls Tryz.prog 43 #[.slice (some ⟨B, 0, none⟩) 0 24, .bool neg, .slice (some ⟨bb, 0, none⟩) 32 32, .int .i64 dp, .int .i64 1, .int .i64 0, .int .u8 101, .bool true] w (FmtOut b0 B w (Fl.text neg [d] (dp - 1))) := by
  obtain ⟨i0, hi, hz0, hz1, hz2⟩ := info_parts Tryz.info5
  cases neg
  · go_enter Tryz.func43, Tryz.ntmps43
    go_wp2_with (first
        | (at_builtin; refine wp_appL _ _ rfl (.tmp 79) (.tmp 80) 29 rfl i0 Tryz.underlying29 hi hz1 b0 B _ w _ (by assumption) (by simp) rfl [45] _ _ rfl rfl (by simp [u8s] <;> omega) (by simp <;> omega) ?_; intro w1 hT1; have hd1 := hT1.cell (p := ⟨bb, 0, none⟩) hb hd)
        | (at_builtin; refine wp_appL _ _ rfl (.tmp 87) (.tmp 89) 29 rfl i0 Tryz.underlying29 hi hz1 b0 B _ w _ (by assumption) (by simp) rfl [d] _ _ rfl rfl (by simp [u8s] <;> omega) (by simp <;> omega) ?_; intro w1 hT1)
        | (at_builtin; refine wp_appL _ _ rfl (.tmp 120) (.tmp 122) 29 rfl i0 Tryz.underlying29 hi hz1 b0 B _ w _ (by assumption) (by simp) rfl [101] _ _ rfl rfl (by simp [u8s] <;> omega) (by simp <;> omega) ?_; intro w1 hT1)
        | (at_builtin; refine wp_appL _ _ rfl (.tmp 132) (.tmp 134) 29 rfl i0 Tryz.underlying29 hi hz1 b0 B _ w _ (by assumption) (by simp) rfl [43] _ _ rfl rfl (by simp [u8s] <;> omega) (by simp <;> omega) ?_; intro w1 hT1)
        | (at_builtin; refine wp_appL _ _ rfl (.tmp 155) (.tmp 159) 29 rfl i0 Tryz.underlying29 hi hz1 b0 B _ w _ (by assumption) (by simp) rfl [48, x + 48] _ _ rfl rfl (by simp [u8s] <;> omega) (by simp <;> omega) ?_; intro w1 hT1)
        | (at_builtin; refine wp_appL _ _ rfl (.tmp 164) (.tmp 173) 29 rfl i0 Tryz.underlying29 hi hz1 b0 B _ w _ (by assumption) (by simp) rfl [x / 10 + 48, x % 10 + 48] _ _ rfl rfl (by simp [u8s] <;> omega) (by simp <;> omega) ?_; intro w1 hT1)
        | (at_builtin; refine wp_appL _ _ rfl (.tmp 136) (.tmp 150) 29 rfl i0 Tryz.underlying29 hi hz1 b0 B _ w _ (by assumption) (by simp) rfl [x / 100 + 48, x / 10 % 10 + 48, x % 10 + 48] _ _ rfl rfl (by simp [u8s] <;> omega) (by simp <;> omega) ?_; intro w1 hT1))
    all_goals
      go_ret
      exact fmtOut_of hT1 (by first | rw [Fl.text_pos _ _ hx, Fl.expText_1 (by omega)] | rw [Fl.text_pos _ _ hx, Fl.expText_2 (by omega) (by omega)] | rw [Fl.text_pos _ _ hx, Fl.expText_3 (by omega)]
                              simp [Fl.signText, Fl.mantText]) (by simp)
  · go_enter Tryz.func43, Tryz.ntmps43
    go_wp2_with (first
        | (at_builtin; refine wp_appL _ _ rfl (.tmp 79) (.tmp 80) 29 rfl i0 Tryz.underlying29 hi hz1 b0 B _ w _ (by assumption) (by simp) rfl [45] _ _ rfl rfl (by simp [u8s] <;> omega) (by simp <;> omega) ?_; intro w1 hT1; have hd1 := hT1.cell (p := ⟨bb, 0, none⟩) hb hd)
        | (at_builtin; refine wp_appL _ _ rfl (.tmp 87) (.tmp 89) 29 rfl i0 Tryz.underlying29 hi hz1 b0 B _ w _ (by assumption) (by simp) rfl [d] _ _ rfl rfl (by simp [u8s] <;> omega) (by simp <;> omega) ?_; intro w1 hT1)
        | (at_builtin; refine wp_appL _ _ rfl (.tmp 120) (.tmp 122) 29 rfl i0 Tryz.underlying29 hi hz1 b0 B _ w _ (by assumption) (by simp) rfl [101] _ _ rfl rfl (by simp [u8s] <;> omega) (by simp <;> omega) ?_; intro w1 hT1)
        | (at_builtin; refine wp_appL _ _ rfl (.tmp 132) (.tmp 134) 29 rfl i0 Tryz.underlying29 hi hz1 b0 B _ w _ (by assumption) (by simp) rfl [43] _ _ rfl rfl (by simp [u8s] <;> omega) (by simp <;> omega) ?_; intro w1 hT1)
        | (at_builtin; refine wp_appL _ _ rfl (.tmp 155) (.tmp 159) 29 rfl i0 Tryz.underlying29 hi hz1 b0 B _ w _ (by assumption) (by simp) rfl [48, x + 48] _ _ rfl rfl (by simp [u8s] <;> omega) (by simp <;> omega) ?_; intro w1 hT1)
        | (at_builtin; refine wp_appL _ _ rfl (.tmp 164) (.tmp 173) 29 rfl i0 Tryz.underlying29 hi hz1 b0 B _ w _ (by assumption) (by simp) rfl [x / 10 + 48, x % 10 + 48] _ _ rfl rfl (by simp [u8s] <;> omega) (by simp <;> omega) ?_; intro w1 hT1)
        | (at_builtin; refine wp_appL _ _ rfl (.tmp 136) (.tmp 150) 29 rfl i0 Tryz.underlying29 hi hz1 b0 B _ w _ (by assumption) (by simp) rfl [x / 100 + 48, x / 10 % 10 + 48, x % 10 + 48] _ _ rfl rfl (by simp [u8s] <;> omega) (by simp <;> omega) ?_; intro w1 hT1))
    all_goals
      go_ret
      exact fmtOut_of hT1 (by first | rw [Fl.text_pos _ _ hx, Fl.expText_1 (by omega)] | rw [Fl.text_pos _ _ hx, Fl.expText_2 (by omega) (by omega)] | rw [Fl.text_pos _ _ hx, Fl.expText_3 (by omega)]
                              simp [Fl.signText, Fl.mantText]) (by simp)

set_option maxRecDepth 100000 in
set_option maxHeartbeats 4000000 in
theorem fmt1n (b0 B bb d x : Nat) (neg : Bool) (dp : Int) (w : World) (hT : Txt b0 B w w []) (hd : w.cell? ⟨bb, 0, none⟩ = some (.int .u8 (d : Int))) (hb : bb ≠ B) (hx : dp - 1 = -(x : Int)) (hx0 : 0 < x) (hdp2 : x < 400) :
    Calls Tryz.prog 43 #[.slice (some ⟨B, 0, none⟩) 0 24, .bool neg, .slice (some ⟨bb, 0, none⟩) 32 32, .int .i64 dp, .int .i64 1, .int .i64 0, .int .u8 101, .bool true] w (FmtOut b0 B w (Fl.text neg [d] (dp - 1))) := by
  obtain ⟨i0, hi, hz0, hz1, hz2⟩ := info_parts Tryz.info5
  cases neg
  · go_enter Tryz.func43, Tryz.ntmps43
    go_wp2_with (first
        | (at_builtin; refine wp_appL _ _ rfl (.tmp 79) (.tmp 80) 29 rfl i0 Tryz.underlying29 hi hz1 b0 B _ w _ (by assumption) (by simp) rfl [45] _ _ rfl rfl (by simp [u8s] <;> omega) (by simp <;> omega) ?_; intro w1 hT1; have hd1 := hT1.cell (p := ⟨bb, 0, none⟩) hb hd)
        | (at_builtin; refine wp_appL _ _ rfl (.tmp 87) (.tmp 89) 29 rfl i0 Tryz.underlying29 hi hz1 b0 B _ w _ (by assumption) (by simp) rfl [d] _ _ rfl rfl (by simp [u8s] <;> omega) (by simp <;> omega) ?_; intro w1 hT1)
        | (at_builtin; refine wp_appL _ _ rfl (.tmp 120) (.tmp 122) 29 rfl i0 Tryz.underlying29 hi hz1 b0 B _ w _ (by assumption) (by simp) rfl [101] _ _ rfl rfl (by simp [u8s] <;> omega) (by simp <;> omega) ?_; intro w1 hT1)
        | (at_builtin; refine wp_appL _ _ rfl (.tmp 132) (.tmp 134) 29 rfl i0 Tryz.underlying29 hi hz1 b0 B _ w _ (by assumption) (by simp) rfl [45] _ _ rfl rfl (by simp [u8s] <;> omega) (by simp <;> omega) ?_; intro w1 hT1)
        | (at_builtin; refine wp_appL _ _ rfl (.tmp 155) (.tmp 159) 29 rfl i0 Tryz.underlying29 hi hz1 b0 B _ w _ (by assumption) (by simp) rfl [48, x + 48] _ _ rfl rfl (by simp [u8s] <;> omega) (by simp <;> omega) ?_; intro w1 hT1)
        | (at_builtin; refine wp_appL _ _ rfl (.tmp 164) (.tmp 173) 29 rfl i0 Tryz.underlying29 hi hz1 b0 B _ w _ (by assumption) (by simp) rfl [x / 10 + 48, x % 10 + 48] _ _ rfl rfl (by simp [u8s] <;> omega) (by simp <;> omega) ?_; intro w1 hT1)
        | (at_builtin; refine wp_appL _ _ rfl (.tmp 136) (.tmp 150) 29 rfl i0 Tryz.underlying29 hi hz1 b0 B _ w _ (by assumption) (by simp) rfl [x / 100 + 48, x / 10 % 10 + 48, x % 10 + 48] _ _ rfl rfl (by simp [u8s] <;> omega) (by simp <;> omega) ?_; intro w1 hT1))
    all_goals
      go_ret
      exact fmtOut_of hT1 (by first | rw [Fl.text_neg _ _ hx hx0, Fl.expText_1 (by omega)] | rw [Fl.text_neg _ _ hx hx0, Fl.expText_2 (by omega) (by omega)] | rw [Fl.text_neg _ _ hx hx0, Fl.expText_3 (by omega)]
                              simp [Fl.signText, Fl.mantText]) (by simp)
  · go_enter Tryz.func43, Tryz.ntmps43
    go_wp2_with (first
        | (at_builtin; refine wp_appL _ _ rfl (.tmp 79) (.tmp 80) 29 rfl i0 Tryz.underlying29 hi hz1 b0 B _ w _ (by assumption) (by simp) rfl [45] _ _ rfl rfl (by simp [u8s] <;> omega) (by simp <;> omega) ?_; intro w1 hT1; have hd1 := hT1.cell (p := ⟨bb, 0, none⟩) hb hd)
        | (at_builtin; refine wp_appL _ _ rfl (.tmp 87) (.tmp 89) 29 rfl i0 Tryz.underlying29 hi hz1 b0 B _ w _ (by assumption) (by simp) rfl [d] _ _ rfl rfl (by simp [u8s] <;> omega) (by simp <;> omega) ?_; intro w1 hT1)
        | (at_builtin; refine wp_appL _ _ rfl (.tmp 120) (.tmp 122) 29 rfl i0 Tryz.underlying29 hi hz1 b0 B _ w _ (by assumption) (by simp) rfl [101] _ _ rfl rfl (by simp [u8s] <;> omega) (by simp <;> omega) ?_; intro w1 hT1)
        | (at_builtin; refine wp_appL _ _ rfl (.tmp 132) (.tmp 134) 29 rfl i0 Tryz.underlying29 hi hz1 b0 B _ w _ (by assumption) (by simp) rfl [45] _ _ rfl rfl (by simp [u8s] <;> omega) (by simp <;> omega) ?_; intro w1 hT1)
        | (at_builtin; refine wp_appL _ _ rfl (.tmp 155) (.tmp 159) 29 rfl i0 Tryz.underlying29 hi hz1 b0 B _ w _ (by assumption) (by simp) rfl [48, x + 48] _ _ rfl rfl (by simp [u8s] <;> omega) (by simp <;> omega) ?_; intro w1 hT1)
        | (at_builtin; refine wp_appL _ _ rfl (.tmp 164) (.tmp 173) 29 rfl i0 Tryz.underlying29 hi hz1 b0 B _ w _ (by assumption) (by simp) rfl [x / 10 + 48, x % 10 + 48] _ _ rfl rfl (by simp [u8s] <;> omega) (by simp <;> omega) ?_; intro w1 hT1)
        | (at_builtin; refine wp_appL _ _ rfl (.tmp 136) (.tmp 150) 29 rfl i0 Tryz.underlying29 hi hz1 b0 B _ w _ (by assumption) (by simp) rfl [x / 100 + 48, x / 10 % 10 + 48, x % 10 + 48] _ _ rfl rfl (by simp [u8s] <;> omega) (by simp <;> omega) ?_; intro w1 hT1))
    all_goals
      go_ret
      exact fmtOut_of hT1 (by first | rw [Fl.text_neg _ _ hx hx0, Fl.expText_1 (by omega)] | rw [Fl.text_neg _ _ hx hx0, Fl.expText_2 (by omega) (by omega)] | rw [Fl.text_neg _ _ hx hx0, Fl.expText_3 (by omega)]
                              simp [Fl.signText, Fl.mantText]) (by simp)

end Go.Proofs.YtfemnjgcodcfkaaGreatDoor
