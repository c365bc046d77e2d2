/-
  The walks of the small functions of internal/strconv: logarithms, powers, unrounded numbers.
-/
import Derived.Test.YtfemnjgcodcfkaaGreatDoorRows
import Derived.Test.YtfemnjgcodcfkaaGreatDoorShelf
import Derived.Test.YtfemnjgcodcfkaaGreatDoorQuo
import Derived.WalkKit
import Derived.WalkSpells
import Derived.WalkLawsBesides
import Derived.Deep.QuietTactic
import Derived.BigQuiet
import Derived.Lib.Hide
namespace Go.Proofs.YtfemnjgcodcfkaaGreatDoor
open Go.RowKit

theorem ret_int {k : IntKind} {a b : Int} (h : a = b) : Ending.returned (.int k a) = .returned (.int k b) := by rw [h]

set_option maxHeartbeats 400000 in
theorem log10_any (x : Int) (w : World) (h1 : -5000 ≤ x) (h2 : x ≤ 5000) :
    Calls Tryz.prog 48 #[.int .i64 x] w fun e w' => e = .returned (.int .i64 (Fl.l10 x)) ∧ w = w' := by
  go_enter Tryz.func48, Tryz.ntmps48
  go_wp2
  go_ret
  exact ⟨rfl, rfl⟩

set_option maxHeartbeats 400000 in
theorem log2_any (x : Int) (w : World) (h1 : -5000 ≤ x) (h2 : x ≤ 5000) :
    Calls Tryz.prog 82 #[.int .i64 x] w fun e w' => e = .returned (.int .i64 (Fl.l2 x)) ∧ w = w' := by
  go_enter Tryz.func82, Tryz.ntmps82
  go_wp2
  go_ret
  exact ⟨rfl, rfl⟩

set_option maxHeartbeats 400000 in
theorem skewed_any (x : Int) (w : World) (h1 : -5000 ≤ x) (h2 : x ≤ 5000) :
    Calls Tryz.prog 80 #[.int .i64 x] w fun e w' => e = .returned (.int .i64 (Fl.skw x)) ∧ w = w' := by
  go_enter Tryz.func80, Tryz.ntmps80
  go_wp2
  go_ret
  exact ⟨rfl, rfl⟩

set_option maxHeartbeats 400000 in
theorem bool2u_any (b : Bool) (w : World) :
    Calls Tryz.prog 111 #[.bool b] w fun e w' => e = .returned (.int .u64 ((b.toNat : Nat) : Int)) ∧ w = w' := by
  cases b
  · go_enter Tryz.func111, Tryz.ntmps111
    go_wp2
    go_ret
    exact ⟨rfl, rfl⟩
  · go_enter Tryz.func111, Tryz.ntmps111
    go_wp2
    go_ret
    exact ⟨rfl, rfl⟩

set_option maxHeartbeats 400000 in
theorem bool2i_any (b : Bool) (w : World) :
    Calls Tryz.prog 89 #[.bool b] w fun e w' => e = .returned (.int .i64 ((b.toNat : Nat) : Int)) ∧ w = w' := by
  cases b
  · go_enter Tryz.func89, Tryz.ntmps89
    go_wp2
    go_ret
    exact ⟨rfl, rfl⟩
  · go_enter Tryz.func89, Tryz.ntmps89
    go_wp2
    go_ret
    exact ⟨rfl, rfl⟩

theorem wrap_nudge (u d : Int) (h1 : 1 ≤ u) (h2 : u ≤ 4611686018427387904) (h3 : -1 ≤ d) (h4 : d ≤ 1) : IntKind.u64.wrap (u + IntKind.u64.wrap d) = u + d := by
  simp only [IntKind.wrap_u64]; omega

set_option maxHeartbeats 400000 in
theorem nudge_any (u d : Int) (w : World) (h1 : 1 ≤ u) (h2 : u ≤ 4611686018427387904) (h3 : -1 ≤ d) (h4 : d ≤ 1) :
    Calls Tryz.prog 84 #[.int .u64 u, .int .i64 d] w fun e w' => e = .returned (.int .u64 (u + d)) ∧ w = w' := by
  have hw := wrap_nudge u d h1 h2 h3 h4
  go_enter Tryz.func84, Tryz.ntmps84
  go_wp2
  go_ret
  exact ⟨rfl, rfl⟩

set_option maxHeartbeats 400000 in
theorem ceil_any (u : Int) (w : World) (h1 : 0 ≤ u) (h2 : u ≤ 4611686018427387904) :
    Calls Tryz.prog 85 #[.int .u64 u] w fun e w' => e = .returned (.int .u64 ((u + 3) / 4)) ∧ w = w' := by
  go_enter Tryz.func85, Tryz.ntmps85
  go_wp2
  go_ret
  exact ⟨rfl, rfl⟩

set_option maxHeartbeats 400000 in
theorem floor_any (u : Int) (w : World) (h1 : 0 ≤ u) (h2 : u ≤ 4611686018427387904) :
    Calls Tryz.prog 86 #[.int .u64 u] w fun e w' => e = .returned (.int .u64 (u / 4)) ∧ w = w' := by
  go_enter Tryz.func86, Tryz.ntmps86
  go_wp2
  go_ret
  exact ⟨rfl, rfl⟩

theorem round_eq (u : Nat) (h2 : u ≤ 4611686018427387904) : IntKind.u64.wrap ((u : Int) + 1 + bits BinOp.and IntKind.u64 ((u : Int) / 4) 1) / 4 = ((Fl.rnd u : Nat) : Int) := by
  rw [and_one_u64 _ (by omega) (by omega), IntKind.wrap_u64]
  unfold Fl.rnd
  have e : (u : Int) / 4 = ((u / 4 : Nat) : Int) := by omega
  rw [e]
  generalize u / 4 = v at *
  omega

set_option maxHeartbeats 400000 in
theorem round_any (u : Nat) (w : World) (h2 : u ≤ 4611686018427387904) :
    Calls Tryz.prog 87 #[.int .u64 u] w fun e w' => e = .returned (.int .u64 (Fl.rnd u : Nat)) ∧ w = w' := by
  have hr := round_eq u h2
  have HR := Lib.hid hr
  clear hr
  go_enter Tryz.func87, Tryz.ntmps87
  go_wp2
  go_ret
  exact ⟨ret_int HR.out, rfl⟩

set_option maxHeartbeats 400000 in
theorem unmin_any (u : Int) (w : World) (h1 : 1 ≤ u) (h2 : u ≤ 4611686018427387903) :
    Calls Tryz.prog 90 #[.int .u64 u] w fun e w' => e = .returned (.int .u64 (u * 4 - 2)) ∧ w = w' := by
  go_enter Tryz.func90, Tryz.ntmps90
  go_wp2
  go_ret
  exact ⟨rfl, rfl⟩

theorem i64_and63 (n : Nat) (h : n < 64) : bits .and .i64 (n : Int) 63 = (n : Int) := by
  have hf : ∀ m : Fin 64, bits .and .i64 ((m.val : Nat) : Int) 63 = ((m.val : Nat) : Int) := by decide
  exact hf ⟨n, h⟩

end Go.Proofs.YtfemnjgcodcfkaaGreatDoor
