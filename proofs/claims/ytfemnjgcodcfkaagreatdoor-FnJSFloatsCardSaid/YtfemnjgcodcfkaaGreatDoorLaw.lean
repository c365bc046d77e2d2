/- The law: every finite float's text is read back as its bits; true and false as such. -/
import Derived.Test.YtfemnjgcodcfkaaGreatDoorMem
import Derived.Test.YtfemnjgcodcfkaaGreatDoorJson
import Derived.Test.YtfemnjgcodcfkaaGreatDoorFormat
import Derived.BigQuiet

namespace Go.Proofs.YtfemnjgcodcfkaaGreatDoor
open Go.RowKit

theorem raw_frombits_run (n : Int) (w : World) : (callFunc 4 #[.int .u64 n]).run Tryz.prog w = .ok (.value (.float .f64 n.toNat)) w := by
  rw [run_callFunc_extern (e := Extern.MathFloatBits.float64frombits) Tryz.func4 (by kernel_rfl) (by kernel_rfl) (by kernel_rfl) (by kernel_rfl)]
  rfl

theorem andNot_sign (v : Nat) (hv : v < 18446744073709551616) : (bits .andNot .u64 (v : Int) 9223372036854775808).toNat = v % 9223372036854775808 := by
  have h1 : (BitVec.ofInt 64 (v : Int)).toNat = v := by
    rw [BitVec.ofInt_natCast, BitVec.toNat_ofNat]; exact Nat.mod_eq_of_lt (by omega)
  have h2 : (~~~ (BitVec.ofInt 64 9223372036854775808)).toNat = 2 ^ 63 - 1 := by decide
  have h3 : bits .andNot .u64 (v : Int) 9223372036854775808 = IntKind.u64.wrap ((BitVec.ofInt 64 (v : Int) &&& ~~~ (BitVec.ofInt 64 9223372036854775808)).toNat : Int) := rfl
  rw [h3, BitVec.toNat_and, h1, h2, Nat.and_two_pow_sub_one_eq_mod, IntKind.wrap_u64]
  omega

set_option maxHeartbeats 1000000 in
theorem abs_any (v : Nat) (w : World) : Calls Tryz.prog 10 #[.float .f64 v] w fun e w' => e = .returned (.float .f64 (bits .andNot .u64 (v : Int) 9223372036854775808).toNat) ∧ w = w' := by
  have h1 := raw_bits_run
  have h2 := raw_frombits_run
  go_enter Tryz.func10, Tryz.ntmps10
  go_wp2_with fail
  go_ret
  exact ⟨rfl, rfl⟩

set_option maxHeartbeats 1000000 in
theorem nan_any (v : Nat) (w : World) : Calls Tryz.prog 5 #[.float .f64 v] w fun e w' => e = .returned (.bool (Ieee.double.order v v != some .eq)) ∧ w = w' := by
  go_enter Tryz.func5, Tryz.ntmps5
  go_wp2_with fail
  go_ret
  exact ⟨rfl, rfl⟩

set_option maxHeartbeats 1000000 in
theorem inf_any (v : Nat) (w : World) (hv : v < 18446744073709551616) : Calls Tryz.prog 6 #[.float .f64 v, .int .i64 0] w fun e w' => e = .returned (.bool (Ieee.double.order (v % 9223372036854775808) 9218868437227405311 == some .gt)) ∧ w = w' := by
  have ha := abs_any v w
  rw [andNot_sign v hv] at ha
  clear hv
  generalize v % 9223372036854775808 = r at ha
  go_enter Tryz.func6, Tryz.ntmps6
  go_wp2_with fail
  refine ha.mono ?_
  rintro en w2 ⟨rfl, rfl⟩
  clear ha
  go_wp2_with fail
  go_ret
  exact ⟨rfl, rfl⟩

theorem conv_new (w : World) (s : ByteArray) (L : List Nat) (hB : Bytes s L) (h1 : 1 ≤ L.length) (h2 : L.length ≤ 40) (hL : ∀ u ∈ L, 33 ≤ u ∧ u ≤ 126 ∧ u ≠ 92) :
    ∃ (cap : Nat) (w' : World), (convert 9 29 (.string s)).run Tryz.prog w = .ok (.slice (some ⟨w.heap.size, 0, none⟩) L.length cap) w' ∧ L.length ≤ cap ∧ Lies w' w.heap.size L.length L ∧ Below w.heap.size w w' := by
  have h := Lib.run_convert_string_bytes (P := Tryz.prog) w 9 29 5 s Tryz.underlying9 Tryz.underlying29 Tryz.underlying5
  have hc := grownCap_ge w s.size 0 5
  rw [hB.size] at h hc
  exact ⟨_, _, h, hc, lies_new w 5 s L hB h1 h2 hL, below_bytes w 5 s⟩

set_option maxHeartbeats 1000000 in
/-- The truth value's half of the law. -/
theorem bool_said (b : Bool) (w : World) (s : ByteArray) (hs : s = if b then ⟨#[116, 114, 117, 101]⟩ else ⟨#[102, 97, 108, 115, 101]⟩) :
    ∃ (n cap : Nat) (w1 : World), (convert 9 29 (.string s)).run Tryz.prog w = .ok (.slice (some ⟨w.heap.size, 0, none⟩) n cap) w1 ∧ Below w.heap.size w w1 ∧
      Calls Tryz.prog 9 #[.slice (some ⟨w.heap.size, 0, none⟩) n cap] w1 fun e w' => e = .returned (.tuple #[.bool b, .bool true]) ∧ Below w1.heap.size w1 w' := by
  cases b
  · have hs' : s = ⟨#[102, 97, 108, 115, 101]⟩ := hs
    subst hs'
    have hB : Bytes ⟨#[102, 97, 108, 115, 101]⟩ [102, 97, 108, 115, 101] := by
      have := bytes_nums [102, 97, 108, 115, 101] (by decide)
      rwa [show strOfNums (([102, 97, 108, 115, 101] : List Nat).map fun (n : Nat) => (n : Int)) = ⟨#[102, 97, 108, 115, 101]⟩ by decide +kernel] at this
    obtain ⟨cap, w1, h1, h2, h3, h4⟩ := conv_new w _ _ hB (by decide) (by decide) (by decide)
    refine ⟨5, cap, w1, h1, h4, ?_⟩
    exact jsbool_any w1 w.heap.size 5 cap 102 2 28 false _ h3 rfl (.inr (.inl ⟨rfl, rfl, rfl⟩)) (fun f w' hb => false_any w' w.heap.size cap f h2 (h3.below hb).cell) rfl
  · have hs' : s = ⟨#[116, 114, 117, 101]⟩ := hs
    subst hs'
    have hB : Bytes ⟨#[116, 114, 117, 101]⟩ [116, 114, 117, 101] := by
      have := bytes_nums [116, 114, 117, 101] (by decide)
      rwa [show strOfNums (([116, 114, 117, 101] : List Nat).map fun (n : Nat) => (n : Int)) = ⟨#[116, 114, 117, 101]⟩ by decide +kernel] at this
    obtain ⟨cap, w1, h1, h2, h3, h4⟩ := conv_new w _ _ hB (by decide) (by decide) (by decide)
    refine ⟨4, cap, w1, h1, h4, ?_⟩
    exact jsbool_any w1 w.heap.size 4 cap 116 3 27 true _ h3 rfl (.inl ⟨rfl, rfl, rfl⟩) (fun f w' hb => true_any w' w.heap.size cap f h2 (h3.below hb).cell) rfl

theorem numByte_range {u : Nat} (h : Fl.NumByte u) : 33 ≤ u ∧ u ≤ 126 ∧ u ≠ 92 := by unfold Fl.NumByte at h; omega

/-- The float's half of the law. -/
theorem float_said (v r bp op : Nat) (s : Bool) (w w1 : World) (L : List Nat) (hr : r < 9218868437227405312) (hv : v = Ieee.double.word s r) (ht : Consts bp op w) (hL : Fl.IsText r s L) (hb : Below w.heap.size w w1) :
    ∃ (n cap : Nat) (w2 : World), (convert 9 29 (.string (strOfNums (L.map fun (n : Nat) => (n : Int))))).run Tryz.prog w1 = .ok (.slice (some ⟨w1.heap.size, 0, none⟩) n cap) w2 ∧ Below w1.heap.size w1 w2 ∧
      Calls Tryz.prog 7 #[.slice (some ⟨w1.heap.size, 0, none⟩) n cap] w2 fun e w' => e = .returned (.tuple #[.int .u64 (v : Int), .bool true]) ∧ Below w2.heap.size w2 w' := by
  obtain ⟨h1, h2, u, hu, hu2⟩ := Fl.isText_bytes hL
  have hB := bytes_nums L (fun u hu => by have := numByte_range (h1 u hu); omega)
  have hl : 1 ≤ L.length := (List.getElem?_eq_some_iff.1 hu).1
  obtain ⟨cap, w2, h3, h4, h5, h6⟩ := conv_new w1 _ _ hB hl h2 (fun u hu => numByte_range (h1 u hu))
  refine ⟨_, cap, w2, h3, h6, ?_⟩
  rw [hv]
  exact jsfloat_any w2 w1.heap.size L.length cap r bp op s L h5 hL hr ((ht.below hb).below h6) h4 u hu hu2

set_option maxHeartbeats 4000000 in
theorem law_any (v bp op : Nat) (b : Bool) (w : World) (hv : v < 18446744073709551616) (ht : Consts bp op w) :
    Calls Tryz.prog 3 #[.int .u64 (v : Int), .bool b] w fun e w' => e = .returned (.bool true) ∧ Below w.heap.size w w' := by
  have h4 : ∀ w' : World, (callFunc 4 #[.int .u64 (v : Int)]).run Tryz.prog w' = .ok (.value (.float .f64 v)) w' := fun w' => raw_frombits_run (v : Int) w'
  have h5 := nan_any v w
  have h6 := inf_any v w hv
  cases hnan : (Ieee.double.order v v != some .eq) with
  | true =>
    rw [hnan] at h5
    clear h6 hnan ht hv
    go_enter Tryz.func3, Tryz.ntmps3
    go_wp2_with fail
    refine h5.mono ?_
    rintro en w2 ⟨rfl, rfl⟩
    clear h5
    go_wp2_with fail
    go_ret
    exact ⟨rfl, Below.refl _ _⟩
  | false =>
    rw [hnan] at h5
    cases hinf : (Ieee.double.order (v % 9223372036854775808) 9218868437227405311 == some .gt) with
    | true =>
      rw [hinf] at h6
      clear hnan hinf ht hv
      go_enter Tryz.func3, Tryz.ntmps3
      go_wp2_with fail
      refine h5.mono ?_
      rintro en w2 ⟨rfl, rfl⟩
      clear h5
      go_wp2_with fail
      refine h6.mono ?_
      rintro en w2 ⟨rfl, rfl⟩
      clear h6
      go_wp2_with fail
      go_ret
      exact ⟨rfl, Below.refl _ _⟩
    | false =>
      rw [hinf] at h6
      have hr := Fl.finite_of v hnan hinf
      have hw := Fl.word_of v hv
      generalize v % 9223372036854775808 = r at hr hw
      generalize decide (9223372036854775808 ≤ v) = s at hw
      have hf := format_any r v bp op s w hr ht hw
      have HSAID := Lib.hid (fun (w1 : World) (L : List Nat) (hL : Fl.IsText r s L) (hb : Below w.heap.size w w1) => float_said v r bp op s w w1 L hr hw ht hL hb)
      clear hnan hinf ht hv hr hw
      go_enter Tryz.func3, Tryz.ntmps3
      go_wp2_with fail
      refine h5.mono ?_
      rintro en w2 ⟨rfl, rfl⟩
      clear h5
      go_wp2_with fail
      refine h6.mono ?_
      rintro en w2 ⟨rfl, rfl⟩
      clear h6
      go_wp2_with fail
      refine hf.mono ?_
      rintro en w1 ⟨L, hL, rfl, hb1⟩
      obtain ⟨n, cap, w2, hcv, hb2, hj⟩ := HSAID.out w1 L hL hb1
      have hb := hb1.trans (hb2.mono hb1.size)
      clear HSAID hf hL hb1 hb2
      generalize strOfNums (L.map fun (n : Nat) => (n : Int)) = t at hcv
      go_wp2_with fail
      refine hj.mono ?_
      rintro en w3 ⟨rfl, hb3⟩
      have hb' := hb.trans (hb3.mono hb.size)
      clear hj hcv hb hb3
      have HB := Lib.hid hb'
      clear hb'
      cases b
      · obtain ⟨n', cap', w4, hcv, hb4, hj⟩ := bool_said false w3 _ rfl
        simp only [Bool.false_eq_true, if_false] at hcv
        have HB4 := Lib.hid hb4
        clear hb4
        go_wp2_with fail
        refine hj.mono ?_
        rintro en w5 ⟨rfl, hb5⟩
        have HB5 := Lib.hid hb5
        clear hb5 hj hcv
        go_wp2_with fail
        go_ret
        have hb := HB.out.trans (HB4.out.mono HB.out.size)
        exact ⟨rfl, hb.trans (HB5.out.mono hb.size)⟩
      · obtain ⟨n', cap', w4, hcv, hb4, hj⟩ := bool_said true w3 _ rfl
        simp only [if_true] at hcv
        have HB4 := Lib.hid hb4
        clear hb4
        go_wp2_with fail
        refine hj.mono ?_
        rintro en w5 ⟨rfl, hb5⟩
        have HB5 := Lib.hid hb5
        clear hb5 hj hcv
        go_wp2_with fail
        go_ret
        have hb := HB.out.trans (HB4.out.mono HB.out.size)
        exact ⟨rfl, hb.trans (HB5.out.mono hb.size)⟩

end Go.Proofs.YtfemnjgcodcfkaaGreatDoor
