/-
  The walk of shortFloat: the two branches of an even interval.
-/
import Derived.Test.YtfemnjgcodcfkaaGreatDoorShortWalk
namespace Go.Proofs.YtfemnjgcodcfkaaGreatDoor
open Go.RowKit

set_option maxHeartbeats 1000000 in
theorem short_b (m : Nat) (e p : Int) (S xmin xmax odd umin um umax dmin dmax : Nat) (w : World) (hm1 : 9223372036854775808 ≤ m) (hm2 : m ≤ 18446744073709549568) (hne : ((m : Int) == 9223372036854775808) = false)
    (he1 : -1085 ≤ e) (he2 : e ≤ 1000) (hp : Fl.l10 (e + 11) = -p) (hp1 : -348 ≤ p) (hp2 : p ≤ 347) (hS : (S : Int) = -(e + Fl.l2 p + 3)) (hS2 : S < 64) (ht : TabRow w p)
    (hT : Fl.Tab p) (hl1 : -3000 ≤ Fl.l2 p) (hl2 : Fl.l2 p ≤ 3000) (h3 : Three p S xmin m xmax odd umin um umax dmin dmax)
    (hmin : (m : Int) - 1024 = xmin) (hmax : (m : Int) + 1024 = xmax) (hodd : bits BinOp.and IntKind.i64 ((m : Int) / 2048) 1 = (odd : Int)) :
    Calls Tryz.prog 53 #[.int .u64 m, .int .i64 e] w (ShortOut (selD p dmin dmax um) w) := by
  have HP := Lib.hid hp
  have HS := Lib.hid hS
  have HT := Lib.hid ht
  have H3 := Lib.hid h3
  have HMin := Lib.hid hmin
  have HMax := Lib.hid hmax
  have b1 := h3.b1
  have b2 := h3.b2
  have b3 := h3.b3
  have o1 := h3.o1
  have o2 := h3.o2
  have bd1 : dmin ≤ 1152921504606846976 + 2 := by have := h3.d1; omega
  have bd2 : dmax ≤ 1152921504606846976 + 2 := by have := h3.d2; omega
  clear hp hS ht h3 hmin hmax
  go_enter Tryz.func53, Tryz.ntmps53
  go_wp2_with fail
  refine (log10_any (e + 11) w (by omega) (by omega)).mono ?_
  rintro en w1 ⟨rfl, rfl⟩
  rw [HP.out]
  go_wp2_with (go_at_call 82; refine (log2_any p _ (by omega) (by omega)).mono ?_; rintro en w1 ⟨rfl, rfl⟩)
  refine (prescale_new _ e p _ S w hp1 hp2 (by omega) (by omega) hl1 hl2 HT.out HS.out).mono ?_
  rintro en w2 ⟨rfl, hb2, hsc⟩
  go_wp2_with fail
  refine (uscale_is _ xmin umin S _ p _ HMin.out H3.out.x1 hS2 hT H3.out.u1 hsc).mono ?_
  rintro en w3 ⟨rfl, n3, rfl⟩
  go_wp2_with fail
  refine (nudge_is umin _ (umin + odd) _ (by omega) (by omega) (by omega) (by omega) (by omega)).mono ?_
  rintro en w4 ⟨rfl, rfl⟩
  go_wp2_with fail
  refine (ceil_is (umin + odd) dmin _ (by omega) H3.out.d1).mono ?_
  rintro en w4 ⟨rfl, rfl⟩
  go_wp2_with fail
  refine (uscale_is _ xmax umax S _ p _ HMax.out H3.out.x3 hS2 hT H3.out.u3 (hsc.drewN _)).mono ?_
  rintro en w3 ⟨rfl, n4, rfl⟩
  go_wp2_with fail
  refine (nudge_is umax _ (umax - odd) _ (by omega) (by omega) (by omega) (by omega) (by omega)).mono ?_
  rintro en w4 ⟨rfl, rfl⟩
  go_wp2_with fail
  refine (floor_is (umax - odd) dmax _ (by omega) H3.out.d2).mono ?_
  rintro en w4 ⟨rfl, rfl⟩
  by_cases g1 : dmin ≤ dmax / 10 * 10
  · have hsel : selD p dmin dmax um = (dmax / 10, -(p - 1)) := by unfold selD; rw [if_pos g1]
    have HSel := Lib.hid hsel
    clear hsel
    go_wp2_with fail
    go_ret2
    rw [HSel.out]
    exact shortOut_mk (by show _ = ((dmax / 10 : Nat) : Int); omega) rfl (below_drewN hb2 _)
  · by_cases g2 : dmin < dmax
    · have hsel : selD p dmin dmax um = (Fl.rnd um, -p) := by unfold selD; rw [if_neg g1, if_pos g2]
      have HSel := Lib.hid hsel
      clear hsel
      go_wp2_with fail
      refine (uscale_is _ m um S _ p _ rfl H3.out.x2 hS2 hT H3.out.u2 (hsc.drewN _)).mono ?_
      rintro en w3 ⟨rfl, n5, rfl⟩
      go_wp2_with fail
      refine (round_any um _ b2).mono ?_
      rintro en w4 ⟨rfl, rfl⟩
      go_wp2_with fail
      go_ret2
      rw [HSel.out]
      exact shortOut_mk rfl rfl (below_drewN hb2 _)
    · have hsel : selD p dmin dmax um = (dmin, -p) := by unfold selD; rw [if_neg g1, if_neg g2]
      have HSel := Lib.hid hsel
      clear hsel
      go_wp2_with fail
      go_ret2
      rw [HSel.out]
      exact shortOut_mk rfl rfl (below_drewN hb2 _)

set_option maxHeartbeats 2000000 in
theorem short_b2 (m : Nat) (b : Bool) (e p : Int) (S xmin xmax odd umin um umax dmin dmax : Nat) (w : World) (hm1 : 9223372036854775808 ≤ m) (hm2 : m ≤ 18446744073709549568) (hb : ((m : Int) == 9223372036854775808) = b)
    (he1 : -1085 ≤ e) (he2 : e ≤ 1000) (hgt : decide (-1085 < e) = false) (hp : Fl.l10 (e + 11) = -p) (hp1 : -348 ≤ p) (hp2 : p ≤ 347) (hS : (S : Int) = -(e + Fl.l2 p + 3)) (hS2 : S < 64) (ht : TabRow w p)
    (hT : Fl.Tab p) (hl1 : -3000 ≤ Fl.l2 p) (hl2 : Fl.l2 p ≤ 3000) (h3 : Three p S xmin m xmax odd umin um umax dmin dmax)
    (hmin : (m : Int) - 1024 = xmin) (hmax : (m : Int) + 1024 = xmax) (hodd : bits BinOp.and IntKind.i64 ((m : Int) / 2048) 1 = (odd : Int)) :
    Calls Tryz.prog 53 #[.int .u64 m, .int .i64 e] w (ShortOut (selD p dmin dmax um) w) := by
  have HP := Lib.hid hp
  have HS := Lib.hid hS
  have HT := Lib.hid ht
  have H3 := Lib.hid h3
  have HMin := Lib.hid hmin
  have HMax := Lib.hid hmax
  have b1 := h3.b1
  have b2 := h3.b2
  have b3 := h3.b3
  have o1 := h3.o1
  have o2 := h3.o2
  have bd1 : dmin ≤ 1152921504606846976 + 2 := by have := h3.d1; omega
  have bd2 : dmax ≤ 1152921504606846976 + 2 := by have := h3.d2; omega
  clear hp hS ht h3 hmin hmax
  go_enter Tryz.func53, Tryz.ntmps53
  go_wp2_with fail
  all_goals
    refine (log10_any (e + 11) w (by omega) (by omega)).mono ?_
    rintro en w1 ⟨rfl, rfl⟩
    rw [HP.out]
    go_wp2_with (go_at_call 82; refine (log2_any p _ (by omega) (by omega)).mono ?_; rintro en w1 ⟨rfl, rfl⟩)
    refine (prescale_new _ e p _ S w hp1 hp2 (by omega) (by omega) hl1 hl2 HT.out HS.out).mono ?_
    rintro en w2 ⟨rfl, hb2, hsc⟩
    go_wp2_with fail
    refine (uscale_is _ xmin umin S _ p _ HMin.out H3.out.x1 hS2 hT H3.out.u1 hsc).mono ?_
    rintro en w3 ⟨rfl, n3, rfl⟩
    go_wp2_with fail
    refine (nudge_is umin _ (umin + odd) _ (by omega) (by omega) (by omega) (by omega) (by omega)).mono ?_
    rintro en w4 ⟨rfl, rfl⟩
    go_wp2_with fail
    refine (ceil_is (umin + odd) dmin _ (by omega) H3.out.d1).mono ?_
    rintro en w4 ⟨rfl, rfl⟩
    go_wp2_with fail
    refine (uscale_is _ xmax umax S _ p _ HMax.out H3.out.x3 hS2 hT H3.out.u3 (hsc.drewN _)).mono ?_
    rintro en w3 ⟨rfl, n4, rfl⟩
    go_wp2_with fail
    refine (nudge_is umax _ (umax - odd) _ (by omega) (by omega) (by omega) (by omega) (by omega)).mono ?_
    rintro en w4 ⟨rfl, rfl⟩
    go_wp2_with fail
    refine (floor_is (umax - odd) dmax _ (by omega) H3.out.d2).mono ?_
    rintro en w4 ⟨rfl, rfl⟩
    by_cases g1 : dmin ≤ dmax / 10 * 10
    · have hsel : selD p dmin dmax um = (dmax / 10, -(p - 1)) := by unfold selD; rw [if_pos g1]
      have HSel := Lib.hid hsel
      clear hsel
      go_wp2_with fail
      go_ret2
      rw [HSel.out]
      exact shortOut_mk (by show _ = ((dmax / 10 : Nat) : Int); omega) rfl (below_drewN hb2 _)
    · by_cases g2 : dmin < dmax
      · have hsel : selD p dmin dmax um = (Fl.rnd um, -p) := by unfold selD; rw [if_neg g1, if_pos g2]
        have HSel := Lib.hid hsel
        clear hsel
        go_wp2_with fail
        refine (uscale_is _ m um S _ p _ rfl H3.out.x2 hS2 hT H3.out.u2 (hsc.drewN _)).mono ?_
        rintro en w3 ⟨rfl, n5, rfl⟩
        go_wp2_with fail
        refine (round_any um _ b2).mono ?_
        rintro en w4 ⟨rfl, rfl⟩
        go_wp2_with fail
        go_ret2
        rw [HSel.out]
        exact shortOut_mk rfl rfl (below_drewN hb2 _)
      · have hsel : selD p dmin dmax um = (dmin, -p) := by unfold selD; rw [if_neg g1, if_neg g2]
        have HSel := Lib.hid hsel
        clear hsel
        go_wp2_with fail
        go_ret2
        rw [HSel.out]
        exact shortOut_mk rfl rfl (below_drewN hb2 _)

set_option maxHeartbeats 2000000 in
theorem short_c (m k g q : Nat) (b : Bool) (e p : Int) (S xmin xmax odd umin um umax dmin dmax : Nat) (w : World) (hm1 : 9223372036854775808 ≤ m) (hb : ((m : Int) == 9223372036854775808) = b)
    (he1 : e < -1085) (he2 : -1200 ≤ e) (hk : -1085 - e = (k : Int)) (hk2 : k ≤ 52) (hp : Fl.l10 (e + (11 + (k : Int))) = -p) (hp1 : -348 ≤ p) (hp2 : p ≤ 347) (hS : (S : Int) = -(e + Fl.l2 p + 3)) (hS2 : S < 64) (ht : TabRow w p)
    (hT : Fl.Tab p) (hl1 : -3000 ≤ Fl.l2 p) (hl2 : Fl.l2 p ≤ 3000) (h3 : Three p S xmin m xmax odd umin um umax dmin dmax)
    (hg : IntKind.u64.wrap (2 ^ (10 + k)) = (g : Int)) (hg2 : g ≤ 4611686018427387904) (hmg : m + g < 18446744073709551616) (hq : (m : Int) / 2 ^ (11 + k) = q) (hq2 : q ≤ 9007199254740992) (hodd : bits .and .i64 (q : Int) 1 = (odd : Int))
    (hmin : (m : Int) - g = xmin) (hmax : (m : Int) + g = xmax) :
    Calls Tryz.prog 53 #[.int .u64 m, .int .i64 e] w (ShortOut (selD p dmin dmax um) w) := by
  have HP := Lib.hid hp
  have HS := Lib.hid hS
  have HT := Lib.hid ht
  have H3 := Lib.hid h3
  have HMin := Lib.hid hmin
  have HMax := Lib.hid hmax
  have b1 := h3.b1
  have b2 := h3.b2
  have b3 := h3.b3
  have o1 := h3.o1
  have o2 := h3.o2
  have bd1 : dmin ≤ 1152921504606846976 + 2 := by have := h3.d1; omega
  have bd2 : dmax ≤ 1152921504606846976 + 2 := by have := h3.d2; omega
  clear hp hS ht h3 hmin hmax
  have hgt : decide (-1085 < e) = false := by simp; omega
  go_enter Tryz.func53, Tryz.ntmps53
  go_wp2_with fail
  all_goals
    refine (log10_any (e + (11 + (k : Int))) w (by omega) (by omega)).mono ?_
    rintro en w1 ⟨rfl, rfl⟩
    rw [HP.out]
    go_wp2_with (go_at_call 82; refine (log2_any p _ (by omega) (by omega)).mono ?_; rintro en w1 ⟨rfl, rfl⟩)
    refine (prescale_new _ e p _ S w hp1 hp2 (by omega) (by omega) hl1 hl2 HT.out HS.out).mono ?_
    rintro en w2 ⟨rfl, hb2, hsc⟩
    go_wp2_with fail
    refine (uscale_is _ xmin umin S _ p _ HMin.out H3.out.x1 hS2 hT H3.out.u1 hsc).mono ?_
    rintro en w3 ⟨rfl, n3, rfl⟩
    go_wp2_with fail
    refine (nudge_is umin _ (umin + odd) _ (by omega) (by omega) (by omega) (by omega) (by omega)).mono ?_
    rintro en w4 ⟨rfl, rfl⟩
    go_wp2_with fail
    refine (ceil_is (umin + odd) dmin _ (by omega) H3.out.d1).mono ?_
    rintro en w4 ⟨rfl, rfl⟩
    go_wp2_with fail
    refine (uscale_is _ xmax umax S _ p _ HMax.out H3.out.x3 hS2 hT H3.out.u3 (hsc.drewN _)).mono ?_
    rintro en w3 ⟨rfl, n4, rfl⟩
    go_wp2_with fail
    refine (nudge_is umax _ (umax - odd) _ (by omega) (by omega) (by omega) (by omega) (by omega)).mono ?_
    rintro en w4 ⟨rfl, rfl⟩
    go_wp2_with fail
    refine (floor_is (umax - odd) dmax _ (by omega) H3.out.d2).mono ?_
    rintro en w4 ⟨rfl, rfl⟩
    by_cases g1 : dmin ≤ dmax / 10 * 10
    · have hsel : selD p dmin dmax um = (dmax / 10, -(p - 1)) := by unfold selD; rw [if_pos g1]
      have HSel := Lib.hid hsel
      clear hsel
      go_wp2_with fail
      go_ret2
      rw [HSel.out]
      exact shortOut_mk (by show _ = ((dmax / 10 : Nat) : Int); omega) rfl (below_drewN hb2 _)
    · by_cases g2 : dmin < dmax
      · have hsel : selD p dmin dmax um = (Fl.rnd um, -p) := by unfold selD; rw [if_neg g1, if_pos g2]
        have HSel := Lib.hid hsel
        clear hsel
        go_wp2_with fail
        refine (uscale_is _ m um S _ p _ rfl H3.out.x2 hS2 hT H3.out.u2 (hsc.drewN _)).mono ?_
        rintro en w3 ⟨rfl, n5, rfl⟩
        go_wp2_with fail
        refine (round_any um _ b2).mono ?_
        rintro en w4 ⟨rfl, rfl⟩
        go_wp2_with fail
        go_ret2
        rw [HSel.out]
        exact shortOut_mk rfl rfl (below_drewN hb2 _)
      · have hsel : selD p dmin dmax um = (dmin, -p) := by unfold selD; rw [if_neg g1, if_neg g2]
        have HSel := Lib.hid hsel
        clear hsel
        go_wp2_with fail
        go_ret2
        rw [HSel.out]
        exact shortOut_mk rfl rfl (below_drewN hb2 _)

end Go.Proofs.YtfemnjgcodcfkaaGreatDoor
