/-
  The walk of shortFloat.
-/
import Derived.Test.YtfemnjgcodcfkaaGreatDoorPrescale
import Derived.Outline
namespace Go.Proofs.YtfemnjgcodcfkaaGreatDoor
open Go.RowKit

theorem nudge_at (u d : Int) (w : World) (h1 : 0 ≤ u) (h2 : u ≤ 4611686018427387904) (h3 : -1 ≤ d) (h4 : d ≤ 1) (h5 : 0 ≤ u + d) :
    Calls Tryz.prog 84 #[.int .u64 u, .int .i64 d] w fun e w' => e = .returned (.int .u64 (u + d)) ∧ w = w' := by
  have hw : IntKind.u64.wrap (u + IntKind.u64.wrap d) = u + d := by
    simp only [IntKind.wrap_u64]; omega
  go_enter Tryz.func84, Tryz.ntmps84
  go_wp2
  go_ret
  exact ⟨rfl, rfl⟩

theorem uscale_at (xi : Int) (x hi lo s : Nat) (b : Nat) (w : World) (hx : xi = (x : Int)) (h1 : x < 18446744073709551616) (h2 : hi < 18446744073709551616) (h3 : lo < 18446744073709551616) (h4 : s < 64) (hle : lo ≤ hi * Fl.R64)
    (c0 : w.cell? ⟨b, 0, none⟩ = some (.int .u64 hi)) (c1 : w.cell? ⟨b, 1, none⟩ = some (.int .u64 lo)) (c2 : w.cell? ⟨b, 2, none⟩ = some (.int .i64 s)) :
    Calls Tryz.prog 83 #[.int .u64 xi, .pointer (some ⟨b, 0, none⟩)] w fun e w' => e = .returned (.int .u64 ((Fl.us x (hi * Fl.R64 - lo) s : Nat) : Int)) ∧ ∃ n, w' = w.drewN n := by
  subst hx
  exact uscale_any x hi lo s b w h1 h2 h3 h4 hle c0 c1 c2

/-- The row of the table for p, as it lies in the program's memory. -/
def TabRow (w : World) (p : Int) : Prop :=
  w.cell? ⟨7, (p + 348).toNat * 2, none⟩ = some (.int .u64 (Fl.hiOf p : Nat)) ∧ w.cell? ⟨7, (p + 348).toNat * 2 + 1, none⟩ = some (.int .u64 (Fl.loOf p : Nat))

theorem cell_new (w : World) (xs : Array Value) (T : TypeId) (i : Nat) (v : Value) (h : xs[i]? = some v) : (w.alloc (.cells xs T)).cell? ⟨w.heap.size, i, none⟩ = some v := by
  rw [World.cell?_alloc_new]; exact h

theorem cell_old {w : World} {o : Obj} {p : Addr} {v : Value} (h : w.cell? p = some v) : (w.alloc o).cell? p = some v := by
  have hlt : p.block < w.heap.size := by
    unfold World.cell? at h
    rcases Nat.lt_or_ge p.block w.heap.size with h1 | h1
    · exact h1
    · simp [Array.getElem?_eq_none h1] at h
  have := ((Below.refl w.heap.size w).alloc (Nat.le_refl _) o).cell hlt
  rw [this, h]

theorem TabRow.alloc {w : World} {p : Int} (h : TabRow w p) (o : Obj) : TabRow (w.alloc o) p := ⟨cell_old h.1, cell_old h.2⟩

/-- What a scaler's block holds. -/
def IsScaler (w : World) (b : Nat) (p : Int) (S : Nat) : Prop :=
  w.cell? ⟨b, 0, none⟩ = some (.int .u64 (Fl.hiOf p : Nat)) ∧ w.cell? ⟨b, 1, none⟩ = some (.int .u64 (Fl.loOf p : Nat)) ∧ w.cell? ⟨b, 2, none⟩ = some (.int .i64 S)

theorem IsScaler.drewN {w : World} {b : Nat} {p : Int} {S : Nat} (h : IsScaler w b p S) (n : Nat) : IsScaler (w.drewN n) b p S :=
  ⟨by simpa using h.1, by simpa using h.2.1, by simpa using h.2.2⟩

theorem prescale_new (T : TypeId) (e p lp : Int) (S : Nat) (w : World) (h1 : -348 ≤ p) (h2 : p ≤ 347) (he1 : -3000 ≤ e) (he2 : e ≤ 3000) (hl1 : -3000 ≤ lp) (hl2 : lp ≤ 3000) (ht : TabRow w p) (hS : (S : Int) = -(e + lp + 3)) :
    Calls Tryz.prog 81 #[.pointer (some ⟨w.heap.size, 0, none⟩), .int .i64 e, .int .i64 p, .int .i64 lp] (w.alloc (.cells #[.int .u64 0, .int .u64 0, .int .i64 0] T)) fun en w' => en = .returned (.tuple #[]) ∧
      Below w.heap.size w w' ∧ IsScaler w' w.heap.size p S := by
  have ht' := ht.alloc (.cells #[.int .u64 0, .int .u64 0, .int .i64 0] T)
  refine (prescale_any w.heap.size e p lp _ _ (.int .u64 0) (.int .u64 0) (.int .i64 0) _ h1 h2 he1 he2 hl1 hl2 (cell_new _ _ _ _ _ rfl) (cell_new _ _ _ _ _ rfl) (cell_new _ _ _ _ _ rfl) ?_ ?_ ?_ ht'.1 ht'.2).mono ?_
  · exact World.frozen?_alloc_new _ _ _ _
  · exact World.frozen?_alloc_new _ _ _ _
  · exact World.frozen?_alloc_new _ _ _ _
  rintro en w' ⟨rfl, rfl⟩
  rw [← hS]
  refine ⟨rfl, ?_, ?_, ?_, ?_⟩
  · exact ((((Below.refl _ _).alloc (Nat.le_refl _) _).setCell (Nat.le_refl _) _).setCell (Nat.le_refl _) _).setCell (Nat.le_refl _) _
  all_goals
    rw [World.setCell_alloc_at _ _ _ _ _ rfl, World.setCell_alloc_at _ _ _ _ _ rfl, World.setCell_alloc_at _ _ _ _ _ rfl, World.cell?_alloc_new]
    rfl

theorem uscale_is (xi : Int) (x u S : Nat) (b : Nat) (p : Int) (w : World) (hx : xi = (x : Int)) (h1 : x < 18446744073709551616) (h4 : S < 64) (hT : Fl.Tab p) (hu : u = Fl.us x (Fl.tabOf p) S) (hsc : IsScaler w b p S) :
    Calls Tryz.prog 83 #[.int .u64 xi, .pointer (some ⟨b, 0, none⟩)] w fun e w' => e = .returned (.int .u64 u) ∧ ∃ n, w' = w.drewN n := by
  have h64 : (2 : Nat) ^ 64 = 18446744073709551616 := by decide
  have hR : Fl.R64 = 2 ^ 64 := Fl.R64_eq
  have hhi := hT.hi
  have hlo := hT.lo
  rw [h64] at hhi hlo
  have hle : Fl.loOf p ≤ Fl.hiOf p * Fl.R64 := by rw [hR]; exact hT.le
  have he : Fl.tabOf p = Fl.hiOf p * Fl.R64 - Fl.loOf p := by rw [hR]; rfl
  rw [hu, he]
  exact uscale_at xi x _ _ S b w hx h1 hhi hlo h4 hle hsc.1 hsc.2.1 hsc.2.2

theorem nudge_is (u d : Int) (v : Nat) (w : World) (h1 : 0 ≤ u) (h2 : u ≤ 4611686018427387904) (h3 : -1 ≤ d) (h4 : d ≤ 1) (h5 : u + d = v) :
    Calls Tryz.prog 84 #[.int .u64 u, .int .i64 d] w fun e w' => e = .returned (.int .u64 v) ∧ w = w' := by
  have := nudge_at u d w h1 h2 h3 h4 (by omega)
  rwa [h5] at this

theorem ceil_is (u D : Nat) (w : World) (h2 : u ≤ 4611686018427387905) (hD : D = (u + 3) / 4) :
    Calls Tryz.prog 85 #[.int .u64 u] w fun e w' => e = .returned (.int .u64 D) ∧ w = w' := by
  subst hD
  go_enter Tryz.func85, Tryz.ntmps85
  go_wp2
  go_ret
  exact ⟨rfl, rfl⟩

theorem floor_is (u D : Nat) (w : World) (h2 : u ≤ 4611686018427387905) (hD : D = u / 4) :
    Calls Tryz.prog 86 #[.int .u64 u] w fun e w' => e = .returned (.int .u64 D) ∧ w = w' := by
  subst hD
  go_enter Tryz.func86, Tryz.ntmps86
  go_wp2
  go_ret
  exact ⟨rfl, rfl⟩

/-- What is known of the three numbers. -/
structure Three (p : Int) (S : Nat) (xmin xm xmax odd umin um umax dmin dmax : Nat) : Prop where
  x1 : xmin < 18446744073709551616
  x2 : xm < 18446744073709551616
  x3 : xmax < 18446744073709551616
  u1 : umin = Fl.us xmin (Fl.tabOf p) S
  u2 : um = Fl.us xm (Fl.tabOf p) S
  u3 : umax = Fl.us xmax (Fl.tabOf p) S
  b1 : umin ≤ 4611686018427387904
  b2 : um ≤ 4611686018427387904
  b3 : umax ≤ 4611686018427387904
  o1 : odd ≤ 1
  o2 : odd ≤ umax
  d1 : dmin = (umin + odd + 3) / 4
  d2 : dmax = (umax - odd) / 4

def selD (p : Int) (dmin dmax um : Nat) : Nat × Int :=
  if dmin ≤ dmax / 10 * 10 then (dmax / 10, -(p - 1)) else if dmin < dmax then (Fl.rnd um, -p) else (dmin, -p)

theorem Three.sel {p : Int} {S xmin xm xmax odd umin um umax dmin dmax : Nat} (h : Three p S xmin xm xmax odd umin um umax dmin dmax) : selD p dmin dmax um = Fl.sel p umin um umax odd := by
  unfold selD Fl.sel; rw [h.d1, h.d2]

/-- The outcome of shortFloat, as its caller sees it. -/
def ShortOut (x : Nat × Int) (w : World) (e : Ending) (w' : World) : Prop := e = .returned (.tuple #[.int .u64 (x.1 : Nat), .int .i64 x.2]) ∧ Below w.heap.size w w'

theorem shortOut_mk {x : Nat × Int} {w w' : World} {a b : Int} (ha : a = (x.1 : Nat)) (hb : b = x.2) (h : Below w.heap.size w w') : ShortOut x w (.returned (.tuple #[.int .u64 a, .int .i64 b])) w' := by
  subst ha; subst hb; exact ⟨rfl, h⟩

set_option maxHeartbeats 1000000 in
theorem short_a (e p : Int) (S umin um umax dmin dmax : Nat) (w : World) (he1 : -1085 < e) (he2 : e ≤ 1000) (hp : Fl.skw (e + 11) = -p) (hp1 : -348 ≤ p) (hp2 : p ≤ 347) (hS : (S : Int) = -(e + Fl.l2 p + 3)) (hS2 : S < 64) (ht : TabRow w p)
    (hT : Fl.Tab p) (hl1 : -3000 ≤ Fl.l2 p) (hl2 : Fl.l2 p ≤ 3000) (h3 : Three p S 9223372036854775296 9223372036854775808 9223372036854776832 0 umin um umax dmin dmax) :
    Calls Tryz.prog 53 #[.int .u64 9223372036854775808, .int .i64 e] w (ShortOut (selD p dmin dmax um) w) := by
  have HP := Lib.hid hp
  have HS := Lib.hid hS
  have HT := Lib.hid ht
  have H3 := Lib.hid h3
  have b1 := h3.b1
  have b2 := h3.b2
  have b3 := h3.b3
  have bd1 : dmin ≤ 1152921504606846976 + 1 := by have := h3.d1; omega
  have bd2 : dmax ≤ 1152921504606846976 + 1 := by have := h3.d2; omega
  clear hp hS ht h3
  have hbits : bits BinOp.and IntKind.i64 4503599627370496 1 = 0 := by kernel_rfl
  go_enter Tryz.func53, Tryz.ntmps53
  go_wp2_with fail
  refine (skewed_any (e + 11) w (by omega) (by omega)).mono ?_
  rintro en w1 ⟨rfl, rfl⟩
  rw [HP.out]
  go_wp2_with (go_at_call 82; refine (log2_any p _ (by omega) (by omega)).mono ?_; rintro en w1 ⟨rfl, rfl⟩)
  refine (prescale_new _ e p _ S w hp1 hp2 (by omega) (by omega) hl1 hl2 HT.out HS.out).mono ?_
  rintro en w2 ⟨rfl, hb2, hsc⟩
  go_wp2_with fail
  refine (uscale_is _ 9223372036854775296 umin S _ p _ rfl H3.out.x1 hS2 hT H3.out.u1 hsc).mono ?_
  rintro en w3 ⟨rfl, n3, rfl⟩
  go_wp2_with fail
  refine (nudge_is umin _ umin _ (by omega) (by omega) (by omega) (by omega) (by omega)).mono ?_
  rintro en w4 ⟨rfl, rfl⟩
  go_wp2_with fail
  refine (ceil_is umin dmin _ (by omega) H3.out.d1).mono ?_
  rintro en w4 ⟨rfl, rfl⟩
  go_wp2_with fail
  refine (uscale_is _ 9223372036854776832 umax S _ p _ rfl H3.out.x3 hS2 hT H3.out.u3 (hsc.drewN _)).mono ?_
  rintro en w3 ⟨rfl, n4, rfl⟩
  go_wp2_with fail
  refine (nudge_is umax _ umax _ (by omega) (by omega) (by omega) (by omega) (by omega)).mono ?_
  rintro en w4 ⟨rfl, rfl⟩
  go_wp2_with fail
  refine (floor_is umax dmax _ (by omega) H3.out.d2).mono ?_
  rintro en w4 ⟨rfl, rfl⟩
  by_cases g1 : dmin ≤ dmax / 10 * 10
  · have hsel : selD p dmin dmax um = (dmax / 10, -(p - 1)) := by unfold selD; rw [if_pos g1]
    have HSel := Lib.hid hsel
    clear hsel
    go_wp2_with fail
    go_ret2
    rw [HSel.out]
    exact shortOut_mk (by show _ = ((dmax / 10 : Nat) : Int); omega) rfl (below_drewN hb2 _)
  · by_cases g2 : dmin < dmax
    · have hsel : selD p dmin dmax um = (Fl.rnd um, -p) := by unfold selD; rw [if_neg g1, if_pos g2]
      have HSel := Lib.hid hsel
      clear hsel
      go_wp2_with fail
      refine (uscale_is _ 9223372036854775808 um S _ p _ rfl H3.out.x2 hS2 hT H3.out.u2 (hsc.drewN _)).mono ?_
      rintro en w3 ⟨rfl, n5, rfl⟩
      go_wp2_with fail
      refine (round_any um _ b2).mono ?_
      rintro en w4 ⟨rfl, rfl⟩
      go_wp2_with fail
      go_ret2
      rw [HSel.out]
      exact shortOut_mk rfl rfl (below_drewN hb2 _)
    · have hsel : selD p dmin dmax um = (dmin, -p) := by unfold selD; rw [if_neg g1, if_neg g2]
      have HSel := Lib.hid hsel
      clear hsel
      go_wp2_with fail
      go_ret2
      rw [HSel.out]
      exact shortOut_mk rfl rfl (below_drewN hb2 _)

end Go.Proofs.YtfemnjgcodcfkaaGreatDoor
