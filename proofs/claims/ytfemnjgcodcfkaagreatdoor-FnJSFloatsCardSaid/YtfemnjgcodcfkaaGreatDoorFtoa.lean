/- The walk of ftoa64 in the shortest form. -/
import Derived.Test.YtfemnjgcodcfkaaGreatDoorTextAny
import Derived.Test.YtfemnjgcodcfkaaGreatDoorShortAny
import Derived.Test.YtfemnjgcodcfkaaGreatDoorParseWalk
import Derived.Test.YtfemnjgcodcfkaaGreatDoorExactAny
import Derived.Deep.RegionWith

namespace Go.Proofs.YtfemnjgcodcfkaaGreatDoor
open Go.RowKit

/-- What the program's memory holds from the start on. -/
structure Consts (bp op : Nat) (w : World) : Prop where
  tab : TabAll w
  pow : Lib.TabIs Tryz.prog w "internal/strconv.uint64pow10" .u64 Lib.pow10Tab
  powers : Powers w bp op
  opt : w.cell? ⟨1, 0, none⟩ = some (.bool true)

theorem cell_below {w w' : World} {p : Addr} {v : Value} (hb : Below w.heap.size w w') (h : w.cell? p = some v) : w'.cell? p = some v :=
  (hb.cell (World.block_lt_of_cell? w p h)).trans h

theorem tabIs_below {w w' : World} (h : Lib.TabIs Tryz.prog w "internal/strconv.uint64pow10" .u64 Lib.pow10Tab) (hb : Below w.heap.size w w') : Lib.TabIs Tryz.prog w' "internal/strconv.uint64pow10" .u64 Lib.pow10Tab := by
  have hg : Tryz.prog.globalNamed "internal/strconv.uint64pow10" = some 3 := by kernel_rfl
  unfold Lib.TabIs World.var? at *
  simp only [hg, Option.bind_some] at h ⊢
  have hlt : 3 < w.heap.size := by
    rcases Nat.lt_or_ge 3 w.heap.size with h' | h'
    · exact h'
    · rw [Array.getElem?_eq_none h'] at h; simp at h
  rw [hb.block 3 hlt]
  exact h

theorem Consts.below {bp op : Nat} {w w' : World} (h : Consts bp op w) (hb : Below w.heap.size w w') : Consts bp op w' :=
  ⟨fun p h1 h2 => ⟨cell_below hb (h.tab p h1 h2).1, cell_below hb (h.tab p h1 h2).2⟩, tabIs_below h.pow hb,
    ⟨cell_below hb h.powers.m52, cell_below hb h.powers.head, fun i hi => cell_below hb (h.powers.cells i hi)⟩, cell_below hb h.opt⟩

def zeros32 : Array Value := Array.replicate 32 (.int .u8 0)

theorem holds_zeros (w : World) (n : Nat) (hn : n ≤ 32) : Sort.Holds encB (w.alloc (.cells zeros32 84)) w.heap.size 0 (Array.replicate n (0 : UInt8)) := fun j hj => by
  have hj' : j < n := by simpa using hj
  refine ⟨?_, World.frozen?_alloc_new _ _ _ _⟩
  rw [World.cell?_alloc_new, Nat.zero_add, getElem!_pos _ j hj]
  unfold zeros32
  rw [Array.getElem?_replicate, if_pos (by omega)]
  simp

theorem bits64_run (b : Nat) (w : World) : (callFunc 40 #[.float .f64 b]).run Tryz.prog w = .ok (.value (.int .u64 (b : Int))) w := by
  rw [run_callFunc_extern (e := Extern.MathFloatBits.float64bits) Tryz.func40 (by kernel_rfl) (by kernel_rfl) (by kernel_rfl) (by kernel_rfl)]
  rfl

/-- A word's three fields. -/
structure Fields (v : Nat) (s : Bool) (E M0 : Nat) : Prop where
  sign : ((v : Int) / 9223372036854775808 != 0) = s
  exp : bits .and .i64 ((v : Int) / 4503599627370496) 2047 = (E : Int)
  mant : bits .and .u64 (v : Int) 4503599627370495 = (M0 : Int)
  v0 : v < 18446744073709551616
  E0 : E < 2047
  M0 : M0 < 4503599627370496

theorem Txt.over {b0 B : Nat} {w w2 : World} (h : Txt b0 B w w []) (hb : Below w.heap.size w w2) : Txt b0 B w2 w2 [] := by
  have hs := h.small
  refine ⟨⟨h.own.1, ?_⟩, Below.refl _ _, h.base, Nat.lt_of_lt_of_le h.small hb.size, fun _ _ _ => rfl⟩
  rcases h.own.2 with ⟨hv, _⟩ | ⟨g, cap, cur, hv, h1, h2, h3⟩
  · cases hv
  · have hg : g = B := by
      injection hv with ha _ _
      injection ha with ha
      injection ha with ha
      exact ha.symm
    refine .inr ⟨g, cap, cur, hv, h1, ?_, h3⟩
    rw [hb.block g (by omega)]
    exact h2

theorem FmtOut.over {b0 B : Nat} {w w2 w' : World} {L : List Nat} {e : Ending} (h : Txt b0 B w w []) (hb : Below w.heap.size w w2) (hf : FmtOut b0 B w2 L e w') : FmtOut b0 B w L e w' := by
  obtain ⟨n, he, hn, hT⟩ := hf
  have h1 := h.small
  have h2 := h.base
  refine ⟨n, he, hn, ⟨hT.own, (hb.mono (by omega)).trans hT.below, h.base, h.small, fun k hk hk2 => ?_⟩⟩
  rw [hT.block k hk (Nat.lt_of_lt_of_le hk2 hb.size), hb.block k hk2]

set_option maxRecDepth 100000 in
set_option maxHeartbeats 4000000 in
theorem ftoa_zero (b0 B v : Nat) (s : Bool) (w : World) (hF : Fields v s 0 0) (hT : Txt b0 B w w []) :
    Calls Tryz.prog 21 #[.slice (some ⟨B, 0, none⟩) 0 24, .float .f64 v, .int .u8 101, .int .i64 (-1)] w (FmtOut b0 B w (Fl.text s [] 0)) := by
  have h1 := hF.sign
  have h2 := hF.exp
  have h3 := hF.mant
  have hfb := bits64_run
  have hv0 := hF.v0
  go_enter Tryz.func21, Tryz.ntmps21
  go_wp2_with fail
  go_quiet (fail)
  go_wp2_with fail
  refine (fmt0 b0 B s _ (hT.over (below_drewN (Below.refl _ _) _))).mono ?_
  intro en w1 hO
  obtain ⟨n, rfl, hn, hT1⟩ := hO.over hT (below_drewN (Below.refl _ _) _)
  have HN := Lib.hid hn
  clear hn
  go_wp2
  go_ret
  exact ⟨n, rfl, HN.out, hT1⟩

theorem size_alloc_lt (w : World) (o : Obj) : w.heap.size < (w.alloc o).heap.size := by simp

theorem holds_below {w w' : World} {blk n : Nat} (h : Sort.Holds encB w blk 0 (Array.replicate n (0 : UInt8))) (hlt : blk < w.heap.size) (hb : Below w.heap.size w w') : Sort.Holds encB w' blk 0 (Array.replicate n (0 : UInt8)) := fun j hj => by
  have h1 := h j hj
  exact ⟨(hb.cell (p := ⟨blk, 0 + j, none⟩) hlt).trans h1.1, (hb.frozen (p := ⟨blk, 0 + j, none⟩) hlt).trans h1.2⟩

theorem below_putRow {B blk : Nat} {a w : World} (h : Below B a w) (hB : B ≤ blk) (d : Array UInt8) : Below B a (Sort.putRow encB w blk 0 d) := by
  refine h.trans ⟨rfl, rfl, rfl, by simp, fun k hk => ?_⟩
  unfold Sort.putRow Sort.mapBlock
  simp only [Array.getElem?_modify]
  rw [if_neg (by omega)]

/-- The memory behind setDigits: the digits lie there, and what was there before is as it was. -/
theorem set_mem {w0 w1 w2 : World} {n mm : Nat} {dk : Array UInt8} (h : w2 = (Sort.putRow encB w1.drew w0.heap.size 0 dk).drewN mm) (hh : Sort.Holds encB w1 w0.heap.size 0 (Array.replicate n (0 : UInt8))) (hdk : dk.size = n)
    (hb : Below w0.heap.size w0 w1) : Below w0.heap.size w0 w2 ∧ ∀ t, t < n → w2.cell? ⟨w0.heap.size, t, none⟩ = some (.int .u8 ((dk[t]!).toNat : Int)) := by
  subst h
  refine ⟨below_drewN (below_putRow hb.drew (Nat.le_refl _) dk) _, fun t ht => ?_⟩
  rw [World.cell?_drewN]
  have := Sort.cell?_putRow encB w1.drew w0.heap.size 0 _ dk (by exact hh) (by rw [hdk]; simp) t (by omega)
  rw [Nat.zero_add] at this
  exact this

/-- What ftoa64 leaves. -/
def FtoaOut (b0 B n : Nat) (s : Bool) (x : Nat × Int) (w : World) (e : Ending) (w' : World) : Prop :=
  ∃ k D', 1 ≤ k ∧ k ≤ n ∧ x.1 = D' * 10 ^ (n - k) ∧ FmtOut b0 B w (Fl.text s (Fl.digs k D') ((n : Int) + x.2 - 1)) e w'

set_option maxRecDepth 100000 in
set_option maxHeartbeats 4000000 in
theorem ftoa_norm (b0 B v E M0 M sh m n b bp op : Nat) (e : Int) (x : Nat × Int) (s : Bool) (w : World) (hF : Fields v s E M0) (hE1 : 1 ≤ E) (hor : bits .or .u64 (M0 : Int) 4503599627370496 = (M : Int)) (hM2 : M < 9007199254740992) (he : (E : Int) + -1023 - sh - 52 = e) (hT : Txt b0 B w w [])
    (hM1 : 1 ≤ M) (hb : b = Lib.bitLen M) (hsh : sh + b = 64) (hb2 : b ≤ 53) (hm : (M : Int) * 2 ^ sh = (m : Int)) (hm2 : m < 18446744073709551616)
    (hc : ∀ w, TabAll w → Calls Tryz.prog 53 #[.int .u64 m, .int .i64 e] w (ShortOut x w)) (ht : Consts bp op w)
    (hx1 : 1 ≤ x.1) (hx2 : x.1 < 100000000000000000) (hx3 : -324 ≤ x.2) (hx4 : x.2 ≤ 293) (hn : n = Lib.nDigits x.1) (hn17 : n ≤ 17) :
    Calls Tryz.prog 21 #[.slice (some ⟨B, 0, none⟩) 0 24, .float .f64 v, .int .u8 101, .int .i64 (-1)] w (FtoaOut b0 B n s x w) := by
  have hE0 := hF.E0
  have hM0 := hF.M0
  have hE2 : ((E : Int) == 2047) = false := by rw [beq_eq_false_iff_ne]; omega
  have hE3 : ((E : Int) == 0) = false := by rw [beq_eq_false_iff_ne]; omega
  have h1 := hF.sign
  have h2 := hF.exp
  have h3 := hF.mant
  have hfb := bits64_run
  have hv0 := hF.v0
  have hM0' : ((M : Int) == 0) = false := by rw [beq_eq_false_iff_ne]; omega
  have hlen := fun w => len_is M b w (by omega) hb
  have hn1 : 1 ≤ n := by rw [hn]; exact Lib.nDigits_pos _
  have hnd := fun w ht => (Tryz.internal_strconv_numDigits x.1 hx1 (by omega) w ht)
  rw [← hn] at hnd
  have hset := fun bb w h => set_digits x.1 n bb x.2 w hn hn17 hx1 (by omega) (by omega) (by omega) h
  have hmw : IntKind.u64.wrap ((M : Int) * 2 ^ sh) = (m : Int) := by rw [hm, IntKind.wrap_u64]; omega
  obtain ⟨xd, xp⟩ := x
  have HM := Lib.hid hm
  have HC := Lib.hid hc
  have HN := Lib.hid hn
  have HH := Lib.hid hsh
  have HE := Lib.hid he
  have HT := Lib.hid ht
  have HTX := Lib.hid hT
  have hshb : (64 : Int) - b = sh := by omega
  clear hm hb hn hsh he hc ht hT
  go_enter Tryz.func21, Tryz.ntmps21
  go_wp2_with fail
  go_quiet (fail)
  go_wp2_with fail
  generalize hwb : (w.drewN nq).alloc _ = wb
  have hwb' : (w.drewN nq).alloc (.cells zeros32 84) = wb := hwb
  have hsz : w.heap.size < wb.heap.size := by rw [← hwb']; exact size_alloc_lt (w.drewN nq) _
  have hbel : Below w.heap.size w wb := by rw [← hwb']; exact (below_drewN (Below.refl _ _) _).alloc (Nat.le_refl _) _
  have hhold : Sort.Holds encB wb w.heap.size 0 (Array.replicate n (0 : UInt8)) := by rw [← hwb']; exact holds_zeros (w.drewN nq) n (by omega)
  clear hwb hwb'
  refine (hlen wb).mono ?_
  rintro en w1 ⟨rfl, rfl⟩
  clear hlen
  go_wp2_with fail
  have hc1 := HC.out wb (HT.out.below hbel).tab
  rw [← HE.out] at hc1
  refine hc1.mono ?_
  rintro en w1 ⟨rfl, hb1⟩
  clear hc1 HC
  have HB := Lib.hid (hbel.trans (hb1.mono (Nat.le_of_lt hsz)))
  have hhold1 := holds_below hhold hsz hb1
  have hpow := (HT.out.below (HB.out)).pow
  clear hhold hb1 hbel
  go_wp2_with fail
  go_region_with (first
    | (go_at_call 47; refine (hnd w1.drew (by exact hpow)).mono ?_; rintro en w2 ⟨rfl, rfl⟩)
    | (go_at_call 46; refine (hset w.heap.size w1.drew (by exact hhold1)).mono ?_; rintro en w2 ⟨k, D', mm, dk, hk1, hkn, hxd, hdk, hdig, rfl, hw2⟩
       have HX := Lib.hid hxd
       have HG := Lib.hid hdig
       have HW := Lib.hid (set_mem (w0 := w) hw2 hhold1 hdk (HB.out.trans (by exact Below.refl _ _)))
       clear hxd hdig hw2))
  have hb1 : 0 ≤ (k : Int) - 1 := by omega
  go_wp2_with fail
  have HS := HW.out
  refine (fmt_any b0 B w.heap.size k D' s _ _ _ w2 (HTX.out.over HS.1) (fun t ht => by rw [← HG.out t ht]; exact HS.2 t (by omega)) (by have := HTX.out.small; omega) (by omega) (by omega) hk1 (by omega) rfl (by omega)).mono ?_
  intro en w3 hO
  obtain ⟨len, rfl, hlen, hT3⟩ := hO.over HTX.out HS.1
  have HL := Lib.hid hlen
  clear hlen HS hO
  go_wp2
  go_ret
  exact ⟨k, D', hk1, hkn, HX.out, _, rfl, HL.out, hT3⟩


set_option maxRecDepth 100000 in
set_option maxHeartbeats 4000000 in
theorem ftoa_sub (b0 B v M sh m n b bp op : Nat) (e : Int) (x : Nat × Int) (s : Bool) (w : World) (hF : Fields v s 0 M) (he : (1 : Int) + -1023 - sh - 52 = e) (hT : Txt b0 B w w [])
    (hM1 : 1 ≤ M) (hb : b = Lib.bitLen M) (hsh : sh + b = 64) (hb2 : b ≤ 53) (hm : (M : Int) * 2 ^ sh = (m : Int)) (hm2 : m < 18446744073709551616)
    (hc : ∀ w, TabAll w → Calls Tryz.prog 53 #[.int .u64 m, .int .i64 e] w (ShortOut x w)) (ht : Consts bp op w)
    (hx1 : 1 ≤ x.1) (hx2 : x.1 < 100000000000000000) (hx3 : -324 ≤ x.2) (hx4 : x.2 ≤ 293) (hn : n = Lib.nDigits x.1) (hn17 : n ≤ 17) :
    Calls Tryz.prog 21 #[.slice (some ⟨B, 0, none⟩) 0 24, .float .f64 v, .int .u8 101, .int .i64 (-1)] w (FtoaOut b0 B n s x w) := by
  have hM0 := hF.M0
  have h1 := hF.sign
  have h2 := hF.exp
  have h3 := hF.mant
  have hfb := bits64_run
  have hv0 := hF.v0
  have hM0' : ((M : Int) == 0) = false := by rw [beq_eq_false_iff_ne]; omega
  have hlen := fun w => len_is M b w (by omega) hb
  have hn1 : 1 ≤ n := by rw [hn]; exact Lib.nDigits_pos _
  have hnd := fun w ht => (Tryz.internal_strconv_numDigits x.1 hx1 (by omega) w ht)
  rw [← hn] at hnd
  have hset := fun bb w h => set_digits x.1 n bb x.2 w hn hn17 hx1 (by omega) (by omega) (by omega) h
  have hmw : IntKind.u64.wrap ((M : Int) * 2 ^ sh) = (m : Int) := by rw [hm, IntKind.wrap_u64]; omega
  obtain ⟨xd, xp⟩ := x
  have HM := Lib.hid hm
  have HC := Lib.hid hc
  have HN := Lib.hid hn
  have HH := Lib.hid hsh
  have HE := Lib.hid he
  have HT := Lib.hid ht
  have HTX := Lib.hid hT
  have hshb : (64 : Int) - b = sh := by omega
  clear hm hb hn hsh he hc ht hT
  go_enter Tryz.func21, Tryz.ntmps21
  go_wp2_with fail
  go_quiet (fail)
  go_wp2_with fail
  generalize hwb : (w.drewN nq).alloc _ = wb
  have hwb' : (w.drewN nq).alloc (.cells zeros32 84) = wb := hwb
  have hsz : w.heap.size < wb.heap.size := by rw [← hwb']; exact size_alloc_lt (w.drewN nq) _
  have hbel : Below w.heap.size w wb := by rw [← hwb']; exact (below_drewN (Below.refl _ _) _).alloc (Nat.le_refl _) _
  have hhold : Sort.Holds encB wb w.heap.size 0 (Array.replicate n (0 : UInt8)) := by rw [← hwb']; exact holds_zeros (w.drewN nq) n (by omega)
  clear hwb hwb'
  refine (hlen wb).mono ?_
  rintro en w1 ⟨rfl, rfl⟩
  clear hlen
  go_wp2_with fail
  have hc1 := HC.out wb (HT.out.below hbel).tab
  rw [← HE.out] at hc1
  refine hc1.mono ?_
  rintro en w1 ⟨rfl, hb1⟩
  clear hc1 HC
  have HB := Lib.hid (hbel.trans (hb1.mono (Nat.le_of_lt hsz)))
  have hhold1 := holds_below hhold hsz hb1
  have hpow := (HT.out.below (HB.out)).pow
  clear hhold hb1 hbel
  go_wp2_with fail
  go_region_with (first
    | (go_at_call 47; refine (hnd w1.drew (by exact hpow)).mono ?_; rintro en w2 ⟨rfl, rfl⟩)
    | (go_at_call 46; refine (hset w.heap.size w1.drew (by exact hhold1)).mono ?_; rintro en w2 ⟨k, D', mm, dk, hk1, hkn, hxd, hdk, hdig, rfl, hw2⟩
       have HX := Lib.hid hxd
       have HG := Lib.hid hdig
       have HW := Lib.hid (set_mem (w0 := w) hw2 hhold1 hdk (HB.out.trans (by exact Below.refl _ _)))
       clear hxd hdig hw2))
  have hb1 : 0 ≤ (k : Int) - 1 := by omega
  go_wp2_with fail
  have HS := HW.out
  refine (fmt_any b0 B w.heap.size k D' s _ _ _ w2 (HTX.out.over HS.1) (fun t ht => by rw [← HG.out t ht]; exact HS.2 t (by omega)) (by have := HTX.out.small; omega) (by omega) (by omega) hk1 (by omega) rfl (by omega)).mono ?_
  intro en w3 hO
  obtain ⟨len, rfl, hlen, hT3⟩ := hO.over HTX.out HS.1
  have HL := Lib.hid hlen
  clear hlen HS hO
  go_wp2
  go_ret
  exact ⟨k, D', hk1, hkn, HX.out, _, rfl, HL.out, hT3⟩


end Go.Proofs.YtfemnjgcodcfkaaGreatDoor
