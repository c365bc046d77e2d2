/- JSFloat reads the text of a float as its bits; JSBool reads true and false. -/
import Derived.Test.YtfemnjgcodcfkaaGreatDoorFirst
import Derived.Test.YtfemnjgcodcfkaaGreatDoorNumAny
import Derived.Deep.RegionWith

namespace Go.Proofs.YtfemnjgcodcfkaaGreatDoor
open Go.RowKit

theorem raw_bits_run (b : Nat) (w : World) : (callFunc 13 #[.float .f64 b]).run Tryz.prog w = .ok (.value (.int .u64 (b : Int))) w := by
  rw [run_callFunc_extern (e := Extern.MathFloatBits.float64bits) Tryz.func13 (by kernel_rfl) (by kernel_rfl) (by kernel_rfl) (by kernel_rfl)]
  rfl

/-- A statement that can only go on. -/
theorem wp_only {P : Program} {s : Code} {K : Act → World → Prop} {Q' : Exit → Act → World → Prop} {a : Act} {w : World} (h : s.wp P (Exit.then K fun _ _ _ => False) a w) : s.wp P (Exit.then K Q') a w := by
  refine wp_mono h fun e a' w' hq => ?_
  cases e with
  | normal => exact hq
  | exit id => exact hq.elim
  | goto l => exact hq.elim
  | ret => exact hq.elim
  | panic ch => exact hq.elim
  | outgrown => exact hq.elim

/-- The state behind 'first': the tokenizer, the text, the variable ok. -/
structure Stands (w0 w : World) (tb : Nat) : Prop where
  b : w0.heap.size < tb
  below : Below w0.heap.size w0 w
  size : tb < w.heap.size
  ok : w.cell? ⟨w0.heap.size, 0, none⟩ = some (.bool true)
  fz : w.frozen? ⟨w0.heap.size, 0, none⟩ = false

theorem Stands.later {w0 w w' : World} {tb : Nat} (h : Stands w0 w tb) (hb : Below w.heap.size w w') : Stands w0 w' tb := by
  have hlt : w0.heap.size < w.heap.size := Nat.lt_trans h.b h.size
  exact ⟨h.b, h.below.trans (hb.mono (Nat.le_of_lt hlt)), Nat.lt_of_lt_of_le h.size hb.size, (hb.cell (p := ⟨w0.heap.size, 0, none⟩) hlt).trans h.ok, (hb.frozen (p := ⟨w0.heap.size, 0, none⟩) hlt).trans h.fz⟩

set_option maxHeartbeats 2000000 in
theorem jsfloat_any (w : World) (blk n cap r bp op : Nat) (neg : Bool) (L : List Nat) (hl : Lies w blk n L) (hL : Fl.IsText r neg L) (hr : r < 9218868437227405312) (ht : Consts bp op w) (hcap : n ≤ cap)
    (u : Nat) (hu : L[0]? = some u) (hu2 : u = 45 ∨ 48 ≤ u ∧ u ≤ 57) :
    Calls Tryz.prog 7 #[.slice (some ⟨blk, 0, none⟩) n cap] w fun e w' => e = .returned (.tuple #[.int .u64 (Ieee.double.word neg r), .bool true]) ∧ Below w.heap.size w w' := by
  have hbits := raw_bits_run
  obtain ⟨w1, hw1⟩ : ∃ w1, w1 = w.alloc (.cells #[.bool false] 4) := ⟨_, rfl⟩
  have hb1 : Below w.heap.size w w1 := by rw [hw1]; exact (Below.refl _ _).alloc (Nat.le_refl _) _
  have hs1 : w1.heap.size = w.heap.size + 1 := by rw [hw1]; simp
  have k1 : w1.cell? ⟨w.heap.size, 0, none⟩ = some (.bool false) := by rw [hw1, World.cell?_alloc_new]; rfl
  have z1 : w1.frozen? ⟨w.heap.size, 0, none⟩ = false := by rw [hw1]; exact World.frozen?_alloc_at _ _ _ _ rfl
  have hfirst := first_any w1 blk n cap u 7 29 L (hl.below hb1) hu (.inr (.inr ⟨hu2, rfl, rfl⟩)) (fun f w' hb' => by
    have hl' := (hl.below hb1).below hb'
    exact num_text r neg L n blk cap f w' hL hl'.len hl'.n2 (fun u hu => by have := hl'.byte u hu; omega) hl'.cell hcap)
  have hfloat := fun (tb : Nat) (w' : World) (hb : Below w.heap.size w w') (h1 : w'.cell? ⟨tb, 1, none⟩ = some (.slice (some ⟨blk, 0, none⟩) n cap)) => float_any w' tb blk n cap r bp op neg L h1 (hl.below hb) hL hr (ht.below hb)
  generalize Ieee.double.word neg r = v at hfloat
  have HF := Lib.hid hfloat
  have HB1 := Lib.hid hb1
  have HS1 := Lib.hid hs1
  clear hl hL hr ht hu hu2 hfloat hb1 hs1
  go_enter_defers Tryz.func7, Tryz.ntmps7
  go_wp2_with fail
  rw [← hw1]
  clear hw1
  refine hfirst.mono ?_
  rintro en w2 ⟨q, ra, rc, rfl, hk, hT⟩
  clear hfirst hk
  have hlt : w.heap.size < w1.heap.size := by rw [HS1.out]; exact Nat.lt_succ_self _
  have k2 := (hT.below.cell (p := ⟨w.heap.size, 0, none⟩) hlt).trans k1
  have z2 := (hT.below.frozen (p := ⟨w.heap.size, 0, none⟩) hlt).trans z1
  have hb2 : Below w.heap.size w w2 := HB1.out.trans (hT.below.mono (Nat.le_of_lt hlt))
  have t1 := hT.cell 1 _ rfl
  have HT := Lib.hid (And.intro (And.intro hlt hb2) hT.size)
  clear hT k1 z1 HB1 HS1 hlt hb2
  go_wp2_with fail
  generalize hw3 : w2.setCell ⟨w.heap.size, 0, none⟩ (.bool true) = w3
  have hne : (⟨w1.heap.size, 1, none⟩ : Addr) ≠ ⟨w.heap.size, 0, none⟩ := fun e => absurd (congrArg Addr.off e) (show ¬ (1 : Nat) = 0 by decide)
  have hS : Stands w w3 w1.heap.size := by
    rw [← hw3]
    exact ⟨HT.out.1.1, HT.out.1.2.setCell (Nat.le_refl _) _, by simpa using HT.out.2, World.cell?_setCell_same _ _ _ k2, by simpa using z2⟩
  have t3 : w3.cell? ⟨w1.heap.size, 1, none⟩ = some (.slice (some ⟨blk, 0, none⟩) n cap) := by
    rw [← hw3, World.cell?_setCell_other (h := hne.symm) ..]
    exact t1
  clear hw3 HT t1 k2 z2 hne
  generalize w1.heap.size = tb at *
  have hfl := HF.out tb w3.drew hS.below.drew t3
  have k3 := hS.ok
  have z3 := hS.fz
  have HS := Lib.hid hS
  clear hS HF t3
  refine wp_only ?_
  go_region_with (go_at_call 14; refine hfl.mono ?_; rintro en w4 ⟨rfl, hb4⟩
                  have S4 := (HS.out.later (Below.refl _ _).drew).later hb4
                  have k4 := S4.ok
                  have z4 := S4.fz
                  have HS4 := Lib.hid S4
                  clear S4 hb4)
  all_goals
    clear hfl
    go_wp2_with fail
    generalize hw5 : w4.setCell ⟨w.heap.size, 0, none⟩ (.bool true) = w5
    have k5 : w5.cell? ⟨w.heap.size, 0, none⟩ = some (.bool true) := by rw [← hw5]; exact World.cell?_setCell_same _ _ _ k4
    have hb5 : Below w.heap.size w w5 := by rw [← hw5]; exact HS4.out.below.setCell (Nat.le_refl _) _
    clear hw5
    refine leaves_cons (f := 11) (args := #[.pointer (some ⟨w.heap.size, 0, none⟩)]) (by simp) (by simp [go_sem]) ?_
    refine (caught_idle ⟨w.heap.size, 0, none⟩ _).mono ?_
    rintro e u' w'' ⟨rfl, rfl, rfl⟩
    simp [Leaves, settle, results, Tryz.results7, go_sem, k5, hb5]

set_option maxHeartbeats 2000000 in
theorem jsbool_any (w : World) (blk n cap u k fn : Nat) (b : Bool) (L : List Nat) (hl : Lies w blk n L) (hu : L[0]? = some u)
    (hcase : (u = 116 ∧ k = 3 ∧ fn = 27) ∨ (u = 102 ∧ k = 2 ∧ fn = 28) ∨ ((u = 45 ∨ 48 ≤ u ∧ u ≤ 57) ∧ k = 7 ∧ fn = 29))
    (hcall : ∀ (f : Int) (w' : World), Below w.heap.size w w' → Calls Tryz.prog fn #[.agg #[.int .u32 f], .slice (some ⟨blk, 0, none⟩) n cap] w' (KindOut k blk n cap w')) (hb : ((k : Int) == 3) = b) :
    Calls Tryz.prog 9 #[.slice (some ⟨blk, 0, none⟩) n cap] w fun e w' => e = .returned (.tuple #[.bool b, .bool true]) ∧ Below w.heap.size w w' := by
  have hk2 : k < 256 := by omega
  obtain ⟨w1, hw1⟩ : ∃ w1, w1 = w.alloc (.cells #[.bool false] 4) := ⟨_, rfl⟩
  have hb1 : Below w.heap.size w w1 := by rw [hw1]; exact (Below.refl _ _).alloc (Nat.le_refl _) _
  have hs1 : w1.heap.size = w.heap.size + 1 := by rw [hw1]; simp
  have k1 : w1.cell? ⟨w.heap.size, 0, none⟩ = some (.bool false) := by rw [hw1, World.cell?_alloc_new]; rfl
  have z1 : w1.frozen? ⟨w.heap.size, 0, none⟩ = false := by rw [hw1]; exact World.frozen?_alloc_at _ _ _ _ rfl
  have hlt : w.heap.size < w1.heap.size := by rw [hs1]; exact Nat.lt_succ_self _
  have hfirst := first_any w1 blk n cap u k fn L (hl.below hb1) hu hcase (fun f w' hb' => hcall f w' (hb1.trans (hb'.mono (Nat.le_of_lt hlt))))
  have HB1 := Lib.hid hb1
  have HS1 := Lib.hid hs1
  have HBB := Lib.hid hb
  clear hl hu hcase hcall hb1 hs1 hlt hb
  go_enter_defers Tryz.func9, Tryz.ntmps9
  go_wp2_with fail
  rw [← hw1]
  clear hw1
  refine hfirst.mono ?_
  rintro en w2 ⟨q, ra, rc, rfl, hk, hT⟩
  clear hfirst
  have hlt : w.heap.size < w1.heap.size := by rw [HS1.out]; exact Nat.lt_succ_self _
  have k2 := (hT.below.cell (p := ⟨w.heap.size, 0, none⟩) hlt).trans k1
  have z2 := (hT.below.frozen (p := ⟨w.heap.size, 0, none⟩) hlt).trans z1
  have hb2 : Below w.heap.size w w2 := HB1.out.trans (hT.below.mono (Nat.le_of_lt hlt))
  have t9 := hT.cell 9 _ rfl
  have HT := Lib.hid (And.intro (And.intro hlt hb2) hT.size)
  have HK := Lib.hid hk
  clear hT k1 z1 HB1 HS1 hlt hb2 hk
  go_wp2_with fail
  generalize hw3 : w2.setCell ⟨w.heap.size, 0, none⟩ (.bool true) = w3
  have hne : (⟨w1.heap.size, 9, none⟩ : Addr) ≠ ⟨w.heap.size, 0, none⟩ := fun e => absurd (congrArg Addr.off e) (show ¬ (9 : Nat) = 0 by decide)
  have hS : Stands w w3 w1.heap.size := by
    rw [← hw3]
    exact ⟨HT.out.1.1, HT.out.1.2.setCell (Nat.le_refl _) _, by simpa using HT.out.2, World.cell?_setCell_same _ _ _ k2, by simpa using z2⟩
  have t3 : w3.cell? ⟨w1.heap.size, 9, none⟩ = some (.int .u32 q) := by
    rw [← hw3, World.cell?_setCell_other (h := hne.symm) ..]
    exact t9
  clear hw3 HT t9 k2 z2 hne
  generalize w1.heap.size = tb at *
  have hfl := bool_any w3.drew tb q k t3 HK.out hk2 b HBB.out
  have k3 := hS.ok
  have z3 := hS.fz
  have HS := Lib.hid hS
  clear hS t3 HK HBB
  refine wp_only ?_
  go_region_with (go_at_call 16; refine hfl.mono ?_; rintro en w4 ⟨rfl, hb4⟩
                  have S4 : Stands w w4 tb := by rw [← hb4]; exact HS.out.later (Below.refl _ _).drew
                  have k4 := S4.ok
                  have z4 := S4.fz
                  have HS4 := Lib.hid S4
                  clear S4 hb4)
  all_goals
    clear hfl
    go_wp2_with fail
    generalize hw5 : w4.setCell ⟨w.heap.size, 0, none⟩ (.bool true) = w5
    have k5 : w5.cell? ⟨w.heap.size, 0, none⟩ = some (.bool true) := by rw [← hw5]; exact World.cell?_setCell_same _ _ _ k4
    have hb5 : Below w.heap.size w w5 := by rw [← hw5]; exact HS4.out.below.setCell (Nat.le_refl _) _
    clear hw5
    refine leaves_cons (f := 11) (args := #[.pointer (some ⟨w.heap.size, 0, none⟩)]) (by simp) (by simp [go_sem]) ?_
    refine (caught_idle ⟨w.heap.size, 0, none⟩ _).mono ?_
    rintro e u' w'' ⟨rfl, rfl, rfl⟩
    simp [Leaves, settle, results, Tryz.results9, go_sem, k5, hb5]

end Go.Proofs.YtfemnjgcodcfkaaGreatDoor
