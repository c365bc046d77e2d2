/- Next, on a text that is one token. -/
import Derived.Test.YtfemnjgcodcfkaaGreatDoorTok
import Derived.WalkMore
import Derived.Deep.CutRange
import Derived.Deep.CutBlock

namespace Go.Proofs.YtfemnjgcodcfkaaGreatDoor
open Go.RowKit

/-- The cells of a tokenizer: Delim, Value, Err, Depth, Index, IsKey, isKey, json, stack, flags. -/
def tokList (va er je : Value) (f : Int) : List Value := [.int .i32 0, va, er, .int .i64 0, .int .i64 0, .bool false, .bool false, je, .pointer none, .int .u32 f]

set_option maxRecDepth 100000 in
set_option maxHeartbeats 4000000 in
theorem next_any (w0 w : World) (tb blk n cap u k fn : Nat) (f g q : Int)
    (hT : TokC w0 w tb (tokList (.slice none 0 0) .nilIface (.slice (some ⟨blk, 0, none⟩) n cap) f))
    (hcase : (u = 116 ∧ k = 3 ∧ fn = 27) ∨ (u = 102 ∧ k = 2 ∧ fn = 28) ∨ ((u = 45 ∨ 48 ≤ u ∧ u ≤ 57) ∧ k = 7 ∧ fn = 29))
    (hcall : ∀ w' : World, Below w0.heap.size w0 w' → Calls Tryz.prog fn #[.agg #[.int .u32 f], .slice (some ⟨blk, 0, none⟩) n cap] w' (KindOut k blk n cap w'))
    (hn : 1 ≤ n) (hu : w.cell? ⟨blk, 0, none⟩ = some (.int .u8 (u : Int))) (hne : blk ≠ tb) (hg : bits .and .u32 f 4278255615 = g) (hq : bits .or .u32 g ((k : Int) * 65536) = q) :
    Calls Tryz.prog 18 #[.pointer (some ⟨tb, 0, none⟩)] w (fun e w' => e = .returned (.bool true) ∧ ∃ (ra : Option Addr) (rc : Nat), TokC w0 w' tb (tokList (.slice (some ⟨blk, 0, none⟩) n cap) .nilIface (.slice ra 0 rc) q)) := by
  have e32 : ((u : Int) == 32) = false := by rw [beq_eq_false_iff_ne]; omega
  have e9 : ((u : Int) == 9) = false := by rw [beq_eq_false_iff_ne]; omega
  have e10 : ((u : Int) == 10) = false := by rw [beq_eq_false_iff_ne]; omega
  have e13 : ((u : Int) == 13) = false := by rw [beq_eq_false_iff_ne]; omega
  have e34 : ((u : Int) == 34) = false := by rw [beq_eq_false_iff_ne]; omega
  have e110 : ((u : Int) == 110) = false := by rw [beq_eq_false_iff_ne]; omega
  have hgt : decide ((0 : Int) < (n : Int)) = true := by rw [decide_eq_true_iff]; omega
  have hn0 : ((n : Int) == 0) = false := by rw [beq_eq_false_iff_ne]; omega
  have c2 := hT.cell 2 _ rfl
  have c7 := hT.cell 7 _ rfl
  have HT := Lib.hid hT
  have HCASE := Lib.hid hcase
  have HCALL := Lib.hid hcall
  have HG := Lib.hid hg
  have HK := Lib.hid (show k < 256 by omega)
  have HQ := Lib.hid hq
  clear hT hcase hcall hg hq
  go_enter Tryz.func18, Tryz.ntmps18
  go_wp2_with fail
  go_step3
  go_wp2_with fail
  go_step3
  go_wp2_with fail
  go_loopw [3, 5, 17] (fun c i j wr => c = .int .i64 0 ∧ j = .int .i64 0 ∧ w = wr) (fun _ _ _ _ => 0)
  case atStart => exact ⟨rfl, rfl, rfl⟩
  case round =>
    obtain ⟨rfl, rfl, rfl⟩ := hrel
    go_upto_block 3 with fail
    go_cut [5, 6, 18, 20, 21, 54] from 55 to 280 (fun _ ki _ _ _ _ wr => ki = .int .u64 (k : Int) ∧ ∃ (ra : Option Addr) (rc : Nat), TokC w0 wr tb (tokList (.slice (some ⟨blk, 0, none⟩) n cap) .nilIface (.slice ra 0 rc) f))
    case first =>
      have c0 := HT.out.cell 0 _ rfl
      have z0 := HT.out.fz 0
      rcases HCASE.out with ⟨rfl, rfl, rfl⟩ | ⟨rfl, rfl, rfl⟩ | ⟨h, rfl, rfl⟩
      · clear HCASE
        go_upto_region 31 with fail
        generalize hwa : w.setCell ⟨tb, 0, none⟩ (.int .i32 0) = wa
        have T1 : TokC w0 wa tb (tokList (.slice none 0 0) .nilIface (.slice (some ⟨blk, 0, none⟩) n cap) f) := by rw [← hwa]; exact HT.out.put rfl 0 (by decide) _
        have a1 := T1.cell 1 _ rfl
        have a2 := T1.cell 2 _ rfl
        have a7 := T1.cell 7 _ rfl
        have a9 := T1.cell 9 _ rfl
        have hc := HCALL.out wa.drew T1.drew.below
        have HT1 := Lib.hid T1
        clear hwa T1 c0 c2 c7 z0
        go_region_with (go_at_call 27; refine hc.mono ?_; rintro en w2 ⟨ra, rc, rfl, hb2⟩
                        have T2 := HT1.out.drew.later hb2
                        have d1 := T2.cell 1 _ rfl
                        have d2 := T2.cell 2 _ rfl
                        have d7 := T2.cell 7 _ rfl
                        have z1 := T2.fz 1
                        have z2 := T2.fz 2
                        have z7 := T2.fz 7
                        have HT2 := Lib.hid T2
                        clear T2 hb2)
        all_goals
          clear hc
          go_wp2_with fail
          go_meet
          case rel => exact ⟨rfl, ra, rc, ((HT2.out.put rfl 1 (by decide) _).put rfl 7 (by decide) _).put rfl 2 (by decide) _⟩
      · clear HCASE
        go_upto_region 34 with fail
        generalize hwa : w.setCell ⟨tb, 0, none⟩ (.int .i32 0) = wa
        have T1 : TokC w0 wa tb (tokList (.slice none 0 0) .nilIface (.slice (some ⟨blk, 0, none⟩) n cap) f) := by rw [← hwa]; exact HT.out.put rfl 0 (by decide) _
        have a1 := T1.cell 1 _ rfl
        have a2 := T1.cell 2 _ rfl
        have a7 := T1.cell 7 _ rfl
        have a9 := T1.cell 9 _ rfl
        have hc := HCALL.out wa.drew T1.drew.below
        have HT1 := Lib.hid T1
        clear hwa T1 c0 c2 c7 z0
        go_region_with (go_at_call 28; refine hc.mono ?_; rintro en w2 ⟨ra, rc, rfl, hb2⟩
                        have T2 := HT1.out.drew.later hb2
                        have d1 := T2.cell 1 _ rfl
                        have d2 := T2.cell 2 _ rfl
                        have d7 := T2.cell 7 _ rfl
                        have z1 := T2.fz 1
                        have z2 := T2.fz 2
                        have z7 := T2.fz 7
                        have HT2 := Lib.hid T2
                        clear T2 hb2)
        all_goals
          clear hc
          go_wp2_with fail
          go_meet
          case rel => exact ⟨rfl, ra, rc, ((HT2.out.put rfl 1 (by decide) _).put rfl 7 (by decide) _).put rfl 2 (by decide) _⟩
      · have e116 : ((u : Int) == 116) = false := by rw [beq_eq_false_iff_ne]; omega
        have e102 : ((u : Int) == 102) = false := by rw [beq_eq_false_iff_ne]; omega
        clear HCASE
        go_upto_if 174 with fail
        go_step
        go_step
        go_cut [5, 18, 20, 21, 54, 202] from 203 to 213 (fun _ _ _ _ _ b wr => b = .bool true ∧ w = wr)
        case first =>
          clear hgt hn0 e32 e9 e10 e13 e34 e110 e116 e102 c0 c2 c7 z0 hu
          have h' : u = 45 ∨ u = 48 ∨ u = 49 ∨ u = 50 ∨ u = 51 ∨ u = 52 ∨ u = 53 ∨ u = 54 ∨ u = 55 ∨ u = 56 ∨ u = 57 := by omega
          clear h
          rcases h' with rfl | rfl | rfl | rfl | rfl | rfl | rfl | rfl | rfl | rfl | rfl
          all_goals
            go_wp2_with fail
            go_meet
            case rel => exact ⟨rfl, rfl⟩
        case rest =>
          obtain ⟨rfl, rfl⟩ := hcut
          clear h
          go_upto_region 47 with fail
          generalize hwa : w.setCell ⟨tb, 0, none⟩ (.int .i32 0) = wa
          have T1 : TokC w0 wa tb (tokList (.slice none 0 0) .nilIface (.slice (some ⟨blk, 0, none⟩) n cap) f) := by rw [← hwa]; exact HT.out.put rfl 0 (by decide) _
          have a1 := T1.cell 1 _ rfl
          have a2 := T1.cell 2 _ rfl
          have a7 := T1.cell 7 _ rfl
          have a9 := T1.cell 9 _ rfl
          have hc := HCALL.out wa.drew T1.drew.below
          have HT1 := Lib.hid T1
          clear hwa T1 c0 c2 c7 z0
          go_region_with (go_at_call 29; refine hc.mono ?_; rintro en w2 ⟨ra, rc, rfl, hb2⟩
                          have T2 := HT1.out.drew.later hb2
                          have d1 := T2.cell 1 _ rfl
                          have d2 := T2.cell 2 _ rfl
                          have d7 := T2.cell 7 _ rfl
                          have z1 := T2.fz 1
                          have z2 := T2.fz 2
                          have z7 := T2.fz 7
                          have HT2 := Lib.hid T2
                          clear T2 hb2)
          all_goals
            clear hc
            go_wp2_with fail
            go_meet
            case rel => exact ⟨rfl, ra, rc, ((HT2.out.put rfl 1 (by decide) _).put rfl 7 (by decide) _).put rfl 2 (by decide) _⟩
    case rest =>
      obtain ⟨rfl, ra, rc, hT⟩ := hcut
      clear HT HCALL HCASE c2 c7 hu e32 e9 e10 e13 e34 e110 hgt hn0
      have hlen : ((n : Int) == 0) = false := by rw [beq_eq_false_iff_ne]; omega
      have hlen2 : ((n : Int) != 0) = true := by rw [bne_iff_ne]; omega
      have c8 := hT.cell 8 _ rfl
      have c3 := hT.cell 3 _ rfl
      have z3 := hT.fz 3
      have HT := Lib.hid hT
      clear hT
      go_wp2_with fail
      refine (depth_any _ tb c8).mono ?_
      rintro en w2 ⟨rfl, rfl⟩
      go_wp2_with fail
      generalize hwa : wc.setCell ⟨tb, 3, none⟩ (.int .i64 0) = w1
      have hT : TokC w0 w1 tb (tokList (.slice (some ⟨blk, 0, none⟩) n cap) .nilIface (.slice ra 0 rc) f) := by rw [← hwa]; exact HT.out.put rfl 3 (by decide) _
      clear hwa HT c3 c8 z3
      have c8 := hT.cell 8 _ rfl
      have c4 := hT.cell 4 _ rfl
      have z4 := hT.fz 4
      have HT := Lib.hid hT
      clear hT
      refine (index_zero _ tb c8).mono ?_
      rintro en w2 ⟨rfl, rfl⟩
      have c9 := HT.out.cell 9 _ rfl
      go_wp2_with fail
      generalize hwa : w1.setCell ⟨tb, 4, none⟩ (.int .i64 0) = w2
      have hT : TokC w0 w2 tb (tokList (.slice (some ⟨blk, 0, none⟩) n cap) .nilIface (.slice ra 0 rc) f) := by rw [← hwa]; exact HT.out.put rfl 4 (by decide) _
      clear hwa HT c4 c8 c9 z4
      have hw := with_kind w2 f g k HG.out HK.out
      rw [HQ.out] at hw
      refine hw.mono ?_
      rintro en w3 ⟨rfl, rfl⟩
      have c9 := hT.cell 9 _ rfl
      have c0 := hT.cell 0 _ rfl
      have c6 := hT.cell 6 _ rfl
      have c5 := hT.cell 5 _ rfl
      have c1 := hT.cell 1 _ rfl
      have c2 := hT.cell 2 _ rfl
      have z9 := hT.fz 9
      have z5 := hT.fz 5
      have HT := Lib.hid hT
      clear hT HG hw HQ
      go_wp2_with fail
      rw [Exit.noGoto_ret]
      go_ret
      exact ⟨rfl, ra, rc, (HT.out.put rfl 9 (by decide) _).put rfl 5 (by decide) _⟩

end Go.Proofs.YtfemnjgcodcfkaaGreatDoor
