/- parseNumber, one of its six walks (gennum.py prints them). -/
import Derived.Test.YtfemnjgcodcfkaaGreatDoorNum

namespace Go.Proofs.YtfemnjgcodcfkaaGreatDoor
open Go.RowKit

set_option maxRecDepth 100000 in
set_option maxHeartbeats 4000000 in
theorem num_zero1 (c : Nat → Nat) (mlen m n blk cap : Nat) (fl : Int) (w : World) (hB0 : NumBytes c w blk 1 mlen m n) (hcap : n ≤ cap) (hc48 : c 1 = 48) (hml : mlen = 1) :
    Calls Tryz.prog 29 #[.agg #[.int .u32 fl], .slice (some ⟨blk, 0, none⟩) n cap] w (NumOut blk n cap w) := by
  obtain ⟨wb, hwb⟩ : ∃ wb, w.alloc (.cells #[.int .u32 fl] 54) = wb := ⟨_, rfl⟩
  have hbel : Below w.heap.size w wb := by rw [← hwb]; exact (Below.refl _ _).alloc (Nat.le_refl _) _
  have hB := hB0.below hbel
  clear hB0
  have hlen := hB.len
  have hm1 := hB.m1
  have hmb := hB.big
  have hn5 : 3 ≤ n := by omega
  obtain ⟨c0, hc0⟩ : ∃ c0, c0 = c 1 := ⟨_, rfl⟩
  have hq := hB.cell 1 (by omega)
  have hf := hB.first
  rw [← hc0] at hq hf
  obtain ⟨hf1, hf2⟩ := hf
  have hq0 := hB.cell 0 (by omega)
  rw [hB.neg rfl] at hq0
  rw [← hc0] at hc48
  subst hc48
  have h45 : ((48 : Int) == 45) = false := by decide
  have HB := Lib.hid hB
  have HBEL := Lib.hid hbel
  clear hB hc0 hlen hbel
  have hq1 : wb.cell? ⟨blk, 2, none⟩ = some (.int .u8 101) := by have h := HB.out.cell 2 (by omega); rw [show c 2 = 101 by have := HB.out.e; rw [hml] at this; exact this] at h; exact h
  go_enter Tryz.func29, Tryz.ntmps29
  go_wp2_with fail
  go_loopw [8] (fun i wr => i = .int .i64 2 ∧ wb = wr) (fun _ _ => 0)
  case atStart => exact ⟨rfl, rfl⟩
  case round =>
    obtain ⟨rfl, rfl⟩ := hrel
    obtain ⟨p, hp⟩ : ∃ p, p = 2 := ⟨_, rfl⟩
    have HPO := Lib.hid (show p = 1 + mlen by omega)
    rw [show (Value.int .i64 2) = Value.int .i64 (p : Int) by rw [hp]; rfl]
    clear hp hq1
    have hce : wb.cell? ⟨blk, p, none⟩ = some (.int .u8 101) := by have h := HB.out.cell p (by have := HB.out.len; have := HPO.out; omega); rw [show c p = 101 by rw [HPO.out]; exact HB.out.e] at h; exact h
    obtain ⟨sg, hsgv⟩ : ∃ sg, sg = c (p + 1) := ⟨_, rfl⟩
    have hcs : wb.cell? ⟨blk, p + 1, none⟩ = some (.int .u8 (sg : Int)) := by rw [hsgv]; exact HB.out.cell (p + 1) (by have := HB.out.len; have := HPO.out; omega)
    have hsg : sg = 43 ∨ sg = 45 := by rw [hsgv, HPO.out]; exact HB.out.sign
    have hpb : (p : Int) + 2 + m = n := by have := HB.out.len; have := HPO.out; omega
    clear hsgv
    have hm2 : 1 ≤ m := HB.out.m1
    have hes : ((sg : Int) == 43) = decide (sg = 43) := by rcases hsg with h | h <;> subst h <;> rfl
    have hes2 : ((sg : Int) == 45) = decide (sg = 45) := by rcases hsg with h | h <;> subst h <;> rfl
    have hda : decide ((p : Int) + 1 < (n : Int)) = true := by rw [decide_eq_true_iff]; omega
    have hdb : ((p : Int) + 1 + 1 == (n : Int)) = false := by rw [beq_eq_false_iff_ne]; omega
    rcases hsg with hsg | hsg
    all_goals
      subst hsg
      clear hes hes2
      go_wp2_with fail
      go_loopw [7, 8, 13] (fun er i cc wr => ∃ t : Nat, t ≤ m ∧ er = .nilIface ∧ i = .int .i64 ((p + 2 + t : Nat) : Int) ∧ wb = wr) (fun _ i _ _ => n - (RowKit.intOf i).toNat)
      case atStart => exact ⟨0, Nat.zero_le _, rfl, by first | rfl | (congr 1; omega), rfl⟩
      case round =>
        obtain ⟨t, ht, rfl, rfl, rfl⟩ := hrel
        obtain ⟨p2, hp2⟩ : ∃ p2, p2 = p + 2 + t := ⟨_, rfl⟩
        rw [← hp2]
        rcases Nat.lt_or_ge t m with h | h
        · have hpn : p2 < n := by omega
          have hc2 := HB.out.cell p2 hpn
          have hd := HB.out.exp p2 (by have := HPO.out; omega) hpn
          obtain ⟨cc, hcc⟩ : ∃ cc, cc = c p2 := ⟨_, rfl⟩
          rw [← hcc] at hc2 hd
          obtain ⟨hd1, hd2⟩ := hd
          clear hcc
          have HP2 := Lib.hid hp2
          clear hp2
          go_wp2_with fail
          go_roundw
          case rel => exact ⟨t + 1, by omega, rfl, by congr 1; have := HP2.out; omega, by first | rfl | trivial⟩
          case measure => simp [RowKit.intOf]; omega
        · have hpn : p2 = n := by omega
          clear hp2
          subst hpn
          go_wp2_with fail
          go_quiet (fail)
          go_wp2_with fail
          all_goals
            (try simp only [Exit.inBlock, Exit.then]); refine bodyPost_ret (results_tmp4 rfl _ _ _) rfl ?_
            exact numOut_mk HBEL.out


end Go.Proofs.YtfemnjgcodcfkaaGreatDoor
