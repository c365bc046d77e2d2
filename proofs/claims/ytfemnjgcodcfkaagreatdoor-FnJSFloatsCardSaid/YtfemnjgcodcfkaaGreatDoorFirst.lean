/- The first token; Float and Bool of it; the deferred recover. -/
import Derived.Test.YtfemnjgcodcfkaaGreatDoorNext
import Derived.Test.YtfemnjgcodcfkaaGreatDoorKind
import Derived.Test.YtfemnjgcodcfkaaGreatDoorParseText
import Derived.Defers
import Derived.Recover

namespace Go.Proofs.YtfemnjgcodcfkaaGreatDoor
open Go.RowKit

/-- A tokenizer that stands on the one token of a text. -/
def FirstOut (blk n cap k : Nat) (w : World) (e : Ending) (w' : World) : Prop :=
  ∃ (q : Int) (ra : Option Addr) (rc : Nat), e = .returned (.tuple #[.pointer (some ⟨w.heap.size, 0, none⟩), .bool true]) ∧ bits .and .u32 (q / 65536) 255 = (k : Int) ∧ TokC w w' w.heap.size (tokList (.slice (some ⟨blk, 0, none⟩) n cap) .nilIface (.slice ra 0 rc) q)

theorem tok_new (w : World) (je : Value) (f : Int) : TokC w (w.alloc (.cells (tokCells (.slice none 0 0) .nilIface je f) 56)) w.heap.size (tokList (.slice none 0 0) .nilIface je f) := by
  refine ⟨Nat.le_refl _, ?_, fun i v hi => ?_, fun i => World.frozen?_alloc_at _ _ _ _ rfl, (Below.refl _ _).alloc (Nat.le_refl _) _⟩
  · show w.heap.size < (w.heap.push _).size
    rw [Array.size_push]; exact Nat.lt_succ_self _
  · rw [World.cell?_alloc_new]
    rw [← hi]
    show (List.toArray (tokList (.slice none 0 0) .nilIface je f))[i]? = _
    rw [List.getElem?_toArray]

set_option maxHeartbeats 1000000 in
theorem first_any (w : World) (blk n cap u k fn : Nat) (L : List Nat) (h : Lies w blk n L) (hu : L[0]? = some u)
    (hcase : (u = 116 ∧ k = 3 ∧ fn = 27) ∨ (u = 102 ∧ k = 2 ∧ fn = 28) ∨ ((u = 45 ∨ 48 ≤ u ∧ u ≤ 57) ∧ k = 7 ∧ fn = 29))
    (hcall : ∀ (f : Int) (w' : World), Below w.heap.size w w' → Calls Tryz.prog fn #[.agg #[.int .u32 f], .slice (some ⟨blk, 0, none⟩) n cap] w' (KindOut k blk n cap w')) :
    Calls Tryz.prog 12 #[.slice (some ⟨blk, 0, none⟩) n cap] w (FirstOut blk n cap k w) := by
  have hnew := new_any w blk n cap L h
  have hu0 := h.cell 0 u hu
  have hblk := World.block_lt_of_cell? w _ hu0
  have hn := h.n1
  have hk : k < 256 := by omega
  have HNEXT : Hid (∀ f : Int, Calls Tryz.prog 18 #[.pointer (some ⟨w.heap.size, 0, none⟩)] (w.alloc (.cells (tokCells (.slice none 0 0) .nilIface (.slice (some ⟨blk, 0, none⟩) n cap) f) 56)) (fun e w' => e = .returned (.bool true) ∧ ∃ (ra : Option Addr) (rc : Nat), TokC w w' w.heap.size (tokList (.slice (some ⟨blk, 0, none⟩) n cap) .nilIface (.slice ra 0 rc) (bits .or .u32 (bits .and .u32 f 4278255615) ((k : Int) * 65536))))) := fun f =>
    next_any w _ w.heap.size blk n cap u k fn f _ _ (tok_new w _ f) hcase (hcall f) hn (((Below.refl w.heap.size w).alloc (Nat.le_refl _) _).cell (p := ⟨blk, 0, none⟩) hblk |>.trans hu0) (fun e => Nat.ne_of_lt hblk e) rfl rfl
  clear hcall hcase hu0 hu h
  go_enter Tryz.func12, Tryz.ntmps12
  go_wp2_with fail
  refine hnew.mono ?_
  rintro en w2 ⟨f, rfl, hf0, hf1, rfl⟩
  clear hnew
  have hnext := HNEXT.out f
  clear HNEXT
  have HK := Lib.hid (kind_back f hf0 hf1 k hk _ _ rfl rfl)
  generalize bits .or .u32 (bits .and .u32 f 4278255615) ((k : Int) * 65536) = q at hnext HK
  generalize w.alloc (.cells (tokCells (.slice none 0 0) .nilIface (.slice (some ⟨blk, 0, none⟩) n cap) f) 56) = w1 at hnext
  go_wp2_with fail
  refine hnext.mono ?_
  rintro en w3 ⟨rfl, ra, rc, hT⟩
  clear hnext
  have HT := Lib.hid hT
  clear hT
  go_wp2_with fail
  go_ret2
  exact ⟨q, ra, rc, rfl, HK.out, HT.out⟩

set_option maxHeartbeats 1000000 in
theorem bool_any (w : World) (tb : Nat) (q : Int) (k : Nat) (h9 : w.cell? ⟨tb, 9, none⟩ = some (.int .u32 q)) (hk : bits .and .u32 (q / 65536) 255 = (k : Int)) (hk2 : k < 256) (b : Bool) (hb : ((k : Int) == 3) = b) :
    Calls Tryz.prog 16 #[.pointer (some ⟨tb, 0, none⟩)] w fun e w' => e = .returned (.bool b) ∧ w = w' := by
  have hc := kind_any w q k hk (by omega) (by omega)
  clear hk
  go_enter Tryz.func16, Tryz.ntmps16
  go_wp2_with fail
  refine hc.mono ?_
  rintro en w2 ⟨rfl, rfl⟩
  go_wp2_with fail
  go_ret
  exact ⟨rfl, rfl⟩

theorem conv_raw (w : World) (B len cap : Nat) (L : List Nat) (hl : len = L.length) (h : ∀ (j u : Nat), L[j]? = some u → w.cell? ⟨B, j, none⟩ = some (.int .u8 (u : Int))) :
    (convert 49 9 (.slice (some ⟨B, 0, none⟩) len cap)).run Tryz.prog w = .ok (.string (strOfNums (L.map fun (n : Nat) => (n : Int)))) w := by
  have e := conv_text w B len cap L hl h
  rw [run_convert_bytes_string w 29 9 5 (some ⟨B, 0, none⟩) len cap Tryz.underlying29 Tryz.underlying5 Tryz.underlying9] at e
  rw [run_convert_bytes_string w 49 9 5 (some ⟨B, 0, none⟩) len cap Tryz.underlying49 Tryz.underlying5 Tryz.underlying9]
  exact e

set_option maxHeartbeats 1000000 in
theorem float_any (w : World) (tb blk n cap r bp op : Nat) (neg : Bool) (L : List Nat) (h1 : w.cell? ⟨tb, 1, none⟩ = some (.slice (some ⟨blk, 0, none⟩) n cap)) (hl : Lies w blk n L) (hL : Fl.IsText r neg L) (hr : r < 9218868437227405312) (ht : Consts bp op w) :
    Calls Tryz.prog 14 #[.pointer (some ⟨tb, 0, none⟩)] w fun e w' => e = .returned (.float .f64 (Ieee.double.word neg r)) ∧ Below w.heap.size w w' := by
  have hcv := conv_raw w blk n cap L hl.len.symm hl.cell
  have hB := bytes_nums L (fun u hu => by have := hl.byte u hu; omega)
  have hp := parse_text _ neg r L bp op w ht hr hL hB
  generalize strOfNums (L.map fun (n : Nat) => (n : Int)) = s at hcv hp
  generalize Ieee.double.word neg r = v at hp
  clear hB hl hL hr ht
  go_enter Tryz.func14, Tryz.ntmps14
  go_wp2_with fail
  refine hp.mono ?_
  rintro en w2 ⟨rfl, hb2⟩
  have HB := Lib.hid hb2
  clear hp hcv hb2
  go_wp2_with fail
  go_ret
  exact ⟨rfl, HB.out⟩

theorem caught_idle (p : Addr) (w : World) :
    CallsD Tryz.prog 11 #[.pointer (some p)] .returning w fun e u' w' => e = .returned (.tuple #[]) ∧ u' = .returning ∧ w' = w := by
  refine callsD_of_wpS Tryz.func11 rfl fun c₀ cs hu => ?_
  apply wpS_seq
  apply wpS_region
  simp [wpOpsS, go_sem, recoverD, hu, Tryz.ntmps11, Exit.thenS]
  refine wpS_cond (t := false) (by simp [Act.eval, Array.replicate]) ?_
  simp only [Bool.false_eq_true, if_false]
  refine wpS_of_wp (wp_skip ?_)
  cases c₀
  simp_all [bodyPostS, results, Tryz.results11]

end Go.Proofs.YtfemnjgcodcfkaaGreatDoor
