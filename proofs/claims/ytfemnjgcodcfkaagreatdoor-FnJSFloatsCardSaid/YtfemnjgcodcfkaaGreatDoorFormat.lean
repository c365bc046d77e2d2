/- FormatFloat in the form with an exponent, shortest, for every finite number. -/
import Derived.Test.YtfemnjgcodcfkaaGreatDoorFtoaAny
import Derived.Laws.BytesArg

namespace Go.Proofs.YtfemnjgcodcfkaaGreatDoor
open Go.RowKit

theorem conv_text (w : World) (B len cap : Nat) (L : List Nat) (hl : len = L.length) (h : ∀ (j u : Nat), L[j]? = some u → w.cell? ⟨B, j, none⟩ = some (.int .u8 (u : Int))) :
    (convert 29 9 (.slice (some ⟨B, 0, none⟩) len cap)).run Tryz.prog w = .ok (.string (strOfNums (L.map fun (n : Nat) => (n : Int)))) w := by
  subst hl
  rw [run_convert_bytes_string w 29 9 5 (some ⟨B, 0, none⟩) L.length cap Tryz.underlying29 Tryz.underlying5 Tryz.underlying9]
  have hld : (loadCells ⟨B, 0, none⟩ L.length).run Tryz.prog w = .ok ((L.map fun (n : Nat) => (n : Int)).map (Value.int .u8)).toArray w := by
    have := run_loadCells_list (P := Tryz.prog) w ⟨B, 0, none⟩ ((L.map fun (n : Nat) => (n : Int)).map (Value.int .u8)) (fun j v hj => by
      rw [List.getElem?_map, List.getElem?_map] at hj
      obtain ⟨x, hx, rfl⟩ := Option.map_eq_some_iff.1 hj
      obtain ⟨y, hy, rfl⟩ := Option.map_eq_some_iff.1 hx
      rw [Lib.add_plain, Nat.zero_add]
      exact h j y hy)
    simpa using this
  rw [run_bytesToString w _ L.length cap _ hld, foldl_push_bytes]
  simp [strOfNums, ByteArray.empty, ByteArray.emptyWithCapacity]
  rfl

theorem Txt.cells {b0 B : Nat} {w0 w : World} {L : List Nat} (h : Txt b0 B w0 w L) (j u : Nat) (hj : L[j]? = some u) : w.cell? ⟨B, j, none⟩ = some (.int .u8 (u : Int)) := by
  have := h.own.cells (g := B) rfl j (.int .u8 (u : Int)) (by unfold u8s; rw [List.getElem?_map, hj]; rfl)
  rw [Lib.add_plain, Nat.zero_add] at this
  exact this

/-- What FormatFloat leaves. -/
def StrOut (r : Nat) (s : Bool) (w : World) (e : Ending) (w' : World) : Prop :=
  ∃ L : List Nat, Fl.IsText r s L ∧ e = .returned (.string (strOfNums (L.map fun (n : Nat) => (n : Int)))) ∧ Below w.heap.size w w'

theorem txt_new {w w1 : World} (hown : w1.ownsRow w.heap.size 5 1 (.slice (some ⟨w.heap.size, 0, none⟩) 0 24) 0 []) : Txt w.heap.size w.heap.size w1 w1 [] := by
  refine ⟨hown, Below.refl _ _, Nat.le_refl _, ?_, fun _ _ _ => rfl⟩
  rcases hown.2 with ⟨hv, _⟩ | ⟨g, cap, cur, hv, _, hg, _⟩
  · cases hv
  · injection hv with ha _ _
    injection ha with ha
    injection ha with ha
    subst ha
    exact (Array.getElem?_eq_some_iff.1 hg).1

set_option maxHeartbeats 1000000 in
theorem format_in (r bp op : Nat) (s : Bool) (w : World) (hr : r < 9218868437227405312) (ht : Consts bp op w) :
    Calls Tryz.prog 15 #[.float .f64 (Ieee.double.word s r), .int .u8 101, .int .i64 (-1), .int .i64 64] w (StrOut r s w) := by
  obtain ⟨i0, hi, hz0, hz1, hz2⟩ := info_parts Tryz.info5
  generalize hv : Ieee.double.word s r = v
  go_enter Tryz.func15, Tryz.ntmps15
  go_wp2_with (at_make; refine wpList_make_own _ rfl _ _ 29 rfl w.heap.size 5 i0 (.int .u8 0) 1 Tryz.underlying29 hi hz0 hz1 _ _ _ 24 rfl rfl rfl (by rw [hz2]; decide) (by decide) (Nat.le_refl _) ?_)
  intro w1 hown hgrow
  have hb1 : Below w.heap.size w w1 := (Below.refl _ _).grown hgrow (Nat.le_refl _) (by intro k h; cases h)
  have hT := txt_new hown
  have hf := ftoa_any w.heap.size w.heap.size r bp op s w1 hr hT (ht.below hb1)
  rw [hv] at hf
  clear hown hgrow
  go_wp2_with fail
  refine hf.mono ?_
  rintro en w2 ⟨L, hL, n, rfl, hn, hT2⟩
  have hcv := conv_text w2 w.heap.size n 24 L hn (fun j u hj => hT2.cells j u hj)
  have HO := Lib.hid (And.intro hL (hb1.trans hT2.below))
  clear hf hL hn hT2 hT hb1 hv
  go_wp2
  go_ret
  exact ⟨L, HO.out.1, rfl, HO.out.2⟩

set_option maxHeartbeats 1000000 in
theorem format_any (r v bp op : Nat) (s : Bool) (w : World) (hr : r < 9218868437227405312) (ht : Consts bp op w) (hv : v = Ieee.double.word s r) :
    Calls Tryz.prog 8 #[.float .f64 v, .int .u8 101, .int .i64 (-1), .int .i64 64] w (StrOut r s w) := by
  have hf := format_in r bp op s w hr ht
  rw [← hv] at hf
  clear hv
  go_enter Tryz.func8, Tryz.ntmps8
  go_wp2_with fail
  refine hf.mono ?_
  rintro en w2 ⟨L, hL, rfl, hb⟩
  have HO := Lib.hid (And.intro hL hb)
  clear hf hL hb
  go_wp2
  go_ret
  exact ⟨L, HO.out.1, rfl, HO.out.2⟩

end Go.Proofs.YtfemnjgcodcfkaaGreatDoor
