/- A tokenizer in a block of its own; parseTrue and parseFalse. -/
import Derived.Test.YtfemnjgcodcfkaaGreatDoorKind
import Derived.BigQuiet

namespace Go.Proofs.YtfemnjgcodcfkaaGreatDoor
open Go.RowKit

theorem results_four {fn : Func} {a b c d : Tmp} (h : fn.results = #[.tmp a, .tmp b, .tmp c, .tmp d]) (tmps : Array Value) (P : Program) (w : World) :
    (results fn tmps).run P w = .ok (.tuple #[tmps.getD a undef, tmps.getD b undef, tmps.getD c undef, tmps.getD d undef]) w := by
  simp [results, h, go_sem]

/-- The cells of a tokenizer that was made behind the world w0. -/
structure TokC (w0 w : World) (tb : Nat) (cs : List Value) : Prop where
  base : w0.heap.size ≤ tb
  size : tb < w.heap.size
  cell : ∀ (i : Nat) (v : Value), cs[i]? = some v → w.cell? ⟨tb, i, none⟩ = some v
  fz : ∀ i, w.frozen? ⟨tb, i, none⟩ = false
  below : Below w0.heap.size w0 w

theorem TokC.set {w0 w : World} {tb : Nat} {cs : List Value} (h : TokC w0 w tb cs) (i : Nat) (hi : i < cs.length) (v : Value) : TokC w0 (w.setCell ⟨tb, i, none⟩ v) tb (cs.set i v) := by
  have hc := h.cell i cs[i] (List.getElem?_eq_getElem hi)
  refine ⟨h.base, by simpa using h.size, fun j u hj => ?_, fun j => by simpa using h.fz j, h.below.setCell h.base _⟩
  by_cases hij : i = j
  · subst hij
    rw [List.getElem?_set_self hi] at hj
    obtain rfl := Option.some.inj hj
    exact World.cell?_setCell_same _ _ _ hc
  · rw [List.getElem?_set_ne hij] at hj
    rw [World.cell?_setCell_other (h := fun e => hij (congrArg Addr.off e)) ..]
    exact h.cell j u hj

theorem TokC.put {w0 w : World} {tb : Nat} {cs : List Value} (h : TokC w0 w tb cs) (hl : cs.length = 10) (i : Nat) (hi : i < 10) (v : Value) : TokC w0 (w.setCell ⟨tb, i, none⟩ v) tb (cs.set i v) :=
  h.set i (by rw [hl]; exact hi) v

theorem TokC.later {w0 w w' : World} {tb : Nat} {cs : List Value} (h : TokC w0 w tb cs) (hb : Below w.heap.size w w') : TokC w0 w' tb cs :=
  ⟨h.base, Nat.lt_of_lt_of_le h.size hb.size, fun i v hi => (hb.cell (p := ⟨tb, i, none⟩) h.size).trans (h.cell i v hi), fun i => (hb.frozen (p := ⟨tb, i, none⟩) h.size).trans (h.fz i),
    h.below.trans (hb.mono h.below.size)⟩

theorem TokC.drew {w0 w : World} {tb : Nat} {cs : List Value} (h : TokC w0 w tb cs) : TokC w0 w.drew tb cs := h.later (Below.refl _ _).drew

/-- What parseNumber, parseTrue and parseFalse hand back of a text that is one token of the kind k. -/
def KindOut (k : Nat) (blk n cap : Nat) (w : World) (e : Ending) (w' : World) : Prop :=
  ∃ (ra : Option Addr) (rc : Nat), e = .returned (.tuple #[.slice (some ⟨blk, 0, none⟩) n cap, .slice ra 0 rc, .int .u64 (k : Int), .nilIface]) ∧ Below w.heap.size w w'

set_option maxHeartbeats 1000000 in
theorem true_prefix (w : World) (blk cap : Nat) (hcap : 4 ≤ cap) (h : ∀ (i u : Nat), ([116, 114, 117, 101] : List Nat)[i]? = some u → w.cell? ⟨blk, i, none⟩ = some (.int .u8 (u : Int))) :
    Calls Tryz.prog 64 #[.slice (some ⟨blk, 0, none⟩) 4 cap] w fun e w' => e = .returned (.bool true) ∧ w = w' := by
  have hcv := conv_text w blk 4 cap [116, 114, 117, 101] rfl h
  have hs : strOfNums (([116, 114, 117, 101] : List Nat).map fun (n : Nat) => (n : Int)) = ⟨#[116, 114, 117, 101]⟩ := by decide +kernel
  rw [hs] at hcv
  clear h hs
  go_enter Tryz.func64, Tryz.ntmps64
  go_wp2_with fail
  go_ret
  exact ⟨rfl, rfl⟩

set_option maxHeartbeats 1000000 in
theorem false_prefix (w : World) (blk cap : Nat) (hcap : 5 ≤ cap) (h : ∀ (i u : Nat), ([102, 97, 108, 115, 101] : List Nat)[i]? = some u → w.cell? ⟨blk, i, none⟩ = some (.int .u8 (u : Int))) :
    Calls Tryz.prog 65 #[.slice (some ⟨blk, 0, none⟩) 5 cap] w fun e w' => e = .returned (.bool true) ∧ w = w' := by
  have hcv := conv_text w blk 5 cap [102, 97, 108, 115, 101] rfl h
  have hs : strOfNums (([102, 97, 108, 115, 101] : List Nat).map fun (n : Nat) => (n : Int)) = ⟨#[102, 97, 108, 115, 101]⟩ := by decide +kernel
  rw [hs] at hcv
  clear h hs
  go_enter Tryz.func65, Tryz.ntmps65
  go_wp2_with fail
  go_ret
  exact ⟨rfl, rfl⟩

set_option maxHeartbeats 1000000 in
theorem true_any (w : World) (blk cap : Nat) (fl : Int) (hcap : 4 ≤ cap) (h : ∀ (i u : Nat), ([116, 114, 117, 101] : List Nat)[i]? = some u → w.cell? ⟨blk, i, none⟩ = some (.int .u8 (u : Int))) :
    Calls Tryz.prog 27 #[.agg #[.int .u32 fl], .slice (some ⟨blk, 0, none⟩) 4 cap] w (KindOut 3 blk 4 cap w) := by
  have hb : Below w.heap.size w (w.alloc (.cells #[.int .u32 fl] 54)) := (Below.refl _ _).alloc (Nat.le_refl _) _
  have hp := true_prefix (w.alloc (.cells #[.int .u32 fl] 54)) blk cap hcap (fun i u hi => cell_below hb (h i u hi))
  have HB := Lib.hid hb
  clear hb h
  go_enter Tryz.func27, Tryz.ntmps27
  go_wp2_with fail
  refine hp.mono ?_
  rintro en w2 ⟨rfl, rfl⟩
  clear hp
  go_wp2_with fail
  go_quiet (fail)
  go_wp2_with fail
  all_goals
    (try simp only [Exit.inBlock, Exit.then]); refine bodyPost_ret (results_four rfl _ _ _) rfl ?_
    exact ⟨_, _, rfl, below_drewN HB.out _⟩

set_option maxHeartbeats 1000000 in
theorem false_any (w : World) (blk cap : Nat) (fl : Int) (hcap : 5 ≤ cap) (h : ∀ (i u : Nat), ([102, 97, 108, 115, 101] : List Nat)[i]? = some u → w.cell? ⟨blk, i, none⟩ = some (.int .u8 (u : Int))) :
    Calls Tryz.prog 28 #[.agg #[.int .u32 fl], .slice (some ⟨blk, 0, none⟩) 5 cap] w (KindOut 2 blk 5 cap w) := by
  have hb : Below w.heap.size w (w.alloc (.cells #[.int .u32 fl] 54)) := (Below.refl _ _).alloc (Nat.le_refl _) _
  have hp := false_prefix (w.alloc (.cells #[.int .u32 fl] 54)) blk cap hcap (fun i u hi => cell_below hb (h i u hi))
  have HB := Lib.hid hb
  clear hb h
  go_enter Tryz.func28, Tryz.ntmps28
  go_wp2_with fail
  refine hp.mono ?_
  rintro en w2 ⟨rfl, rfl⟩
  clear hp
  go_wp2_with fail
  go_quiet (fail)
  go_wp2_with fail
  all_goals
    (try simp only [Exit.inBlock, Exit.then]); refine bodyPost_ret (results_four rfl _ _ _) rfl ?_
    exact ⟨_, _, rfl, below_drewN HB.out _⟩

end Go.Proofs.YtfemnjgcodcfkaaGreatDoor
