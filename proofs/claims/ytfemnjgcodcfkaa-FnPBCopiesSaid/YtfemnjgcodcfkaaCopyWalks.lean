/-
  The walks of laws.FnPBCopies: proto.RawMessage's Marshal and Size, impl.PBCopy, and the law itself, over any slice of bytes.
-/
import Derived.Test.YtfemnjgcodcfkaaRows
import Derived.WalkKit
import Derived.WalkSpells
import Derived.WalkLawsBesides
import Derived.Laws.CopyOwn
import Derived.Laws.BytesArg
import Derived.Deep.QuietTactic
import Derived.BigQuiet
import Derived.Lib.Hide
namespace Go.Proofs.Ytfemnjgcodcfkaa
open Go.RowKit

/-- A slice value (any address) whose elements are the bytes zs. -/
def Src (w : World) (a : Option Addr) (len : Nat) (zs : List Int) : Prop :=
  zs.length = len ∧ ∀ i, i < len → ∃ x, a = some x ∧ w.cell? (x.add i) = some (.int .u8 (zs.getD i 0))

theorem conv_any (w : World) (a : Option Addr) (len cap : Nat) (zs : List Int) (h : Src w a len zs) :
    (convert 22 9 (.slice a len cap)).run Try.prog w = .ok (.string (strOfNums zs)) w := by
  obtain ⟨hl, hc⟩ := h
  rw [run_convert_bytes_string w 22 9 5 a len cap Try.underlying22 Try.underlying5 Try.underlying9]
  cases a with
  | none =>
    have h0 : len = 0 := by
      rcases Nat.eq_zero_or_pos len with h | h
      · exact h
      · obtain ⟨x, hx, _⟩ := hc 0 h; cases hx
    subst h0
    obtain rfl : zs = [] := List.eq_nil_of_length_eq_zero hl
    simp [Conv.bytesToString, strOfNums]
    rfl
  | some x =>
    have hld : (loadCells x len).run Try.prog w = .ok (zs.map (Value.int .u8)).toArray w := by
      have := run_loadCells_list (P := Try.prog) w x (zs.map (Value.int .u8)) (fun j v hj => by
        have hjl : j < zs.length := by
          rcases Nat.lt_or_ge j zs.length with h | h
          · exact h
          · simp [List.getElem?_eq_none (show (zs.map (Value.int .u8)).length ≤ j by simpa using h)] at hj
        obtain ⟨y, hy, hcy⟩ := hc j (by omega)
        cases hy
        rw [hcy]
        simp [List.getElem?_eq_getElem hjl] at hj
        subst hj
        simp [List.getD, List.getElem?_eq_getElem hjl])
      simpa [hl] using this
    rw [run_bytesToString w _ len cap zs hld, foldl_push_bytes]
    simp [strOfNums, ByteArray.empty, ByteArray.emptyWithCapacity]
    rfl

set_option maxHeartbeats 400000 in
theorem size_any (a : Option Addr) (len cap : Nat) (w : World) :
    Calls Try.prog 6 #[.slice a len cap] w fun e w' => e = .returned (.int .i64 len) ∧ w = w' := by
  go_enter Try.func6, Try.ntmps6
  go_wp2
  go_ret
  exact ⟨rfl, rfl⟩

set_option maxHeartbeats 400000 in
theorem marshal_any (a : Option Addr) (len cap g room : Nat) (zs : List Int) (cur : List Value) (w : World)
    (hs : Src w a len zs) (hr : room ≤ len) (hg : w.heap[g]? = some (.cells cur.toArray 5 (0, 0))) (hcur : cur.length = room) (B : Nat) (w0 : World) (hb : Below B w0 w) (hBg : B ≤ g) :
    Calls Try.prog 5 #[.slice a len cap, .slice (some ⟨g, 0, none⟩) room room] w fun e w' => e = .returned .nilIface ∧ Below B w0 w' ∧ w'.heap[g]? = some (.cells ((zs.take room).map (Value.int .u8)).toArray 5 (0, 0)) := by
  have hsz : (Try.prog.info? 5).map (·.size) = some 1 := by kernel_rfl
  obtain ⟨cs, hcs⟩ : ∃ cs, cs = (zs.take room).map (Value.int .u8) := ⟨_, rfl⟩
  have hlen : cs.length = room := by rw [hcs]; simp; have := hs.1; omega
  have hn : cs.length = Nat.min len room := by rw [hlen]; exact (Nat.min_eq_right hr).symm
  have hsrc : ∀ j v, cs[j]? = some v → ∃ x, a = some x ∧ w.cell? (x.add j) = some v := by
    intro j v hj
    rw [hcs] at hj
    have hjr : j < room := by
      rcases Nat.lt_or_ge j room with h | h
      · exact h
      · rw [List.getElem?_eq_none (by rw [← hcs, hlen]; exact h)] at hj; cases hj
    obtain ⟨x, hx, hc⟩ := hs.2 j (by omega)
    refine ⟨x, hx, ?_⟩
    rw [hc, ← hj]
    have := hs.1
    have hjz : j < zs.length := by omega
    simp [List.getD, hjr, List.getElem?_eq_getElem hjz]
  have hpos : 0 < cs.length → (some ⟨g, 0, none⟩ : Option Addr) = some ⟨g, 0, none⟩ ∧ ∃ ad, a = some ad ∧ ∀ j v, cs[j]? = some v → w.cell? (ad.add j) = some v := by
    intro h0
    refine ⟨rfl, ?_⟩
    obtain ⟨x, hx, _⟩ := hs.2 0 (by omega)
    refine ⟨x, hx, fun j v hj => ?_⟩
    obtain ⟨y, hy, hc⟩ := hsrc j v hj
    rw [hx] at hy; cases hy; exact hc
  have h1 : ∀ v ∈ cs, v.oneCell' = true := by
    intro v hv; rw [hcs] at hv; obtain ⟨n, _, rfl⟩ := List.mem_map.1 hv; rfl
  have hfin : splice cur 0 cs = cs := by
    unfold splice
    simp
    omega
  have HF := Lib.hid hfin
  have HC := Lib.hid hcs
  have HN := Lib.hid hn
  have HL := Lib.hid hlen
  have HG := Lib.hid hg
  have HCU := Lib.hid hcur
  clear hfin hcs hn hlen hg hcur hsrc hs
  go_enter Try.func5, Try.ntmps5
  go_wp2_with (with_reducible refine wpList_copy_splice rfl (.tmp 5) (.tmp 6) 22 28 rfl 5 Try.underlying22 hsz _ _ _ _ _ _ rfl rfl g 0 cur 5 HG.out cs HN.out hpos (by have := HL.out; have := HCU.out; omega) h1 B w0 hb hBg ?_)
  intro w2 HG2 hB2
  go_wp2
  go_ret
  refine ⟨rfl, hB2, ?_⟩
  rw [← HC.out, HG2.out, HF.out]

end Go.Proofs.Ytfemnjgcodcfkaa
