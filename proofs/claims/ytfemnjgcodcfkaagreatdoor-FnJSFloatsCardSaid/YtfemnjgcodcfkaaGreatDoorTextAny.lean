/- fmtEFG, for every list of digits. -/
import Derived.Test.YtfemnjgcodcfkaaGreatDoorTextMore
import Derived.Test.YtfemnjgcodcfkaaGreatDoorZeroText
import Derived.Test.YtfemnjgcodcfkaaGreatDoorDigits

namespace Go.Proofs.YtfemnjgcodcfkaaGreatDoor
open Go.RowKit

theorem fmt_list (b0 B bb d : Nat) (r : List Nat) (neg : Bool) (dp nd pr : Int) (w : World) (hT : Txt b0 B w w []) (hc : ∀ (j u : Nat), (d :: r)[j]? = some u → w.cell? ⟨bb, j, none⟩ = some (.int .u8 (u : Int))) (hb : bb ≠ B)
    (hd1 : -390 ≤ dp) (hd2 : dp ≤ 390) (hr : r.length ≤ 16) (hnd : nd = r.length + 1) (hpr : pr = r.length) :
    Calls Tryz.prog 43 #[.slice (some ⟨B, 0, none⟩) 0 24, .bool neg, .slice (some ⟨bb, 0, none⟩) 32 32, .int .i64 dp, .int .i64 nd, .int .i64 pr, .int .u8 101, .bool true] w (FmtOut b0 B w (Fl.text neg (d :: r) (dp - 1))) := by
  subst hnd hpr
  have h0 := hc 0 d rfl
  have hr' : ∀ (j u : Nat), r[j]? = some u → w.cell? ⟨bb, 1 + j, none⟩ = some (.int .u8 (u : Int)) := fun j u hj => by
    rw [Nat.add_comm 1 j]
    exact hc (j + 1) u (by rw [List.getElem?_cons_succ]; exact hj)
  cases r with
  | nil =>
    rcases Int.lt_or_le (dp - 1) 0 with h | h
    · exact fmt1n b0 B bb d (-(dp - 1)).toNat neg dp w hT h0 hb (by omega) (by omega) (by omega)
    · exact fmt1p b0 B bb d (dp - 1).toNat neg dp w hT h0 hb (by omega) (by omega)
  | cons e es =>
    rcases Int.lt_or_le (dp - 1) 0 with h | h
    · exact fmt2n b0 B bb d (-(dp - 1)).toNat (e :: es) _ neg dp w hT h0 hr' rfl (by simp) hr hb (by omega) (by omega) (by omega)
    · exact fmt2p b0 B bb d (dp - 1).toNat (e :: es) _ neg dp w hT h0 hr' rfl (by simp) hr hb (by omega) (by omega)

theorem fmt_any (b0 B bb k D : Nat) (neg : Bool) (dp nd pr : Int) (w : World) (hT : Txt b0 B w w []) (hc : ∀ t, t < k → w.cell? ⟨bb, t, none⟩ = some (.int .u8 ((48 + D / 10 ^ (k - 1 - t) % 10 : Nat) : Int))) (hb : bb ≠ B)
    (hd1 : -390 ≤ dp) (hd2 : dp ≤ 390) (hk : 1 ≤ k) (hk2 : k ≤ 17) (hnd : nd = k) (hpr : pr = (k : Int) - 1) :
    Calls Tryz.prog 43 #[.slice (some ⟨B, 0, none⟩) 0 24, .bool neg, .slice (some ⟨bb, 0, none⟩) 32 32, .int .i64 dp, .int .i64 nd, .int .i64 pr, .int .u8 101, .bool true] w (FmtOut b0 B w (Fl.text neg (Fl.digs k D) (dp - 1))) := by
  have hl := Fl.digs_length k D
  have hc' : ∀ (j u : Nat), (Fl.digs k D)[j]? = some u → w.cell? ⟨bb, j, none⟩ = some (.int .u8 (u : Int)) := fun j u hj => by
    have hjk : j < k := by
      have := (List.getElem?_eq_some_iff.1 hj).1
      omega
    rw [Fl.digs_at hjk] at hj
    cases hj
    exact hc j hjk
  match hds : Fl.digs k D, hl, hc' with
  | [], hl, _ => simp at hl; omega
  | d :: r, hl, hc' =>
    simp at hl
    exact fmt_list b0 B bb d r neg dp nd pr w hT hc' hb hd1 hd2 (by omega) (by omega) (by omega)

end Go.Proofs.YtfemnjgcodcfkaaGreatDoor
