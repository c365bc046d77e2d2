/-
  The walks of impl.PBCopy and of laws.FnPBCopies.
-/
import Derived.Test.YtfemnjgcodcfkaaCopyWalks
namespace Go.Proofs.Ytfemnjgcodcfkaa
open Go.RowKit

theorem Try.info5 : (Try.prog.info? 5).map (fun i => (i.zero, i.size, i.bytes)) = some (some (.int .u8 0), 1, 1) := by kernel_rfl

theorem Src.below {w w' : World} {a : Option Addr} {len : Nat} {zs : List Int} {B : Nat} (h : Src w a len zs) (hb : Below B w w') (hlt : ∀ x, a = some x → 0 < len → x.block < B) : Src w' a len zs := by
  refine ⟨h.1, fun i hi => ?_⟩
  obtain ⟨x, hx, hc⟩ := h.2 i hi
  refine ⟨x, hx, ?_⟩
  have hblk : (x.add i).block = x.block := by unfold Addr.add; split <;> rfl
  have := hb.cell (p := x.add i) (by rw [hblk]; exact hlt x hx (by omega))
  rw [this, hc]

theorem Src.drewN {w : World} {a : Option Addr} {len : Nat} {zs : List Int} (h : Src w a len zs) (n : Nat) : Src (w.drewN n) a len zs := by
  refine ⟨h.1, fun i hi => ?_⟩
  obtain ⟨x, hx, hc⟩ := h.2 i hi
  exact ⟨x, hx, by simpa using hc⟩

theorem block_lt {w : World} {p : Addr} {v : Value} (h : w.cell? p = some v) : p.block < w.heap.size := by
  unfold World.cell? at h
  rcases Nat.lt_or_ge p.block w.heap.size with h1 | h1
  · exact h1
  · simp [Array.getElem?_eq_none h1] at h

theorem Src.lt {w : World} {a : Option Addr} {len : Nat} {zs : List Int} (h : Src w a len zs) : ∀ x, a = some x → 0 < len → x.block < w.heap.size := by
  intro x hx h0
  obtain ⟨y, hy, hc⟩ := h.2 0 h0
  rw [hx] at hy; cases hy
  have hblk : (x.add 0).block = x.block := by unfold Addr.add; split <;> rfl
  rw [← hblk]
  exact block_lt hc

theorem row_of_own {w w1 : World} {room : Nat} {xs : List Value} (hown : w1.ownsRow w.heap.size 5 1 (Value.slice (some ⟨w.heap.size, 0, none⟩) room room) room xs) :
    ∃ cur : List Value, w1.heap[w.heap.size]? = some (.cells cur.toArray 5 (0, 0)) ∧ cur.length = room := by
  obtain ⟨_, h | ⟨g, cap, cur, hv, _, hg, _, _, hsz, _⟩⟩ := hown
  · simp at h
  · simp at hv
    obtain ⟨rfl, rfl⟩ := hv
    exact ⟨cur.toList, by simpa using hg, by simpa using hsz⟩

set_option maxHeartbeats 400000 in
theorem copy_any (a : Option Addr) (len cap room : Nat) (zs : List Int) (w : World) (hs : Src w a len zs) (hr : room ≤ len) (hl : len ≤ 2147483647) :
    Calls Try.prog 4 #[.slice a len cap, .int .i64 room] w fun e w' => e = .returned (.tuple #[.slice (some ⟨w.heap.size, 0, none⟩) room room, .int .i64 len, .bool true]) ∧ Below w.heap.size w w' ∧
      w'.heap[w.heap.size]? = some (.cells ((zs.take room).map (Value.int .u8)).toArray 5 (0, 0)) := by
  obtain ⟨i0, hi, hz0, hz1, hz2⟩ := info_parts Try.info5
  have hlt := hs.lt
  have hneg : decide ((room : Int) < 0) = false := by simp
  go_enter Try.func4, Try.ntmps4
  go_wp2_with (at_make; refine wpList_make_full _ rfl _ _ 22 rfl w.heap.size 5 i0 (.int .u8 0) 1 Try.underlying22 hi hz0 hz1 _ _ _ _ room rfl rfl rfl rfl (by rw [hz2]; omega) (by unfold maxLen; omega) (Nat.le_refl _) ?_)
  intro w1 hown hgrow
  obtain ⟨cur, hg, hcl⟩ := row_of_own hown
  have hb1 : Below w.heap.size w w1 := (Below.refl _ _).grown hgrow (Nat.le_refl _) (by intro k h; cases h)
  have hs1 := hs.below hb1 hlt
  clear hown hgrow
  have HG := Lib.hid hg
  have HC := Lib.hid hcl
  have HS := Lib.hid hs1
  clear hg hcl hs1
  go_wp2_with (go_at_call 5; refine (marshal_any a len cap w.heap.size room zs cur w1 HS.out hr HG.out HC.out w.heap.size w hb1 (Nat.le_refl _)).mono ?_; rintro e w2 ⟨rfl, hb2, hg2⟩; have HG2 := Lib.hid hg2; clear hg2)
  go_quiet ((go_at_call 6; exact Calls.quiet_of_same ((size_any _ _ _ _).mono fun _ _ h => ⟨h.1, h.2.symm⟩)))
  go_wp2
  go_ret3
  refine ⟨rfl, ?_, ?_⟩
  · exact below_drewN hb2 _
  · exact HG2.out

theorem copy_at (a : Option Addr) (len cap room : Nat) (r : Int) (zs : List Int) (w : World) (hs : Src w a len zs) (hr : room ≤ len) (hl : len ≤ 2147483647) (hrr : r = (room : Int)) :
    Calls Try.prog 4 #[.slice a len cap, .int .i64 r] w fun e w' => e = .returned (.tuple #[.slice (some ⟨w.heap.size, 0, none⟩) room room, .int .i64 len, .bool true]) ∧ Below w.heap.size w w' ∧
      w'.heap[w.heap.size]? = some (.cells ((zs.take room).map (Value.int .u8)).toArray 5 (0, 0)) := by
  subst hrr
  exact copy_any a len cap room zs w hs hr hl

theorem src_of_heap {w : World} {g room : Nat} {zs : List Int} (hz : room ≤ zs.length) (h : w.heap[g]? = some (.cells ((zs.take room).map (Value.int .u8)).toArray 5 (0, 0))) :
    Src w (some ⟨g, 0, none⟩) room (zs.take room) := by
  refine ⟨by simp; omega, fun i hi => ⟨_, rfl, ?_⟩⟩
  have hil : i < (zs.take room).length := by simp; omega
  have : ((⟨g, 0, none⟩ : Addr).add i) = ⟨g, i, none⟩ := by unfold Addr.add; split <;> simp_all
  rw [this]
  simp only [World.cell?, h]
  have hiz : i < zs.length := by omega
  simp [List.getD, hi, List.getElem?_eq_getElem hiz]

set_option maxHeartbeats 400000 in
theorem law_big (a : Option Addr) (len cap : Nat) (less : Int) (w : World) (h : 2147483647 < len) :
    Calls Try.prog 3 #[.slice a len cap, .int .u8 less] w fun e w' => e = .returned (.bool true) ∧ Below w.heap.size w w' := by
  have h' : (2147483647 : Int) < (len : Int) := by omega
  go_enter Try.func3, Try.ntmps3
  go_wp2
  go_ret
  exact ⟨rfl, Below.refl _ _⟩

set_option maxHeartbeats 400000 in
theorem law_small (a : Option Addr) (len cap : Nat) (less : Int) (zs : List Int) (w : World) (hs : Src w a len zs) (hl : len ≤ 2147483647) (h0 : ¬ 0 < less ∨ len = 0) (hz : zs.length = len) :
    Calls Try.prog 3 #[.slice a len cap, .int .u8 less] w fun e w' => e = .returned (.bool true) ∧ Below w.heap.size w w' := by
  have hlt := hs.lt
  have hn : ¬ ((2147483647 : Int) < (len : Int)) := by omega
  have htk : zs.take len = zs := List.take_of_length_le (by omega)
  have HT := Lib.hid htk
  have HZ := Lib.hid hz
  clear htk hz
  go_enter Try.func3, Try.ntmps3
  go_wp2_with (go_at_call 4; refine (copy_any a len cap len zs w hs (Nat.le_refl _) hl).mono ?_; rintro e w1 ⟨rfl, hb1, hg1⟩; have hcm := conv_any w1 a len cap zs (hs.below hb1 hlt); have hco := conv_any w1 _ len len _ (src_of_heap (by have := HZ.out; omega) hg1); rw [HT.out] at hco; clear hg1)
  all_goals (go_ret; exact ⟨rfl, by assumption⟩)

theorem src_take {w : World} {a : Option Addr} {len : Nat} {zs : List Int} (h : Src w a len zs) (k : Nat) (hk : k ≤ len) : Src w a k (zs.take k) := by
  refine ⟨by have := h.1; simp; omega, fun i hi => ?_⟩
  obtain ⟨x, hx, hc⟩ := h.2 i (by omega)
  refine ⟨x, hx, ?_⟩
  rw [hc]
  have := h.1
  have hiz : i < zs.length := by omega
  simp [List.getD, hi, List.getElem?_eq_getElem hiz]

set_option maxHeartbeats 400000 in
theorem law_pos (x : Addr) (len cap : Nat) (less : Int) (zs : List Int) (w : World) (hs : Src w (some x) len zs) (hl : len ≤ 2147483647) (hcap : len ≤ cap) (hcm : cap ≤ maxLen) (h0 : 0 < less) (h1 : less ≤ 255) (hlen : 0 < len) (hz : zs.length = len) :
    Calls Try.prog 3 #[.slice (some x) len cap, .int .u8 less] w fun e w' => e = .returned (.bool true) ∧ Below w.heap.size w w' := by
  have hlt := hs.lt
  have hn : ¬ ((2147483647 : Int) < (len : Int)) := by omega
  have hpos : (0 : Int) < (len : Int) := by omega
  have htk : zs.take len = zs := List.take_of_length_le (by omega)
  obtain ⟨k, hk⟩ : ∃ k : Nat, (k : Int) = (len : Int) - 1 - less % (len : Int) := by
    have h2 := Int.emod_nonneg less (show (len : Int) ≠ 0 by omega)
    have h3 := Int.emod_lt_of_pos less hpos
    exact ⟨((len : Int) - 1 - less % (len : Int)).toNat, by omega⟩
  have hkl : k < len := by
    have h2 := Int.emod_nonneg less (show (len : Int) ≠ 0 by omega)
    omega
  have hm0 : 0 ≤ less % (len : Int) := Int.emod_nonneg less (show (len : Int) ≠ 0 by omega)
  have hm1 : less % (len : Int) < (len : Int) := Int.emod_lt_of_pos less hpos
  unfold maxLen at hcm
  have HT := Lib.hid htk
  have HZ := Lib.hid hz
  have HK := Lib.hid hk
  clear htk hz hk
  go_enter Try.func3, Try.ntmps3
  go_wp2_with fail
  refine (copy_any (some x) len cap len zs w hs (Nat.le_refl _) hl).mono ?_
  rintro e w1 ⟨rfl, hb1, hg1⟩
  have hcv := conv_any w1 (some x) len cap zs (hs.below hb1 hlt)
  have hco := conv_any w1 _ len len _ (src_of_heap (by have := HZ.out; omega) hg1)
  rw [HT.out] at hco
  clear hg1
  go_wp2_with fail
  have hb1' := hb1
  clear hcv hco
  rw [← HK.out]
  refine (copy_any (some x) len cap k zs w1 (hs.below hb1 hlt) (by omega) hl).mono ?_
  rintro e w2 ⟨rfl, hb2, hg2⟩
  have hb := hb1.trans (hb2.mono hb1.size)
  have hcv := fun n c => conv_any (w2.drewN n) (some x) k c _ ((src_take (hs.below hb hlt) k (by omega)).drewN n)
  have hco := fun n => conv_any (w2.drewN n) _ k k _ ((src_of_heap (by have := HZ.out; omega) hg2).drewN n)
  clear hg2
  go_wp2_with fail
  go_quiet (fail)
  go_wp2
  go_ret
  exact ⟨rfl, below_drewN hb _⟩

end Go.Proofs.Ytfemnjgcodcfkaa
