/- The flags of a text: skipSpaces, trimTrailingSpaces, ValidPrint, internalParseFlags; kind and withKind. -/
import Derived.Test.YtfemnjgcodcfkaaGreatDoorStr
import Derived.Test.YtfemnjgcodcfkaaGreatDoorFormat

namespace Go.Proofs.YtfemnjgcodcfkaaGreatDoor
open Go.RowKit

/-- A text that lies in a block: n bytes, the first and the last no space. -/
structure Lies (w : World) (blk n : Nat) (L : List Nat) : Prop where
  len : L.length = n
  n1 : 1 ≤ n
  n2 : n ≤ 40
  byte : ∀ u ∈ L, 33 ≤ u ∧ u ≤ 126 ∧ u ≠ 92
  cell : ∀ (i u : Nat), L[i]? = some u → w.cell? ⟨blk, i, none⟩ = some (.int .u8 (u : Int))

theorem Lies.below {w w' : World} {blk n : Nat} {L : List Nat} (h : Lies w blk n L) (hb : Below w.heap.size w w') : Lies w' blk n L :=
  ⟨h.len, h.n1, h.n2, h.byte, fun i u hi => cell_below hb (h.cell i u hi)⟩

theorem Lies.some {w : World} {blk n : Nat} {L : List Nat} (h : Lies w blk n L) {i : Nat} (hi : i < n) : ∃ u, L[i]? = some u ∧ w.cell? ⟨blk, i, none⟩ = some (.int .u8 (u : Int)) ∧ 33 ≤ u ∧ u ≤ 126 ∧ u ≠ 92 := by
  have hl : i < L.length := by rw [h.len]; exact hi
  obtain ⟨a, b, c⟩ := h.byte L[i] (List.getElem_mem hl)
  exact ⟨L[i], List.getElem?_eq_getElem hl, h.cell i _ (List.getElem?_eq_getElem hl), a, b, c⟩

set_option maxHeartbeats 1000000 in
theorem skip_any (w : World) (blk n cap : Nat) (L : List Nat) (h : Lies w blk n L) : Calls Tryz.prog 54 #[.slice (some ⟨blk, 0, none⟩) n cap] w fun e w' => e = .returned (.slice (some ⟨blk, 0, none⟩) n cap) ∧ w = w' := by
  obtain ⟨u, _, hc, hu, _⟩ := h.some (i := 0) h.n1
  have hn := h.n1
  have hle : decide ((u : Int) ≤ 32) = false := by rw [decide_eq_false_iff_not]; omega
  have hgt : decide ((0 : Int) < (n : Int)) = true := by rw [decide_eq_true_iff]; omega
  go_enter Tryz.func54, Tryz.ntmps54
  go_wp2_with fail
  go_ret
  exact ⟨rfl, rfl⟩

set_option maxHeartbeats 1000000 in
theorem trim_any (w : World) (blk n cap : Nat) (L : List Nat) (h : Lies w blk n L) : Calls Tryz.prog 55 #[.slice (some ⟨blk, 0, none⟩) n cap] w fun e w' => e = .returned (.slice (some ⟨blk, 0, none⟩) n cap) ∧ w = w' := by
  have hn := h.n1
  have hn2 := h.n2
  obtain ⟨u, _, hc, hu, _⟩ := h.some (i := n - 1) (by omega)
  have hle : decide ((u : Int) ≤ 32) = false := by rw [decide_eq_false_iff_not]; omega
  have hgt : decide ((0 : Int) < (n : Int)) = true := by rw [decide_eq_true_iff]; omega
  have hb1 : (0 : Int) ≤ (n : Int) - 1 := by omega
  have hb2 : (n : Int) - 1 < (n : Int) := by omega
  have hb3 : ((n : Int) - 1).toNat = n - 1 := by omega
  go_enter Tryz.func55, Tryz.ntmps55
  go_wp2_with fail
  go_ret
  exact ⟨rfl, rfl⟩

set_option maxHeartbeats 1000000 in
theorem valid_byte (w : World) (u : Nat) (h1 : 33 ≤ u) (h2 : u ≤ 126) : Calls Tryz.prog 130 #[.int .u8 (u : Int)] w fun e w' => e = .returned (.bool true) ∧ w = w' := by
  have hle : decide ((32 : Int) ≤ (u : Int)) = true := by rw [decide_eq_true_iff]; omega
  have hle2 : decide ((u : Int) ≤ 126) = true := by rw [decide_eq_true_iff]; omega
  go_enter Tryz.func130, Tryz.ntmps130
  go_wp2_with fail
  go_ret
  exact ⟨rfl, rfl⟩

set_option maxHeartbeats 1000000 in
theorem valid_string (w : World) (s : ByteArray) (L : List Nat) (hs : Bytes s L) (hL : ∀ u ∈ L, 33 ≤ u ∧ u ≤ 126) (hn2 : L.length ≤ 40) : Calls Tryz.prog 114 #[.string s] w fun e w' => e = .returned (.bool true) ∧ w = w' := by
  have hb := get_byteAt s
  have hsz := hs.size
  obtain ⟨n, hn⟩ : ∃ n, n = L.length := ⟨_, rfl⟩
  rw [← hn] at hsz hn2
  have HS := Lib.hid hs
  have HL := Lib.hid hL
  clear hs hL
  go_enter Tryz.func114, Tryz.ntmps114
  go_wp2_with fail
  go_loopw [3] (fun i wr => ∃ t : Nat, t ≤ n ∧ i = .int .i64 (t : Int) ∧ w = wr) (fun i _ => n - (RowKit.intOf i).toNat)
  case atStart => exact ⟨0, Nat.zero_le _, rfl, rfl⟩
  case round =>
    obtain ⟨t, ht, rfl, rfl⟩ := hrel
    rcases Nat.lt_or_ge t n with h | h
    · have hl : t < L.length := by omega
      have hby := HS.out.at_ t L[t] (List.getElem?_eq_getElem hl)
      obtain ⟨h1, h2⟩ := HL.out L[t] (List.getElem_mem hl)
      generalize L[t] = u at hby h1 h2
      clear hn hl
      go_wp2_with (go_at_call 130; refine (valid_byte _ u h1 h2).mono ?_; rintro en w2 ⟨rfl, rfl⟩)
      go_roundw
      case rel => exact ⟨t + 1, by omega, by congr 1, by first | rfl | trivial⟩
      case measure => simp [RowKit.intOf]; omega
    · have htn : t = n := by omega
      clear hn
      subst htn
      go_wp2_with fail
      go_ret
      exact ⟨rfl, rfl⟩

set_option maxHeartbeats 1000000 in
theorem valid_any (w : World) (blk n cap : Nat) (L : List Nat) (h : Lies w blk n L) : Calls Tryz.prog 56 #[.slice (some ⟨blk, 0, none⟩) n cap] w fun e w' => e = .returned (.bool true) ∧ w = w' := by
  have hcv := conv_text w blk n cap L h.len.symm h.cell
  have hB := bytes_nums L (fun u hu => by have := h.byte u hu; omega)
  have hv := valid_string w _ L hB (fun u hu => ⟨(h.byte u hu).1, (h.byte u hu).2.1⟩) (by rw [h.len]; exact h.n2)
  generalize strOfNums (L.map fun (n : Nat) => (n : Int)) = s at hcv hv
  clear hB h
  have h100 : Calls Tryz.prog 100 #[.slice (some ⟨blk, 0, none⟩) n cap] w fun e w' => e = .returned (.bool true) ∧ w = w' := by
    go_enter Tryz.func100, Tryz.ntmps100
    go_wp2_with fail
    refine hv.mono ?_
    rintro en w2 ⟨rfl, rfl⟩
    go_wp2_with fail
    go_ret
    exact ⟨rfl, rfl⟩
  clear hcv hv
  go_enter Tryz.func56, Tryz.ntmps56
  go_wp2_with fail
  refine h100.mono ?_
  rintro en w2 ⟨rfl, rfl⟩
  go_wp2_with fail
  go_ret
  exact ⟨rfl, rfl⟩

theorem index_any (w : World) (blk n cap : Nat) (L : List Nat) (h : Lies w blk n L) : ∃ r : Int, Calls Tryz.prog 57 #[.slice (some ⟨blk, 0, none⟩) n cap, .int .u8 92] w fun e w' => e = .returned (.int .i64 r) ∧ w = w' := by
  refine ⟨_, (Tryz.bytes_IndexByte blk 0 n cap (L.map fun (n : Nat) => (n : Int)) 92 w (by rw [List.length_map]; exact h.len) (fun i hi => ?_)).mono fun e w' hh => ⟨hh.1, hh.2.symm⟩⟩
  obtain ⟨u, hu, hc, _⟩ := h.some hi
  rw [Nat.zero_add, hc]
  simp [List.getD, List.getElem?_map, hu]

/-- A call that leaves some flags. -/
def FlagsOut (w : World) (e : Ending) (w' : World) : Prop := ∃ f : Int, e = .returned (.int .u32 f) ∧ 0 ≤ f ∧ f < 4294967296 ∧ w = w'

set_option maxHeartbeats 1000000 in
theorem flags_any (w : World) (blk n cap : Nat) (L : List Nat) (h : Lies w blk n L) : Calls Tryz.prog 23 #[.slice (some ⟨blk, 0, none⟩) n cap] w (FlagsOut w) := by
  have h1 := skip_any w blk n cap L h
  have h2 := trim_any w blk n cap L h
  have h3 := valid_any w blk n cap L h
  obtain ⟨r, h4⟩ := index_any w blk n cap L h
  have ho1 : bits .or .u32 0 268435456 = 268435456 := by decide
  have ho2 : bits .or .u32 268435456 1073741824 = 1342177280 := by decide
  clear h
  go_enter Tryz.func23, Tryz.ntmps23
  go_wp2_with fail
  refine h1.mono ?_
  rintro en w2 ⟨rfl, rfl⟩
  clear h1
  go_wp2_with fail
  refine h2.mono ?_
  rintro en w2 ⟨rfl, rfl⟩
  clear h2
  go_wp2_with fail
  refine h3.mono ?_
  rintro en w2 ⟨rfl, rfl⟩
  clear h3
  go_wp2_with fail
  refine h4.mono ?_
  rintro en w2 ⟨rfl, rfl⟩
  clear h4
  by_cases hr : r = -1
  · have hr' : (r == -1) = true := by rw [beq_iff_eq]; exact hr
    go_wp2_with fail
    go_ret
    exact ⟨_, rfl, by decide, by decide, rfl⟩
  · have hr' : (r == -1) = false := by rw [beq_eq_false_iff_ne]; exact hr
    go_wp2_with fail
    go_ret
    exact ⟨_, rfl, by decide, by decide, rfl⟩

set_option maxHeartbeats 1000000 in
theorem kind_any (w : World) (f k : Int) (hk : bits .and .u32 (f / 65536) 255 = k) (h0 : 0 ≤ k) (h1 : k < 256) : Calls Tryz.prog 22 #[.int .u32 f] w fun e w' => e = .returned (.int .u64 k) ∧ w = w' := by
  go_enter Tryz.func22, Tryz.ntmps22
  go_wp2_with fail
  go_ret
  exact ⟨rfl, rfl⟩

/-- The cells of a tokenizer: Delim, Value, Err, Depth, Index, IsKey, isKey, json, stack, flags. -/
def tokCells (va er je : Value) (f : Int) : Array Value := #[.int .i32 0, va, er, .int .i64 0, .int .i64 0, .bool false, .bool false, je, .pointer none, .int .u32 f]

/-- A new tokenizer over a text. -/
def TokOut (w : World) (blk n cap : Nat) (e : Ending) (w' : World) : Prop :=
  ∃ f : Int, e = .returned (.pointer (some ⟨w.heap.size, 0, none⟩)) ∧ 0 ≤ f ∧ f < 4294967296 ∧ w' = w.alloc (.cells (tokCells (.slice none 0 0) .nilIface (.slice (some ⟨blk, 0, none⟩) n cap) f) 56)

set_option maxHeartbeats 1000000 in
theorem new_any (w : World) (blk n cap : Nat) (L : List Nat) (h : Lies w blk n L) : Calls Tryz.prog 17 #[.slice (some ⟨blk, 0, none⟩) n cap] w (TokOut w blk n cap) := by
  have hf := flags_any w blk n cap L h
  go_enter Tryz.func17, Tryz.ntmps17
  go_wp2_with fail
  refine hf.mono ?_
  rintro en w2 ⟨f, rfl, hf0, hf1, rfl⟩
  clear hf
  go_wp2_with fail
  go_ret
  exact ⟨f, rfl, hf0, hf1, rfl⟩

end Go.Proofs.YtfemnjgcodcfkaaGreatDoor
