/- A number's text as bytes; a string's bytes in a new block; the words that are no NaN and no infinity. -/
import Derived.Test.YtfemnjgcodcfkaaGreatDoorFlags
import Derived.Test.YtfemnjgcodcfkaaGreatDoorQuo
import Derived.Lib.ConvBytes

namespace Go.Proofs.YtfemnjgcodcfkaaGreatDoor
open Go.RowKit
namespace Fl

/-- A byte of a number's text. -/
def NumByte (u : Nat) : Prop := 48 ≤ u ∧ u ≤ 57 ∨ u = 43 ∨ u = 45 ∨ u = 46 ∨ u = 101

theorem mem_digs {k D u : Nat} (h : u ∈ digs k D) : 48 ≤ u ∧ u ≤ 57 := by
  unfold digs at h
  obtain ⟨t, _, rfl⟩ := List.mem_map.1 h
  omega

theorem mem_mant {ds : List Nat} (hd : ∀ u ∈ ds, 48 ≤ u ∧ u ≤ 57) : (∀ u ∈ mantText ds, NumByte u) ∧ (mantText ds).length ≤ ds.length + 1 ∧ ∃ c, (mantText ds)[0]? = some c ∧ 48 ≤ c ∧ c ≤ 57 := by
  match ds, hd with
  | [], _ => exact ⟨fun u hu => .inl (by simp [mantText] at hu; omega), by simp [mantText], 48, rfl, by decide, by decide⟩
  | [d], hd =>
    have h := hd d (.head _)
    exact ⟨fun u hu => .inl (by simp [mantText] at hu; omega), by simp [mantText], d, rfl, h.1, h.2⟩
  | d :: e :: r, hd =>
    have h := hd d (.head _)
    refine ⟨fun u hu => ?_, by simp [mantText], d, rfl, h.1, h.2⟩
    unfold mantText at hu
    rcases List.mem_cons.1 hu with rfl | hu
    · exact .inl h
    · rcases List.mem_cons.1 hu with rfl | hu
      · exact .inr (.inr (.inr (.inl rfl)))
      · exact .inl (hd u (.tail _ hu))

theorem mem_exp {x : Nat} (h : x < 1000) : (∀ u ∈ expText x, NumByte u) ∧ (expText x).length ≤ 3 := by
  unfold expText
  split
  · exact ⟨fun u hu => .inl (by simp at hu; omega), by simp⟩
  · split
    · exact ⟨fun u hu => .inl (by simp at hu; omega), by simp⟩
    · exact ⟨fun u hu => .inl (by simp at hu; omega), by simp⟩

theorem text_bytes (neg : Bool) (ds : List Nat) (X : Int) (hd : ∀ u ∈ ds, 48 ≤ u ∧ u ≤ 57) (hl : ds.length ≤ 17) (hX : X.natAbs < 1000) :
    (∀ u ∈ text neg ds X, NumByte u) ∧ (text neg ds X).length ≤ 40 ∧ ∃ u, (text neg ds X)[0]? = some u ∧ (u = 45 ∨ 48 ≤ u ∧ u ≤ 57) := by
  obtain ⟨h1, h2, c, hc, hc1, hc2⟩ := mem_mant hd
  obtain ⟨h3, h4⟩ := mem_exp hX
  have hs : ∀ u ∈ signText neg, NumByte u := fun u hu => by
    cases neg
    · cases hu
    · obtain rfl := List.mem_singleton.1 hu
      exact .inr (.inr (.inl rfl))
  have hsl : (signText neg).length ≤ 1 := by cases neg <;> decide
  have he : ∀ u ∈ [101, expSign X], NumByte u := fun u hu => by
    rcases List.mem_cons.1 hu with rfl | hu
    · exact .inr (.inr (.inr (.inr rfl)))
    · obtain rfl := List.mem_singleton.1 hu
      unfold expSign
      split
      · exact .inr (.inr (.inl rfl))
      · exact .inr (.inl rfl)
  refine ⟨fun u hu => ?_, ?_, ?_⟩
  · unfold text at hu
    rcases List.mem_append.1 hu with hu | hu
    · rcases List.mem_append.1 hu with hu | hu
      · rcases List.mem_append.1 hu with hu | hu
        · exact hs u hu
        · exact h1 u hu
      · exact he u hu
    · exact h3 u hu
  · unfold text
    simp only [List.length_append, List.length_cons, List.length_nil]
    omega
  · unfold text
    cases neg
    · refine ⟨c, ?_, .inr ⟨hc1, hc2⟩⟩
      have hml : 0 < (mantText ds).length := (List.getElem?_eq_some_iff.1 hc).1
      rw [show signText false = [] from rfl, List.nil_append, List.append_assoc, List.getElem?_append_left hml, hc]
    · exact ⟨45, rfl, .inl rfl⟩

theorem isText_bytes {r : Nat} {neg : Bool} {L : List Nat} (h : IsText r neg L) : (∀ u ∈ L, NumByte u) ∧ L.length ≤ 40 ∧ ∃ u, L[0]? = some u ∧ (u = 45 ∨ 48 ≤ u ∧ u ≤ 57) := by
  cases h with
  | zero _ => exact text_bytes neg [] 0 (fun _ hu => by cases hu) (by decide) (by decide)
  | some k D P X _ _ hk2 _ _ hP1 _ hX hX2 _ => exact text_bytes neg (digs k D) X (fun u hu => mem_digs hu) (by rw [digs_length]; exact hk2) (by omega)

/-- A word that is neither a NaN nor an infinity. -/
theorem finite_of (v : Nat) (h1 : (Ieee.double.order v v != some .eq) = false) (h2 : (Ieee.double.order (v % 9223372036854775808) 9218868437227405311 == some .gt) = false) :
    v % 9223372036854775808 < 9218868437227405312 := by
  have hs : Ieee.double.signWeight = 9223372036854775808 := dbl_sign
  have hi : Ieee.double.infRung = 9218868437227405312 := dbl_inf
  have hb : Ieee.double.binade = 4503599627370496 := dbl_binade
  rcases Nat.lt_trichotomy (v % 9223372036854775808) 9218868437227405312 with h | h | h
  · exact h
  · rw [h] at h2
    exact absurd h2 (by decide +kernel)
  · exfalso
    have hn : Ieee.double.read v = .nan (v / 9223372036854775808 % 2 == 1) (v % 9223372036854775808 - 9218868437227405312) := by
      unfold Ieee.Format.read
      rw [hs, hi, hb]
      simp only
      rw [if_neg (by omega), if_neg (by omega), if_neg (by omega)]
    have ho : Ieee.double.order v v = none := by
      unfold Ieee.Format.order
      rw [hn]
      rfl
    rw [ho] at h1
    exact absurd h1 (by decide)

theorem word_of (v : Nat) (hv : v < 18446744073709551616) : v = Ieee.double.word (decide (9223372036854775808 ≤ v)) (v % 9223372036854775808) := by
  rw [word_eq]
  by_cases h : 9223372036854775808 ≤ v
  · rw [decide_eq_true h, if_pos rfl]; omega
  · rw [decide_eq_false h, if_neg (by decide)]; omega

end Fl

theorem below_bytes (w : World) (e : TypeId) (s : ByteArray) : Below w.heap.size w (Lib.bytesWorld w e s) :=
  ⟨rfl, rfl, rfl, by rw [Lib.bytesWorld_size]; omega, fun j hj => Lib.bytesWorld_at_old w e s j hj⟩

/-- A string's bytes in a new block. -/
theorem lies_new (w : World) (e : TypeId) (s : ByteArray) (L : List Nat) (hB : Bytes s L) (h1 : 1 ≤ L.length) (h2 : L.length ≤ 40) (hL : ∀ u ∈ L, 33 ≤ u ∧ u ≤ 126 ∧ u ≠ 92) : Lies (Lib.bytesWorld w e s) w.heap.size L.length L := by
  refine ⟨rfl, h1, h2, hL, fun i u hi => ?_⟩
  have hl : i < L.length := (List.getElem?_eq_some_iff.1 hi).1
  have hs : i < s.size := by rw [hB.size]; exact hl
  rw [Lib.bytesWorld_cell w e s i hs, ← hB.at_ i u hi]
  unfold byteAt
  rw [dif_pos hs]
  congr 2
  rw [List.getD_eq_getElem?_getD, Array.getElem?_toList, Array.getElem?_eq_getElem hs]
  rfl

end Go.Proofs.YtfemnjgcodcfkaaGreatDoor
