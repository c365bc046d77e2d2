/- parseNumber on every text of a number. -/
import Derived.Test.YtfemnjgcodcfkaaGreatDoorNumB
import Derived.Test.YtfemnjgcodcfkaaGreatDoorNumC
import Derived.Test.YtfemnjgcodcfkaaGreatDoorNumD
import Derived.Test.YtfemnjgcodcfkaaGreatDoorNumE
import Derived.Test.YtfemnjgcodcfkaaGreatDoorNumF
import Derived.Test.YtfemnjgcodcfkaaGreatDoorFlags

namespace Go.Proofs.YtfemnjgcodcfkaaGreatDoor
open Go.RowKit

theorem numBytes_of {s : ByteArray} {L : List Nat} {w : World} {blk q k D mlen m x sg n : Nat} (hP : Places s q k D mlen m x sg n) (hB : Bytes s L) (hc : ∀ (i u : Nat), L[i]? = some u → w.cell? ⟨blk, i, none⟩ = some (.int .u8 (u : Int)))
    (hq : q = 1 → byteAt s 0 = 45) (hml : mlen = if k = 1 then 1 else k + 1) (hk : 1 ≤ k) (hm : 1 ≤ m) (hsg : sg = 43 ∨ sg = 45) (hn : n ≤ 40) : NumBytes (fun i => (byteAt s i).toNat) w blk q mlen m n := by
  have hlen : L.length = n := by rw [← hB.size]; exact hP.size
  refine ⟨hP.len, hm, ⟨by rw [hml]; split <;> omega, hn⟩, fun i hi => ?_, fun h => by simp only [hq h]; rfl, ?_, fun h => ?_, fun i h1 h2 => ?_, by simp only [hP.e]; rfl, ?_, fun i h1 h2 => ?_⟩
  · have hl : i < L.length := by omega
    have h1 := hc i L[i] (List.getElem?_eq_getElem hl)
    have h2 := hB.at_ i L[i] (List.getElem?_eq_getElem hl)
    simp only [h2, Int.toNat_natCast]
    exact h1
  · simp only [hP.first, Int.toNat_natCast]; omega
  · have hk2 : 2 ≤ k := by rw [hml] at h; split at h <;> omega
    simp only [hP.dot hk2]; rfl
  · have hk1 : k ≠ 1 := by rintro rfl; rw [if_pos rfl] at hml; omega
    rw [if_neg hk1] at hml
    have := hP.more (i - q - 1) (by omega) (by omega)
    rw [show q + 1 + (i - q - 1) = i by omega] at this
    simp only [this, Int.toNat_natCast]; omega
  · simp only [hP.sign, Int.toNat_natCast]; exact hsg
  · have hl := hP.len
    have := hP.exp (i - (q + mlen + 2)) (by omega)
    rw [show q + mlen + 2 + (i - (q + mlen + 2)) = i by omega] at this
    simp only [this, Int.toNat_natCast]; omega

theorem num_bytes (c : Nat → Nat) (q mlen m n blk cap : Nat) (fl : Int) (w : World) (hB : NumBytes c w blk q mlen m n) (hq : q ≤ 1) (hcap : n ≤ cap) (h48 : c q = 48 → mlen = 1) (hml : mlen = 1 ∨ 3 ≤ mlen) :
    Calls Tryz.prog 29 #[.agg #[.int .u32 fl], .slice (some ⟨blk, 0, none⟩) n cap] w (NumOut blk n cap w) := by
  have hf := hB.first
  rcases Nat.lt_or_ge 0 q with h | h
  · obtain rfl : q = 1 := by omega
    rcases hml with h1 | h1
    · rcases Nat.lt_or_ge (c 1) 49 with h2 | h2
      · exact num_zero1 c mlen m n blk cap fl w hB hcap (by omega) h1
      · exact num_one1 c mlen m n blk cap fl w hB hcap h2 h1
    · exact num_many1 c mlen m n blk cap fl w hB hcap (Nat.le_of_not_lt fun h2 => by have := h48 (by omega); omega) h1
  · obtain rfl : q = 0 := by omega
    rcases hml with h1 | h1
    · rcases Nat.lt_or_ge (c 0) 49 with h2 | h2
      · exact num_zero0 c mlen m n blk cap fl w hB hcap (by omega) h1
      · exact num_one0 c mlen m n blk cap fl w hB hcap h2 h1
    · exact num_many0 c mlen m n blk cap fl w hB hcap (Nat.le_of_not_lt fun h2 => by have := h48 (by omega); omega) h1

/-- The text lies in a block: parseNumber takes all of it. -/
theorem num_text (r : Nat) (neg : Bool) (L : List Nat) (n blk cap : Nat) (fl : Int) (w : World) (hL : Fl.IsText r neg L) (hn : L.length = n) (hn2 : n ≤ 40) (hb : ∀ u ∈ L, u < 256) (hc : ∀ (i u : Nat), L[i]? = some u → w.cell? ⟨blk, i, none⟩ = some (.int .u8 (u : Int))) (hcap : n ≤ cap) :
    Calls Tryz.prog 29 #[.agg #[.int .u32 fl], .slice (some ⟨blk, 0, none⟩) n cap] w (NumOut blk n cap w) := by
  have hB := bytes_nums L hb
  generalize strOfNums (L.map fun (n : Nat) => (n : Int)) = s at hB
  cases hL with
  | zero h0 =>
    have hsz := hB.size
    cases neg
    · have e : Fl.text false [] 0 = [] ++ Fl.mantText (Fl.digs 1 0) ++ [101, 43] ++ Fl.digs 2 0 := rfl
      rw [e] at hB hc hn
      have hP := places_of (Nat.le_refl 1) hB
      have e5 : n = 5 := by rw [← hn]; rfl
      subst e5
      have hN := numBytes_of hP hB hc (fun h => by cases h) rfl (Nat.le_refl 1) (by decide) (.inl rfl) (by decide)
      exact num_bytes _ 0 1 2 5 blk cap fl w hN (by decide) hcap (fun _ => rfl) (.inl rfl)
    · have e : Fl.text true [] 0 = [45] ++ Fl.mantText (Fl.digs 1 0) ++ [101, 43] ++ Fl.digs 2 0 := rfl
      rw [e] at hB hc hn
      have hP := places_of (Nat.le_refl 1) hB
      have e5 : n = 6 := by rw [← hn]; rfl
      subst e5
      have h0' := hB.at_ 0 45 rfl
      have hN := numBytes_of hP hB hc (fun _ => h0') rfl (Nat.le_refl 1) (by decide) (.inl rfl) (by decide)
      exact num_bytes _ 1 1 2 6 blk cap fl w hN (by decide) hcap (fun _ => rfl) (.inl rfl)
  | some k D P X hr hk hk2 hD1 hD hP1 hP2 hX hX2 hN0 =>
    obtain ⟨m, hm1, hm2, hx, he⟩ := Fl.expText_digs (x := X.natAbs) (by omega)
    obtain ⟨c0, hc0, hc1, hc2, _⟩ := Fl.first_digit hk hD1 hD
    have hsgn : ∃ sg, (sg = 43 ∨ sg = 45) ∧ Fl.text neg (Fl.digs k D) X = Fl.signText neg ++ Fl.mantText (Fl.digs k D) ++ [101, sg] ++ Fl.digs m X.natAbs := by
      rcases Int.lt_or_le X 0 with h | h
      · exact ⟨45, .inr rfl, by rw [Fl.text_neg neg (Fl.digs k D) (X := X) (x := X.natAbs) (by omega) (by omega), he]⟩
      · exact ⟨43, .inl rfl, by rw [Fl.text_pos neg (Fl.digs k D) (X := X) (x := X.natAbs) (by omega), he]⟩
    obtain ⟨sg, hsg, ht⟩ := hsgn
    rw [ht] at hB hc hn
    have hP := places_of hk hB
    have hq : (Fl.signText neg).length ≤ 1 := by cases neg <;> decide
    have hq1 : (Fl.signText neg).length = 1 → byteAt s 0 = 45 := fun h => by
      cases neg
      · cases h
      · exact hB.at_ 0 45 rfl
    have e := hP.size
    rw [hB.size, hn] at e
    rw [← e] at hP
    have hN := numBytes_of hP hB hc hq1 rfl hk (by omega) hsg hn2
    refine num_bytes _ _ _ m n blk cap fl w hN hq hcap (fun h => ?_) (by split <;> omega)
    exfalso
    have hf := hP.first
    rw [← hc0] at hf
    simp only [hf, Int.toNat_natCast] at h
    omega

end Go.Proofs.YtfemnjgcodcfkaaGreatDoor
