/- A string's bytes as numbers, and the parts of a number's text by their places. -/
import Derived.Test.YtfemnjgcodcfkaaGreatDoorFtoaAny

namespace Go.Proofs.YtfemnjgcodcfkaaGreatDoor
open Go.RowKit

def byteAt (s : ByteArray) (k : Nat) : Int := if h : k < s.size then ((s[k]'h).toNat : Int) else 0
theorem get_byteAt (s : ByteArray) : ∀ (n : Nat) (h : n < s.size), ((s[n]'h).toNat : Int) = byteAt s n := fun n h => by unfold byteAt; rw [dif_pos h]

theorem results_tmp7 {fn : Func} {a b c d e f g : Tmp} (h : fn.results = #[.tmp a, .tmp b, .tmp c, .tmp d, .tmp e, .tmp f, .tmp g]) (tmps : Array Value) (P : Program) (w : World) :
    (results fn tmps).run P w = .ok (.tuple #[tmps.getD a undef, tmps.getD b undef, tmps.getD c undef, tmps.getD d undef, tmps.getD e undef, tmps.getD f undef, tmps.getD g undef]) w := by
  simp [results, h, go_sem]

namespace Fl
/-- The first t of the k digits of D, as a number. -/
def pre (k D t : Nat) : Nat := D / 10 ^ (k - t)
theorem pre_zero {k D : Nat} (h : D < 10 ^ k) : pre k D 0 = 0 := Nat.div_eq_of_lt h
theorem pre_all (k D : Nat) : pre k D k = D := by unfold pre; rw [Nat.sub_self, Nat.pow_zero, Nat.div_one]
theorem pre_succ {k D t : Nat} (h : t < k) : pre k D (t + 1) = pre k D t * 10 + D / 10 ^ (k - 1 - t) % 10 := by
  unfold pre
  have e : k - t = (k - (t + 1)) + 1 := by omega
  have e2 : k - 1 - t = k - (t + 1) := by omega
  rw [e, e2, Nat.pow_succ, ← Nat.div_div_eq_div_mul]
  omega
theorem pre_le (k D t : Nat) : pre k D t ≤ D := Nat.div_le_self _ _

/-- The exponent's digits. -/
theorem expText_digs {x : Nat} (h : x < 1000) : ∃ m, 2 ≤ m ∧ m ≤ 3 ∧ x < 10 ^ m ∧ expText x = digs m x := by
  rcases Nat.lt_or_ge x 100 with h2 | h2
  · refine ⟨2, by decide, by decide, by omega, ?_⟩
    have hr : List.range 2 = [0, 1] := rfl
    unfold digs
    rw [hr]
    rcases Nat.lt_or_ge x 10 with h3 | h3
    · rw [expText_1 h3]; simp; omega
    · rw [expText_2 (by omega) h2]; simp; omega
  · refine ⟨3, by decide, by decide, by omega, ?_⟩
    have hr : List.range 3 = [0, 1, 2] := rfl
    unfold digs
    rw [hr, expText_3 (by omega)]
    simp; omega
end Fl

/-- The bytes of the string s are the list L. -/
structure Bytes (s : ByteArray) (L : List Nat) : Prop where
  size : s.size = L.length
  at_ : ∀ (k u : Nat), L[k]? = some u → byteAt s k = (u : Int)

/-- Where the parts of a number's text lie in the string: the digits from place q on, the point, the exponent. -/
structure Places (s : ByteArray) (q k D mlen m x sg n : Nat) : Prop where
  size : s.size = n
  len : n = q + mlen + 2 + m
  first : byteAt s q = ((48 + D / 10 ^ (k - 1) % 10 : Nat) : Int)
  dot : 2 ≤ k → byteAt s (q + 1) = 46
  more : ∀ t, 1 ≤ t → t < k → byteAt s (q + 1 + t) = ((48 + D / 10 ^ (k - 1 - t) % 10 : Nat) : Int)
  e : byteAt s (q + mlen) = 101
  sign : byteAt s (q + mlen + 1) = (sg : Int)
  exp : ∀ t, t < m → byteAt s (q + mlen + 2 + t) = ((48 + x / 10 ^ (m - 1 - t) % 10 : Nat) : Int)

theorem places_of {s : ByteArray} {k D m x sg : Nat} {pfx : List Nat} (hk : 1 ≤ k) (h : Bytes s (pfx ++ Fl.mantText (Fl.digs k D) ++ [101, sg] ++ Fl.digs m x)) :
    Places s pfx.length k D (if k = 1 then 1 else k + 1) m x sg (pfx.length + (if k = 1 then 1 else k + 1) + 2 + m) := by
  have hmt : (Fl.mantText (Fl.digs k D)).length = (if k = 1 then 1 else k + 1) ∧ (Fl.mantText (Fl.digs k D))[0]? = some (48 + D / 10 ^ (k - 1) % 10) ∧ (2 ≤ k → (Fl.mantText (Fl.digs k D))[1]? = some 46) ∧
      ∀ t, 1 ≤ t → t < k → (Fl.mantText (Fl.digs k D))[1 + t]? = some (48 + D / 10 ^ (k - 1 - t) % 10) := by
    have hl := Fl.digs_length k D
    have hat := fun t h => Fl.digs_at (D := D) (k := k) (t := t) h
    match hds : Fl.digs k D with
    | [] => rw [hds] at hl; simp at hl; omega
    | [d] =>
      rw [hds] at hl hat
      simp at hl
      subst hl
      refine ⟨rfl, ?_, fun h => by omega, fun t h1 h2 => by omega⟩
      have := hat 0 (by omega)
      simpa [Fl.mantText] using this
    | d :: e :: r =>
      rw [hds] at hl hat
      simp at hl
      refine ⟨?_, ?_, fun _ => rfl, fun t h1 h2 => ?_⟩
      · rw [if_neg (by omega)]; simp [Fl.mantText]; omega
      · have := hat 0 (by omega)
        simpa [Fl.mantText] using this
      · have := hat t h2
        obtain ⟨t', rfl⟩ : ∃ t', t = t' + 1 := ⟨t - 1, by omega⟩
        rw [List.getElem?_cons_succ] at this
        rw [Nat.add_comm 1 (t' + 1)]
        show (d :: 46 :: e :: r)[t' + 1 + 1]? = _
        rw [List.getElem?_cons_succ, List.getElem?_cons_succ]
        exact this
  obtain ⟨h1, h2, h3, h4⟩ := hmt
  have hp : ∀ (j u : Nat), (Fl.mantText (Fl.digs k D))[j]? = some u → byteAt s (pfx.length + j) = (u : Int) := fun j u hj => by
    refine h.at_ _ u ?_
    have hj' : j < (Fl.mantText (Fl.digs k D)).length := (List.getElem?_eq_some_iff.1 hj).1
    rw [List.getElem?_append_left (by simp; omega), List.getElem?_append_left (by simp; omega), List.getElem?_append_right (by omega), Nat.add_sub_cancel_left]
    exact hj
  have hq : ∀ (j u : Nat), [101, sg][j]? = some u → byteAt s (pfx.length + (Fl.mantText (Fl.digs k D)).length + j) = (u : Int) := fun j u hj => by
    refine h.at_ _ u ?_
    have hj' : j < 2 := (List.getElem?_eq_some_iff.1 hj).1
    rw [List.getElem?_append_left (by simp; omega), List.getElem?_append_right (by simp), List.length_append, Nat.add_sub_cancel_left]
    exact hj
  have hx : ∀ (j u : Nat), (Fl.digs m x)[j]? = some u → byteAt s (pfx.length + (Fl.mantText (Fl.digs k D)).length + 2 + j) = (u : Int) := fun j u hj => by
    refine h.at_ _ u ?_
    rw [List.getElem?_append_right (by simp; omega)]
    simp only [List.length_append, List.length_cons, List.length_nil, Nat.zero_add, Nat.reduceAdd]
    rw [Nat.add_sub_cancel_left]
    exact hj
  have hsz := h.size
  simp only [List.length_append, List.length_cons, List.length_nil, Nat.zero_add, Nat.reduceAdd, Fl.digs_length] at hsz
  rw [h1] at hq hx hsz
  refine ⟨hsz, rfl, ?_, fun hk2 => ?_, fun t ht1 ht2 => ?_, ?_, ?_, fun t ht => hx t _ (Fl.digs_at ht)⟩
  · have := hp 0 _ h2
    rwa [Nat.add_zero] at this
  · exact hp 1 46 (h3 hk2)
  · have := hp (1 + t) _ (h4 t ht1 ht2)
    rwa [← Nat.add_assoc] at this
  · have := hq 0 101 rfl
    rwa [Nat.add_zero] at this
  · exact hq 1 sg rfl

theorem bytes_nums (L : List Nat) (h : ∀ u ∈ L, u < 256) : Bytes (strOfNums (L.map fun (n : Nat) => (n : Int))) L := by
  have hs : (strOfNums (L.map fun (n : Nat) => (n : Int))).size = L.length := by
    unfold strOfNums
    simp [ByteArray.size]
  refine ⟨hs, fun k u hk => ?_⟩
  have hk' : k < L.length := (List.getElem?_eq_some_iff.1 hk).1
  unfold byteAt
  rw [dif_pos (by omega)]
  have hu : u < 256 := h u (List.mem_of_getElem? hk)
  have hg := (List.getElem?_eq_some_iff.1 hk).2
  unfold strOfNums
  simp [ByteArray.getElem_eq_getElem_data, hg]
  omega

end Go.Proofs.YtfemnjgcodcfkaaGreatDoor
