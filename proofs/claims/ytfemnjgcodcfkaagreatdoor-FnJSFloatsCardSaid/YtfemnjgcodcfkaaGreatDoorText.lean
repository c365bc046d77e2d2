/- The text of a number in its shortest form, and a slice that grows within its room. -/
import Derived.Test.YtfemnjgcodcfkaaGreatDoorShelf
import Derived.OwnWalk
import Derived.Below

namespace Go.Proofs.YtfemnjgcodcfkaaGreatDoor
open Go.RowKit

namespace Fl
/-- The first digit, and the rest behind a point. -/
def mantText : List Nat → List Nat
  | [] => [48]
  | [d] => [d]
  | d :: e :: ds => d :: 46 :: e :: ds
/-- Two digits or three. -/
def expText (x : Nat) : List Nat :=
  if x < 10 then [48, x + 48] else if x < 100 then [x / 10 + 48, x % 10 + 48] else [x / 100 + 48, x / 10 % 10 + 48, x % 10 + 48]
def signText (neg : Bool) : List Nat := if neg then [45] else []
def expSign (X : Int) : Nat := if X < 0 then 45 else 43
def text (neg : Bool) (ds : List Nat) (X : Int) : List Nat :=
  signText neg ++ mantText ds ++ [101, expSign X] ++ expText X.natAbs
end Fl

def u8s (L : List Nat) : List Value := L.map fun (n : Nat) => Value.int .u8 (n : Int)
theorem u8s_length (L : List Nat) : (u8s L).length = L.length := List.length_map _
theorem u8s_append (L K : List Nat) : u8s (L ++ K) = u8s L ++ u8s K := List.map_append

/-- Block B holds the text L, and has room for 24 bytes; of what was there at w0 nothing else has turned. -/
structure Txt (b0 B : Nat) (w0 w : World) (L : List Nat) : Prop where
  own : w.ownsRow b0 5 1 (.slice (some ⟨B, 0, none⟩) L.length 24) L.length (u8s L)
  below : Below b0 w0 w
  base : b0 ≤ B
  small : B < w0.heap.size
  block : ∀ k, k ≠ B → k < w0.heap.size → w.heap[k]? = w0.heap[k]?

theorem Txt.cell {b0 B : Nat} {w0 w : World} {L : List Nat} (h : Txt b0 B w0 w L) {p : Addr} {v : Value} (hp : p.block ≠ B) (hc : w0.cell? p = some v) : w.cell? p = some v :=
  (World.cell?_of_block (h.block p.block hp (World.block_lt_of_cell? w0 p hc))).trans hc

theorem Txt.alloc {b0 B : Nat} {w0 w : World} {L : List Nat} (h : Txt b0 B w0 w L) (o : Obj) : Txt b0 B w0 (w.alloc o) L := by
  have hs := h.below.size
  refine ⟨h.own.alloc o, h.below.alloc (by have := h.base; have := h.small; omega) o, h.base, h.small, fun k hk hk2 => ?_⟩
  have e := (World.grownBy_alloc w o none).block k (by omega) (by simp)
  rw [e]
  exact h.block k hk hk2

theorem Txt.grown {b0 B : Nat} {w0 w w' : World} {L K : List Nat} (h : Txt b0 B w0 w L)
    (hown : w'.ownsRow b0 5 1 (.slice (some ⟨B, 0, none⟩) (L ++ K).length 24) (L ++ K).length (u8s (L ++ K))) (hg : w.grownBy w' (some B)) : Txt b0 B w0 w' (L ++ K) := by
  have hs := h.below.size
  have hsm := h.small
  refine ⟨hown, h.below.grown hg (by have := h.base; omega) (fun k hk => by cases hk; exact h.base), h.base, h.small, fun k hk hk2 => ?_⟩
  rw [hg.block k (by omega) (fun e => hk (Option.some.inj e))]
  exact h.block k hk hk2

/-- An append of some bytes, which lie anywhere. -/
theorem wp_app {P : Program} (w : World) {ops : Array Oper} {rest : List Oper} {o : Oper} {a : Act} {Q : Exit → Act → World → Prop}
    (hg : o.guard = none) (s x : Operand) (t : TypeId) (hop : o.op = Op.call { callee := Callee.builtin Builtin.append, args := #[s, x], argTypes := #[t, t] })
    (i : TypeInfo) (h1 : P.underlying t = some (.slice 5)) (h2 : P.info? 5 = some i) (h4 : i.size = 1)
    (b0 B k : Nat) (w0 : World) (L : List Nat) (hT : Txt b0 B w0 w L) (hk : k = L.length) (hs : a.eval s = .slice (some ⟨B, 0, none⟩) k 24) (K : List Nat) (m c blk off : Nat)
    (hx : a.eval x = .slice (some ⟨blk, off, none⟩) m c) (hm : m = K.length) (hc : ∀ (j u : Nat), K[j]? = some u → w.cell? ⟨blk, off + j, none⟩ = some (.int .u8 (u : Int))) (hroom : L.length + K.length ≤ 24)
    (hK : ∀ w', Txt b0 B w0 w' (L ++ K) → wpList P ops Q rest (a.put o.dst (.slice (some ⟨B, 0, none⟩) (L ++ K).length 24)) w') :
    wpList P ops Q (o :: rest) a w := by
  subst hk hm
  have hadd : ∀ j, (⟨blk, off, none⟩ : Addr).add j = ⟨blk, off + j, none⟩ := fun j => by unfold Addr.add; split <;> simp_all
  refine wpList_append_fits w hg s x t hop b0 5 i 1 h1 h2 h4 B L.length 24 (u8s L) hs hT.own ⟨blk, off, none⟩ K.length c (u8s K) hx (by rw [u8s_length, Nat.mul_one]) (fun j u hu => ?_) (fun u hu => ?_) hroom (fun w' ho hg' => ?_)
  · rw [hadd j]
    unfold u8s at hu
    rw [List.getElem?_map] at hu
    obtain ⟨v, hv, rfl⟩ := Option.map_eq_some_iff.1 hu
    exact hc j v hv
  · unfold u8s at hu
    obtain ⟨v, _, rfl⟩ := List.mem_map.1 hu
    rfl
  · have e : L.length + K.length = (L ++ K).length := List.length_append.symm
    rw [e, ← u8s_append] at ho
    rw [e]
    exact hK w' (hT.grown ho hg')

/-- An append of the bytes of a new block. -/
theorem wp_appL {P : Program} (w : World) {ops : Array Oper} {rest : List Oper} {o : Oper} {a : Act} {Q : Exit → Act → World → Prop} (vs : List Value)
    (hg : o.guard = none) (s x : Operand) (t : TypeId) (hop : o.op = Op.call { callee := Callee.builtin Builtin.append, args := #[s, x], argTypes := #[t, t] })
    (i : TypeInfo) (h1 : P.underlying t = some (.slice 5)) (h2 : P.info? 5 = some i) (h4 : i.size = 1)
    (b0 B k : Nat) (w0 : World) (L : List Nat) (hT : Txt b0 B w0 w L) (hk : k = L.length) (hs : a.eval s = .slice (some ⟨B, 0, none⟩) k 24) (K : List Nat) (m c : Nat)
    (hx : a.eval x = .slice (some ⟨w.heap.size, 0, none⟩) m c) (hm : m = K.length) (hv : vs = u8s K) (hroom : L.length + K.length ≤ 24)
    (hK : ∀ w', Txt b0 B w0 w' (L ++ K) → wpList P ops Q rest (a.put o.dst (.slice (some ⟨B, 0, none⟩) (L ++ K).length 24)) w') :
    wpList P ops Q (o :: rest) a (w.alloc (.cells vs.toArray 5)) := by
  subst hv
  refine wp_app (w.alloc _) hg s x t hop i h1 h2 h4 b0 B k w0 L (hT.alloc _) hk hs K m c w.heap.size 0 hx hm (fun j u hu => ?_) hroom hK
  unfold World.cell? World.alloc
  simp [u8s, hu]

/-- An append of a part of a slice that lay there at w0. -/
theorem wp_appR {P : Program} (w : World) {ops : Array Oper} {rest : List Oper} {o : Oper} {a : Act} {Q : Exit → Act → World → Prop}
    (hg : o.guard = none) (s x : Operand) (t : TypeId) (hop : o.op = Op.call { callee := Callee.builtin Builtin.append, args := #[s, x], argTypes := #[t, t] })
    (i : TypeInfo) (h1 : P.underlying t = some (.slice 5)) (h2 : P.info? 5 = some i) (h4 : i.size = 1)
    (b0 B k : Nat) (w0 : World) (L : List Nat) (hT : Txt b0 B w0 w L) (hk : k = L.length) (hs : a.eval s = .slice (some ⟨B, 0, none⟩) k 24) (K : List Nat) (m c blk off : Nat)
    (hx : a.eval x = .slice (some ⟨blk, off, none⟩) m c) (hm : m = K.length) (hc : ∀ (j u : Nat), K[j]? = some u → w0.cell? ⟨blk, off + j, none⟩ = some (.int .u8 (u : Int))) (hb : blk ≠ B) (hroom : L.length + K.length ≤ 24)
    (hK : ∀ w', Txt b0 B w0 w' (L ++ K) → wpList P ops Q rest (a.put o.dst (.slice (some ⟨B, 0, none⟩) (L ++ K).length 24)) w') :
    wpList P ops Q (o :: rest) a w :=
  wp_app w hg s x t hop i h1 h2 h4 b0 B k w0 L hT hk hs K m c blk off hx hm (fun j u hu => hT.cell hb (hc j u hu)) hroom hK

namespace Fl
theorem expText_1 {x : Nat} (h : x < 10) : expText x = [48, x + 48] := by unfold expText; rw [if_pos h]
theorem expText_2 {x : Nat} (h : ¬ x < 10) (h2 : x < 100) : expText x = [x / 10 + 48, x % 10 + 48] := by unfold expText; rw [if_neg h, if_pos h2]
theorem expText_3 {x : Nat} (h2 : ¬ x < 100) : expText x = [x / 100 + 48, x / 10 % 10 + 48, x % 10 + 48] := by unfold expText; rw [if_neg (by omega), if_neg h2]
theorem text_pos (neg : Bool) (ds : List Nat) {X : Int} {x : Nat} (h : X = (x : Int)) : text neg ds X = signText neg ++ mantText ds ++ [101, 43] ++ expText x := by
  subst h
  unfold text expSign
  rw [if_neg (by omega), Int.natAbs_natCast]
theorem text_neg (neg : Bool) (ds : List Nat) {X : Int} {x : Nat} (h : X = -(x : Int)) (hx : 0 < x) : text neg ds X = signText neg ++ mantText ds ++ [101, 45] ++ expText x := by
  subst h
  unfold text expSign
  rw [if_pos (by omega), Int.natAbs_neg, Int.natAbs_natCast]
end Fl

end Go.Proofs.YtfemnjgcodcfkaaGreatDoor
