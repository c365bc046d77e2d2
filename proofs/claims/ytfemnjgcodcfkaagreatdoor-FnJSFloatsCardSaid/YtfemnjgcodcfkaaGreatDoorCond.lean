/- From what the row lists to what the walks ask of the program's memory. -/
import Derived.Test.YtfemnjgcodcfkaaGreatDoorLaw
import Derived.Test.YtfemnjgcodcfkaaGreatDoorRows
import Derived.Lib.LaidU8

namespace Go.Proofs.YtfemnjgcodcfkaaGreatDoor
open Go.RowKit Go.Lib

section
variable {H : Type} {enc : TypeId × Value → H} {P : Program} {w : World} {base : Nat} {spare : Nat → Bool} {held : Bool} {fuel : Nat} {t : TypeId} {cs : List Value} {x : DataW H × List MemPlace}
theorem trod_float {k : FloatKind} (ht : P.underlying t = some (.float k)) (h : DataW.trod enc P w base spare held fuel t cs = some x) : ∃ n, cs = [.float k n] ∧ x = (.lit (.float k n), []) := by
  cases fuel with
  | zero => simp [DataW.trod] at h
  | succ n =>
    unfold DataW.trod at h
    rw [ht] at h
    split at h <;> simp_all
end

theorem opt_of (w : World) (h : VarReads Tryz.prog w "internal/strconv.optimize" (.lit (.bool true))) : w.cell? ⟨1, 0, none⟩ = some (.bool true) := by
  obtain ⟨g, t, cs, fuel, p, hg, hty, hvar, hd⟩ := h
  obtain rfl := Option.some.inj ((show Tryz.prog.globalNamed "internal/strconv.optimize" = some 1 by kernel_rfl).symm.trans hg)
  obtain rfl := Option.some.inj ((show (Tryz.prog.globals[1]?).map (·.type) = some 4 by kernel_rfl).symm.trans hty)
  obtain ⟨b, hc, hx⟩ := DataW.trod_bool Tryz.underlying4 hd
  obtain rfl : true = b := by injection hx with h1 _; injection h1 with h1; injection h1
  rw [World.var?_cell hg hvar 0, ← Array.getElem?_toList, hc]
  rfl

theorem pow_of (w : World) (h : VarReads Tryz.prog w "internal/strconv.uint64pow10" (tabData .u64 Lib.pow10Tab)) : TabIs Tryz.prog w "internal/strconv.uint64pow10" .u64 Lib.pow10Tab := by
  obtain ⟨g, t, cs, fuel, p, hg, hty, hvar, hd⟩ := h
  obtain rfl := Option.some.inj ((show Tryz.prog.globalNamed "internal/strconv.uint64pow10" = some 3 by kernel_rfl).symm.trans hg)
  obtain rfl := Option.some.inj ((show (Tryz.prog.globals[3]?).map (·.type) = some 131 by kernel_rfl).symm.trans hty)
  have hcs := cells_of_tab Tryz.underlying131 Tryz.underlying22 (by kernel_rfl) (by kernel_rfl) hd
  unfold TabIs
  rw [hvar, ← hcs]

set_option maxRecDepth 100000 in
theorem info_of (w : World) (z0 z1 z2 : Int) (h : VarReads Tryz.prog w "internal/strconv.float64info" (.agg [.lit (.int .u64 z0), .lit (.int .u64 z1), .lit (.int .i64 z2)])) : w.cell? ⟨11, 0, none⟩ = some (.int .u64 z0) := by
  obtain ⟨g, t, cs, fuel, p, hg, hty, hvar, hd⟩ := h
  obtain rfl := Option.some.inj ((show Tryz.prog.globalNamed "internal/strconv.float64info" = some 11 by kernel_rfl).symm.trans hg)
  obtain rfl := Option.some.inj ((show (Tryz.prog.globals[11]?).map (·.type) = some 172 by kernel_rfl).symm.trans hty)
  obtain ⟨xs, n, rfl, hx, hl, hxl, hall⟩ := DataW.trod_struct Tryz.underlying172 hd
  have h0 : DataW.trod (fun _ => ()) Tryz.prog w 0 (fun _ => true) false n 60 ((cs.toList.drop 0).take (Tryz.prog.cellsOf 60)) = xs[0]? := hall 0 _ rfl
  clear hall
  have hxs : [.lit (.int .u64 z0), .lit (.int .u64 z1), .lit (.int .i64 z2)] = xs.map (·.1) := by injection hx with h1 _; injection h1
  cases xs with
  | nil => cases hxs
  | cons y r =>
    rw [List.getElem?_cons_zero] at h0
    obtain ⟨z, hc, hz, _⟩ := DataW.trod_int (show Tryz.prog.underlying 60 = some (.int .u64) by kernel_rfl) h0
    rw [hz, List.map_cons] at hxs
    obtain rfl : z0 = z := by injection hxs with h1 _; injection h1 with h1; injection h1
    rw [World.var?_cell hg hvar 0, ← Array.getElem?_toList]
    have e1 : Tryz.prog.cellsOf 60 = 1 := by kernel_rfl
    rw [e1, List.drop_zero] at hc
    have e0 := congrArg (·[0]?) hc
    simpa [List.getElem?_take] using e0

theorem rows_of (w : World) (h : VarReads Tryz.prog w "internal/strconv.pow10Tab" Go.Pinned.pow10Tab) : TabAll w := by
  obtain ⟨g, t, cs, fuel, p, hg, hty, hvar, hd⟩ := h
  obtain rfl := Option.some.inj ((show Tryz.prog.globalNamed "internal/strconv.pow10Tab" = some 7 by kernel_rfl).symm.trans hg)
  obtain rfl := Option.some.inj ((show (Tryz.prog.globals[7]?).map (·.type) = some 155 by kernel_rfl).symm.trans hty)
  have c154 : Tryz.prog.cellsOf 154 = 2 := by kernel_rfl
  have c22 : Tryz.prog.cellsOf 22 = 1 := by kernel_rfl
  intro q hq1 hq2
  obtain ⟨i, hi⟩ : ∃ i, i = (q + 348).toNat := ⟨_, rfl⟩
  have hi2 : i < 696 := by omega
  unfold Go.Pinned.pow10Tab at hd
  obtain ⟨fuel', d, q', hdi, he⟩ := array_elem Tryz.underlying155 hd i hi2
  have hlen := Fl.rows_len
  have hrow : Go.Pinned.pow10Rows[i]? = some (Go.Pinned.pow10Rows.getD i (0, 0)) := by
    rw [List.getD_eq_getElem?_getD, List.getElem?_eq_getElem (by rw [hlen]; exact hi2)]
    rfl
  rw [List.getElem?_map, hrow, Option.map_some] at hdi
  obtain rfl := Option.some.inj hdi
  rw [c154] at he
  have he' : DataW.trod (fun _ => ()) Tryz.prog w 0 (fun _ => true) false fuel' 154 ((cs.toList.drop (i * 2)).take 2) = some (.agg (([((Go.Pinned.pow10Rows.getD i (0, 0)).1 : Int), ((Go.Pinned.pow10Rows.getD i (0, 0)).2 : Int)] : List Int).map fun z => .lit (.int .u64 z)), q') := he
  have hcs := ints_of_struct Tryz.underlying154 (fun j f hj => by
    match j, hj with
    | 0, hj => simp at hj; subst hj; exact ⟨Tryz.underlying22, rfl, c22⟩
    | 1, hj => simp at hj; subst hj; exact ⟨Tryz.underlying22, rfl, c22⟩
    | j + 2, hj => simp at hj) (by rw [c154]; rfl) he'
  have e0 := congrArg (·[0]?) hcs
  have e1 := congrArg (·[1]?) hcs
  simp only [List.getElem?_take, List.getElem?_drop] at e0 e1
  unfold TabRow Fl.hiOf Fl.loOf
  rw [← hi]
  constructor
  · rw [World.var?_cell hg hvar (i * 2), ← Array.getElem?_toList]
    simpa using e0
  · rw [World.var?_cell hg hvar (i * 2 + 1), ← Array.getElem?_toList]
    simpa using e1

set_option maxRecDepth 100000 in
theorem slice_of (w : World) (L : List Nat) (hl10 : L.length = 23) (h : VarReads Tryz.prog w "internal/strconv.float64pow10" (.slice (L.map fun b => .lit (.float .f64 b)) [])) : ∃ bp op, w.cell? ⟨14, 0, none⟩ = some (.slice (some ⟨bp, op, none⟩) 23 23) ∧ ∀ i, i < 23 → w.cell? ⟨bp, op + i, none⟩ = some (.float .f64 (L.getD i 0)) := by
  obtain ⟨g, t, cs, fuel, p, hg, hty, hvar, hd⟩ := h
  obtain rfl := Option.some.inj ((show Tryz.prog.globalNamed "internal/strconv.float64pow10" = some 14 by kernel_rfl).symm.trans hg)
  obtain rfl := Option.some.inj ((show (Tryz.prog.globals[14]?).map (·.type) = some 196 by kernel_rfl).symm.trans hty)
  have c23 : Tryz.prog.cellsOf 23 = 1 := by kernel_rfl
  rcases DataW.trod_slice Tryz.underlying196 hd with ⟨_, hx⟩ | ⟨a, len, cap, elems, rest, n, rfl, hc, hx, _, hle, _, hlen, hel, hsp, _⟩
  · injection hx with h1 _; cases h1
  · injection hx with h1 _
    injection h1 with h1 h2
    have hr0 : rest = [] := List.map_eq_nil_iff.1 h2.symm
    have hcap := (hsp rfl).1
    rw [hr0, List.length_nil] at hcap
    have h23 : len = 23 := by
      have := congrArg List.length h1
      rw [List.length_map, List.length_map, hlen, hl10] at this
      exact this.symm
    have hc23 : cap = 23 := by omega
    subst h23 hc23
    have hcell : ∀ i, i < 23 → w.cell? (a.add i) = some (.float .f64 (L.getD i 0)) := by
      intro i hi
      have he := hel i hi
      rw [c23, Nat.mul_one] at he
      have hei : elems[i]? = some elems[i] := List.getElem?_eq_getElem (by rw [hlen]; exact hi)
      rw [hei] at he
      obtain ⟨cl, hcl, htr⟩ := Option.bind_eq_some_iff.1 he
      obtain ⟨b, rfl, hb⟩ := trod_float Tryz.underlying23 htr
      have hbi : L[i]? = some b := by
        have hm := congrArg (·[i]?) h1
        simp only [List.getElem?_map, hei, Option.map_some, hb] at hm
        obtain ⟨b', hb', hbb⟩ := Option.map_eq_some_iff.1 hm
        injection hbb with h3
        injection h3 with _ h4
        rw [← h4]; exact hb'
      have hg1 : (L.getD i 0) = b := by rw [List.getD_eq_getElem?_getD, hbi]; rfl
      rw [hg1]
      unfold World.cells? at hcl
      rw [if_pos (Nat.zero_le _)] at hcl
      have hadd : (a.add i).add 0 = a.add i := by unfold Addr.add; rw [if_pos rfl]
      rw [show List.range 1 = [0] from rfl, List.mapM_cons, List.mapM_nil, hadd] at hcl
      cases hw : w.cell? (a.add i) with
      | none => rw [hw] at hcl; cases hcl
      | some v =>
        rw [hw] at hcl
        injection hcl with h5
        injection h5 with h6
        rw [h6]
    have hsp0 : a.spot = none := by
      have h0 := hcell 0 (by decide)
      match a, h0 with
      | ⟨b, o, s⟩, h0 => exact cell_spot h0
    match a, hsp0, hcell, hc with
    | ⟨b, o, none⟩, _, hcell, hc =>
      refine ⟨b, o, ?_, fun i hi => ?_⟩
      · rw [World.var?_cell hg hvar 0, ← Array.getElem?_toList, hc]
        rfl
      · have := hcell i hi
        rw [Lib.add_plain] at this
        exact this

set_option maxRecDepth 100000 in
theorem consts_of (w : World) (h : laidMet Tryz.prog Rows.fnJSFloatsRow.laid w) : ∃ bp op, Consts bp op w := by
  have h1 := opt_of w (Lib.laidMet.reads h (by simp [Rows.fnJSFloatsRow, Rows.laid_internal_strconv_optimize]))
  have h2 := info_of w 52 11 (-1023) (Lib.laidMet.reads h (by simp [Rows.fnJSFloatsRow, Rows.laid_internal_strconv_float64info]))
  have e3 : Rows.laid_internal_strconv_uint64pow10 = (tabData .u64 Lib.pow10Tab : DataW Unit) := by kernel_rfl
  have h3 := pow_of w (e3 ▸ Lib.laidMet.reads h (by simp [Rows.fnJSFloatsRow]))
  have e4 : Rows.laid_internal_strconv_float64pow10 = (.slice (Fl.p10.map fun b => .lit (.float .f64 b)) [] : DataW Unit) := by kernel_rfl
  obtain ⟨bp, op, h4, h6⟩ := slice_of w Fl.p10 (by decide) (e4 ▸ Lib.laidMet.reads h (by simp [Rows.fnJSFloatsRow]))
  have h5 := rows_of w (Lib.laidMet.reads h (by simp [Rows.fnJSFloatsRow, Rows.laid_internal_strconv_pow10Tab]))
  exact ⟨bp, op, h5, h3, ⟨h2, h4, h6⟩, h1⟩

end Go.Proofs.YtfemnjgcodcfkaaGreatDoor
