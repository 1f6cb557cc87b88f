/-
  The library's tables out of the row's list of variables.
-/
import Derived.Test.YtabjmoaijepdjaaDoorExa
import Derived.Test.YtabjmoaijepdjaaDoorRows
import Derived.Lib.LaidTab
import Derived.Lib.LaidU8
import Derived.Deep.Slices
namespace Go.Proofs.YtabjmoaijepdjaaDoor.Tab
open Go.ChangeShapes Go.WideShapes Go.ChangeAt Go.RowKit
open Go.Proofs.YtabjmoaijepdjaaDoor.Scn Go.Proofs.YtabjmoaijepdjaaDoor.Exa

theorem reads_at {W : World} (h : laidMetH Tryd.prog Rows.fnExactNumberRow.laid W) {n : String} {g : Nat} {t : TypeId} {d : DataW Unit} (hm : (n, d) ∈ Rows.fnExactNumberRow.laid)
    (hg : Tryd.prog.globalNamed n = some g) (ht : (Tryd.prog.globals[g]?).map (·.type) = some t) :
    ∃ cs fuel p, W.var? Tryd.prog n = some cs ∧ (∀ i, W.cell? ⟨g, i, none⟩ = cs[i]?) ∧ DataW.trod (fun _ => ()) Tryd.prog W 0 (fun _ => true) false fuel t cs.toList = some (d, p) := by
  have h' : laidMet Tryd.prog Rows.fnExactNumberRow.laid W := h
  obtain ⟨g', t', cs, fuel, p, h1, h2, h3, h4⟩ := Lib.laidMet.reads h' hm
  obtain rfl := Option.some.inj (hg.symm.trans h1)
  obtain rfl := Option.some.inj (ht.symm.trans h2)
  exact ⟨cs, fuel, p, h3, fun i => World.var?_cell hg h3 i, h4⟩

section
variable {H : Type} {enc : TypeId × Value → H} {P : Program} {w : World} {base : Nat} {sp : Nat → Bool} {held : Bool} {fuel : Nat} {t : TypeId} {cs : List Value} {x : DataW H × List MemPlace}
theorem trod_float {k : FloatKind} (ht : P.underlying t = some (.float k)) (h : DataW.trod enc P w base sp held fuel t cs = some x) : ∃ b, cs = [.float k b] ∧ x = (.lit (.float k b), []) := by
  cases fuel with
  | zero => simp [DataW.trod] at h
  | succ n =>
    unfold DataW.trod at h
    rw [ht] at h
    split at h <;> simp_all
theorem trod_iface {l : Array (String × TypeId)} (ht : P.underlying t = some (.interface l)) (h : DataW.trod enc P w base sp held fuel t cs = some x) : ∃ v, cs = [v] ∧ (v = .nilIface ∨ ∃ te pe, v = .iface te pe) := by
  cases fuel with
  | zero => simp [DataW.trod] at h
  | succ n =>
    unfold DataW.trod at h
    rw [ht] at h
    split at h <;> simp_all
end

theorem at_list {cs : Array Value} {l : List Value} (h : cs.toList = l) (i : Nat) : cs[i]? = l[i]? := by rw [← h, Array.getElem?_toList]

theorem mant_of {W : World} (h : laidMetH Tryd.prog Rows.fnExactNumberRow.laid W) : W.cell? ⟨9, 0, none⟩ = some (.int .u64 52) := by
  obtain ⟨cs, fuel, p, _, hc, h4⟩ := reads_at h (n := "internal/strconv.float64info") (g := 9) (t := 86) (d := Rows.laid_internal_strconv_float64info) (by simp [Rows.fnExactNumberRow]) (by kernel_rfl) (by kernel_rfl)
  obtain ⟨xs, n, rfl, hx, hl, hxl, hall⟩ := DataW.trod_struct Tryd.underlying86 h4
  have h0 : DataW.trod (fun _ => ()) Tryd.prog W 0 (fun _ => true) false n 74 ((cs.toList.drop 0).take (Tryd.prog.cellsOf 74)) = xs[0]? := hall 0 _ rfl
  have e0 : xs[0]?.map (·.1) = some (.lit (.int .u64 52)) := by
    have := congrArg Prod.fst hx
    simp only [Rows.laid_internal_strconv_float64info, DataW.agg.injEq] at this
    rw [← List.getElem?_map, ← this]
    rfl
  obtain ⟨b, hb, hb1⟩ := Option.map_eq_some_iff.1 e0
  rw [hb] at h0
  obtain ⟨z, hz, rfl, _⟩ := DataW.trod_int Tryd.underlying74 h0
  simp only [DataW.lit.injEq, Lit.int.injEq, true_and] at hb1
  subst hb1
  rw [hc 0, ← Array.getElem?_toList]
  have c1 : Tryd.prog.cellsOf 74 = 1 := by kernel_rfl
  rw [c1] at hz
  have := congrArg (·[0]?) hz
  simpa [List.getElem?_take, List.getElem?_drop] using this

theorem opt_of {W : World} (h : laidMetH Tryd.prog Rows.fnExactNumberRow.laid W) : W.cell? ⟨8, 0, none⟩ = some (.bool true) := by
  obtain ⟨cs, fuel, p, _, hc, h4⟩ := reads_at h (n := "internal/strconv.optimize") (g := 8) (t := 4) (d := Rows.laid_internal_strconv_optimize) (by simp [Rows.fnExactNumberRow]) (by kernel_rfl) (by kernel_rfl)
  obtain ⟨b, hb, hx⟩ := DataW.trod_bool Tryd.underlying4 h4
  have := congrArg Prod.fst hx
  simp only [Rows.laid_internal_strconv_optimize, DataW.lit.injEq, Lit.bool.injEq] at this
  subst this
  rw [hc 0, at_list hb]
  rfl

theorem ev_of {W : World} (h : laidMetH Tryd.prog Rows.fnExactNumberRow.laid W) : ∃ ev, W.cell? ⟨3, 0, none⟩ = some ev ∧ (ev = .nilIface ∨ ∃ te pe, ev = .iface te pe) := by
  obtain ⟨cs, fuel, p, _, hc, h4⟩ := reads_at h (n := "strconv.ErrSyntax") (g := 3) (t := 35) (d := Rows.laid_strconv_ErrSyntax) (by simp [Rows.fnExactNumberRow]) (by kernel_rfl) (by kernel_rfl)
  obtain ⟨v, hv, hh⟩ := trod_iface Tryd.underlying35 h4
  exact ⟨v, by rw [hc 0, at_list hv]; rfl, hh⟩

theorem white_data : (Rows.laid_strings_asciiSpace : DataW Unit) = Lib.tabData .u8 Lib.asciiSpaceTab := by kernel_rfl
theorem white_of {W : World} (h : laidMetH Tryd.prog Rows.fnExactNumberRow.laid W) : Lib.TabIs Tryd.prog W "strings.asciiSpace" .u8 Lib.asciiSpaceTab := by
  obtain ⟨cs, fuel, p, h3, hc, h4⟩ := reads_at h (n := "strings.asciiSpace") (g := 1) (t := 40) (d := Rows.laid_strings_asciiSpace) (by simp [Rows.fnExactNumberRow]) (by kernel_rfl) (by kernel_rfl)
  rw [white_data] at h4
  unfold Lib.TabIs
  rw [h3, ← Lib.cells_of_tab Tryd.underlying40 Tryd.underlying5 (by kernel_rfl) (by kernel_rfl) h4]

/-- The powers of ten, as the row lists them. -/
def tenData : List (DataW Unit) := match (Rows.laid_internal_strconv_float64pow10 : DataW Unit) with | .slice l _ => l | _ => []
theorem ten_data : (Rows.laid_internal_strconv_float64pow10 : DataW Unit) = .slice tenData [] := by kernel_rfl
theorem ten_len : tenData.length = 23 := by kernel_rfl
theorem ten_take : tenData.take 16 = (List.range 16).map fun a => (.lit (.float .f64 (T a)) : DataW Unit) := by kernel_rfl
theorem ten_at (a : Nat) (ha : a ≤ 15) : tenData[a]? = some (.lit (.float .f64 (T a))) := by
  have h := congrArg (·[a]?) ten_take
  simp only [List.getElem?_map, List.getElem?_range (show a < 16 by omega), Option.map_some] at h
  rw [List.getElem?_take_of_lt (by omega)] at h
  exact h

theorem tens_of {W : World} (h : laidMetH Tryd.prog Rows.fnExactNumberRow.laid W) :
    ∃ R o cap : Nat, 23 ≤ cap ∧ W.cell? ⟨12, 0, none⟩ = some (.slice (some ⟨R, o, none⟩) 23 cap) ∧ ∀ a, a ≤ 15 → W.cell? ⟨R, o + a, none⟩ = some (.float .f64 (T a)) := by
  obtain ⟨cs, fuel, p, _, hc, h4⟩ := reads_at h (n := "internal/strconv.float64pow10") (g := 12) (t := 125) (d := Rows.laid_internal_strconv_float64pow10) (by simp [Rows.fnExactNumberRow]) (by kernel_rfl) (by kernel_rfl)
  rw [ten_data] at h4
  rcases Go.Deep.open_slice1 Tryd.underlying125 (by kernel_rfl) h4 with ⟨_, hx⟩ | ⟨a, len, cap, m, n, V, D, Pl, hcs, _, hlc, _, hm, hx, hall⟩
  · cases hx
  have e0 := congrArg Prod.fst hx
  simp only [DataW.slice.injEq] at e0
  have hlen : len = 23 := by
    have := congrArg List.length e0.1
    rw [ten_len, List.length_map, List.length_range] at this
    exact this.symm
  subst hlen
  have hm' : m = cap := by rw [hm, if_pos rfl]
  subst hm'
  have hcell : ∀ i, i ≤ 15 → W.cell? (a.add i) = some (.float .f64 (T i)) := by
    intro i hi
    obtain ⟨k1, k2⟩ := hall i (by omega)
    obtain ⟨b, hb, hx2⟩ := trod_float Tryd.underlying27 k2
    have hd : tenData[i]? = some (D i) := by
      rw [e0.1, List.getElem?_map, List.getElem?_range (by omega)]
      rfl
    have h3 := ten_at i hi
    rw [hd] at h3
    have h5 := congrArg Prod.fst hx2
    simp only at h5
    rw [h5] at h3
    simp only [Option.some.injEq, DataW.lit.injEq, Lit.float.injEq, true_and] at h3
    rw [k1]
    simp only [List.cons.injEq, and_true] at hb
    rw [hb, h3]
  obtain ⟨R, o, sR⟩ := a
  obtain rfl : sR = none := by
    have h00 := hcell 0 (by omega)
    have e : (Addr.add ⟨R, o, sR⟩ 0) = ⟨R, o, sR⟩ := by simp [Addr.add]
    rw [e] at h00
    exact Go.Proofs.cell_spot h00
  refine ⟨R, o, m, hlc, by rw [hc 0, at_list hcs]; rfl, fun a ha => ?_⟩
  have := hcell a ha
  rwa [Addr.add_lit] at this

theorem tabs_of {W : World} (h : laidMetH Tryd.prog Rows.fnExactNumberRow.laid W) : Tabs W := ⟨mant_of h, opt_of h, tens_of h, ev_of h, white_of h⟩
end Go.Proofs.YtabjmoaijepdjaaDoor.Tab
