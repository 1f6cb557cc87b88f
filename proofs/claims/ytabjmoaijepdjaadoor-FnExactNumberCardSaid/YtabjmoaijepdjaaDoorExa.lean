/-
  The contracts of internal/strconv.bool2 and atof64exact at a mantissa below 10^15 and an exponent from -15 to 0, where the library's tables are laid.
-/
import Derived.Test.YtabjmoaijepdjaaDoorSpn
import Derived.Test.YtabjmoaijepdjaaDoorShelf
import Derived.Lib.AppendIntMem
namespace Go.Proofs.YtabjmoaijepdjaaDoor.Exa
open Go.ChangeShapes Go.WideShapes Go.ChangeAt Go.RowKit Go.Sort
open Go.Proofs.YtabjmoaijepdjaaDoor.Flt Go.Proofs.YtabjmoaijepdjaaDoor.Wor Go.Proofs.YtabjmoaijepdjaaDoor.Scn Go.Proofs.YtabjmoaijepdjaaDoor.Spn

/-- The library's variables, as far as they are read. -/
structure Tabs (w : World) : Prop where
  mant : w.cell? ⟨9, 0, none⟩ = some (.int .u64 52)
  opt : w.cell? ⟨8, 0, none⟩ = some (.bool true)
  tens : ∃ R o cap : Nat, 23 ≤ cap ∧ w.cell? ⟨12, 0, none⟩ = some (.slice (some ⟨R, o, none⟩) 23 cap) ∧ ∀ a, a ≤ 15 → w.cell? ⟨R, o + a, none⟩ = some (.float .f64 (T a))
  ev : ∃ ev, w.cell? ⟨3, 0, none⟩ = some ev ∧ (ev = .nilIface ∨ ∃ te pe, ev = .iface te pe)
  white : Lib.TabIs Tryd.prog w "strings.asciiSpace" .u8 Lib.asciiSpaceTab

theorem cell_on {w w' : World} (hb : Below w.heap.size w w') {p : Addr} {v : Value} (h : w.cell? p = some v) : w'.cell? p = some v :=
  (hb.cell (World.block_lt_of_cell? w _ h)).trans h
theorem Tabs.on {w w' : World} (h : Tabs w) (hb : Below w.heap.size w w') : Tabs w' := by
  obtain ⟨R, o, cap, h1, h2, h3⟩ := h.tens
  obtain ⟨ev, h4, h5⟩ := h.ev
  exact ⟨cell_on hb h.mant, cell_on hb h.opt, ⟨R, o, cap, h1, cell_on hb h2, fun a ha => cell_on hb (h3 a ha)⟩, ⟨ev, cell_on hb h4, h5⟩, Lib.TabBelow.here ((Lib.tabBelow_of_tabIs h.white).on hb)⟩

theorem bool2_any (w : World) (b : Bool) : Calls Tryd.prog 52 #[.bool b] w fun e w' => e = .returned (.int .u64 (if b then 1 else 0)) ∧ w' = w := by
  cases b
  · go_enter Tryd.func52, Tryd.ntmps52
    go_wp2
    go_ret
    exact ⟨rfl, rfl⟩
  · go_enter Tryd.func52, Tryd.ntmps52
    go_wp2
    go_ret
    exact ⟨rfl, rfl⟩

theorem of_nat (m : Nat) : floatOfInt .f64 (m : Int) = W m := rfl

set_option maxRecDepth 100000 in
theorem exact_any (w : World) (m a : Nat) (neg : Bool) (ht : Tabs w) (hm : m < 10 ^ 15) (h0 : 0 < m) (ha : a ≤ 15) :
    Calls Tryd.prog 54 #[.int .u64 m, .int .i64 (-(a : Int)), .bool neg] w fun e w' => e = .returned (.tuple #[.float .f64 (val neg m a), .bool true]) ∧ w' = w := by
  have h9 := ht.mant
  obtain ⟨R, o, cap, hcap, h12, hT⟩ := ht.tens
  have hTa := hT a ha
  have hm53 : m < 2 ^ 53 := by omega
  have hdiv : ∀ w, (binOp .quo 27 (.float .f64 (sgn neg m)) (.float .f64 (T a))).run Tryd.prog w = .ok (.float .f64 (val neg m a)) w := fun w => run_float_arith w .quo 27 .f64 _ _ _ (div_val neg hm53 ha)
  have hone : Hid (val neg m 0 = sgn neg m) := Lib.hid (val_one neg hm53 h0)
  have hneg := neg_run m
  have hof := of_nat m
  clear ht hT hm53
  by_cases ha0 : a = 0
  · subst ha0
    cases neg
    · go_enter Tryd.func54, Tryd.ntmps54
      go_wp2
      go_ret2
      exact ⟨by rw [hone.out, sgn_W]; rfl, rfl⟩
    · go_enter Tryd.func54, Tryd.ntmps54
      go_wp2
      go_ret2
      exact ⟨by rw [hone.out]; rfl, rfl⟩
  · have ha1 : ¬ (a : Int) = 0 := by omega
    cases neg
    · rw [sgn_W] at hdiv
      go_enter Tryd.func54, Tryd.ntmps54
      go_wp2
      go_ret2
      exact ⟨rfl, rfl⟩
    · go_enter Tryd.func54, Tryd.ntmps54
      go_wp2
      go_ret2
      exact ⟨rfl, rfl⟩
end Go.Proofs.YtabjmoaijepdjaaDoor.Exa
