/-
  The contracts of spec.Bits, and of impl.Number over ZZNumber's.
-/
import Derived.Test.YtabjmoaijepdjaaDoorSpn
namespace Go.Proofs.YtabjmoaijepdjaaDoor.Bit
open Go.ChangeShapes Go.WideShapes Go.ChangeAt Go.RowKit Go.Sort
open Go.Proofs.YtabjmoaijepdjaaDoor.Flt Go.Proofs.YtabjmoaijepdjaaDoor.Wor Go.Proofs.YtabjmoaijepdjaaDoor.Scn Go.Proofs.YtabjmoaijepdjaaDoor.Spn

/-- The bits of a number; all that are no numbers have the same. -/
def bitsOf (x : Nat) : Nat := if (FloatKind.f64.format.order x x != some .eq) = true then nan else x

set_option maxRecDepth 100000 in
theorem bits_any (w : World) (x : Nat) : Calls Tryd.prog 8 #[.float .f64 x] w fun e w' => e = .returned (.int .u64 (bitsOf x)) ∧ w' = w := by
  have hn := nan_any w
  have h1 := run_bits nan
  have h2 := run_bits x
  by_cases h : (FloatKind.f64.format.order x x != some .eq) = true
  · rw [show bitsOf x = nan from if_pos h]
    go_enter Tryd.func8, Tryd.ntmps8
    go_wp2_with (go_at_call 12; ((with_reducible refine hn.mono ?_); rintro e w' ⟨rfl, hww⟩; rw [hww]; clear hww))
    go_ret
    exact ⟨rfl, rfl⟩
  · have h' := Bool.eq_false_iff.2 h
    rw [show bitsOf x = x from if_neg h]
    go_enter Tryd.func8, Tryd.ntmps8
    go_wp2
    go_ret
    exact ⟨rfl, rfl⟩

set_option maxRecDepth 100000 in
theorem impl_any (w : World) (s : ByteArray) (x : Nat) (hz : Hid (Calls Tryd.prog 10 #[.string s] w fun e w' => e = .returned (.float .f64 x) ∧ Below w.heap.size w w')) :
    Calls Tryd.prog 7 #[.string s] w fun e w' => e = .returned (.int .u64 (bitsOf x)) ∧ Below w.heap.size w w' := by
  have h1 := run_bits nan
  have h2 := run_bits x
  by_cases h : (FloatKind.f64.format.order x x != some .eq) = true
  · rw [show bitsOf x = nan from if_pos h]
    go_enter Tryd.func7, Tryd.ntmps7
    go_wp2_with (go_at_call 10; ((with_reducible refine hz.out.mono ?_); rintro e w1 ⟨rfl, hb⟩; have HB := Lib.hid hb; clear hb; have hn := Lib.hid (nan_any w1)))
    go_at_call 12
    with_reducible refine hn.out.mono ?_
    rintro e w' ⟨rfl, hww⟩
    rw [hww]
    clear hww
    go_wp2
    go_ret
    exact ⟨rfl, HB.out⟩
  · have h' := Bool.eq_false_iff.2 h
    rw [show bitsOf x = x from if_neg h]
    go_enter Tryd.func7, Tryd.ntmps7
    go_wp2_with (go_at_call 10; ((with_reducible refine hz.out.mono ?_); rintro e w1 ⟨rfl, hb⟩; have HB := Lib.hid hb; clear hb))
    go_ret
    exact ⟨rfl, HB.out⟩
end Go.Proofs.YtabjmoaijepdjaaDoor.Bit
