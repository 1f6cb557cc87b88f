/-
  The contracts of internal/strconv.commonPrefixLenIgnoreCase (at a first byte that is no i) and of special behind a dash.
-/
import Derived.Test.YtabjmoaijepdjaaDoorSpc
namespace Go.Proofs.YtabjmoaijepdjaaDoor.Spd
open Go.ChangeShapes Go.WideShapes Go.ChangeAt Go.RowKit Go.Sort
open Go.Proofs.YtabjmoaijepdjaaDoor.Flt Go.Proofs.YtabjmoaijepdjaaDoor.Wor Go.Proofs.YtabjmoaijepdjaaDoor.Scn Go.Proofs.YtabjmoaijepdjaaDoor.Spn Go.Proofs.YtabjmoaijepdjaaDoor.Spc

set_option maxRecDepth 100000 in
theorem common_plain (w : World) (l : List UInt8) (h0 : 0 < l.length) (hr : l.length ≤ 9223372036854775806) (h : l[0].toNat ≠ 105 ∧ l[0].toNat ≠ 73) :
    Calls Tryd.prog 57 #[.string ⟨l.toArray⟩, .string ⟨#[105, 110, 102, 105, 110, 105, 116, 121]⟩] w fun e w' => e = .returned (.int .i64 0) ∧ w' = w := by
  have h' : ((⟨l.toArray⟩ : ByteArray)[0]'h0).toNat ≠ 105 ∧ ((⟨l.toArray⟩ : ByteArray)[0]'h0).toNat ≠ 73 := h
  obtain ⟨h1, h2⟩ := h'
  clear h
  go_enter Tryd.func57, Tryd.ntmps57
  go_wp2
  all_goals
    refine wp_loop_rounds 1 ?_
    rw [rounds_succ]
    go_wp2
  all_goals first
    | (go_ret
       exact ⟨rfl, rfl⟩)
    | (exfalso
       rename_i _ _ _ hq
       rw [bne_eq_false_iff_eq] at hq
       replace hq : _ = (105 : Int) := hq
       omega)
    | (exfalso
       rename_i _ hq _
       rw [bne_eq_false_iff_eq] at hq
       replace hq : _ = (105 : Int) := hq
       omega)

set_option maxRecDepth 100000 in
theorem special_dash (w : World) (l : List UInt8) (hr : l.length ≤ 9223372036854775806) (h : ∀ h0 : 0 < l.length, l[0].toNat ≠ 105 ∧ l[0].toNat ≠ 73) :
    Calls Tryd.prog 43 #[.string ⟨(45 :: l).toArray⟩] w fun e w' => e = .returned (.tuple #[.float .f64 0, .int .i64 0, .bool false]) ∧ w' = w := by
  have hc : Calls Tryd.prog 57 #[.string ⟨l.toArray⟩, .string ⟨#[105, 110, 102, 105, 110, 105, 116, 121]⟩] w fun e w' => e = .returned (.int .i64 0) ∧ w' = w := by
    by_cases h0 : 0 < l.length
    · exact common_plain w l h0 hr (h h0)
    · have e : l = [] := List.length_eq_zero_iff.1 (by omega)
      rw [e]
      exact common_nil w
  rw [← cut_head 45 l] at hc
  go_enter Tryd.func43, Tryd.ntmps43
  go_wp2_with (go_at_call 57; ((with_reducible refine hc.mono ?_); rintro e w' ⟨rfl, hww⟩; rw [hww]; clear hww))
  all_goals
    go_ret3
    exact ⟨rfl, rfl⟩
end Go.Proofs.YtabjmoaijepdjaaDoor.Spd
