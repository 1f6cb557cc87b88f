/-
  The contracts of internal/strconv.commonPrefixLenIgnoreCase (at a first byte that is no i) and special.
-/
import Derived.Test.YtabjmoaijepdjaaDoorSpn
namespace Go.Proofs.YtabjmoaijepdjaaDoor.Spc
open Go.ChangeShapes Go.WideShapes Go.ChangeAt Go.RowKit Go.Sort
open Go.Proofs.YtabjmoaijepdjaaDoor.Flt Go.Proofs.YtabjmoaijepdjaaDoor.Wor Go.Proofs.YtabjmoaijepdjaaDoor.Scn Go.Proofs.YtabjmoaijepdjaaDoor.Spn

set_option maxRecDepth 100000 in
theorem special_nil (w : World) : Calls Tryd.prog 43 #[.string ⟨([] : List UInt8).toArray⟩] w fun e w' => e = .returned (.tuple #[.float .f64 0, .int .i64 0, .bool false]) ∧ w' = w := by
  go_enter Tryd.func43, Tryd.ntmps43
  go_wp2
  go_ret3
  exact ⟨rfl, rfl⟩

set_option maxRecDepth 100000 in
theorem special_plain (w : World) (c : UInt8) (r : List UInt8) (h : c.toNat ≠ 43 ∧ c.toNat ≠ 45 ∧ c.toNat ≠ 105 ∧ c.toNat ≠ 73 ∧ c.toNat ≠ 110 ∧ c.toNat ≠ 78) :
    Calls Tryd.prog 43 #[.string ⟨(c :: r).toArray⟩] w fun e w' => e = .returned (.tuple #[.float .f64 0, .int .i64 0, .bool false]) ∧ w' = w := by
  have h' : ((⟨(c :: r).toArray⟩ : ByteArray)[0]'(Nat.succ_pos _)).toNat ≠ 43 ∧ ((⟨(c :: r).toArray⟩ : ByteArray)[0]'(Nat.succ_pos _)).toNat ≠ 45 ∧ ((⟨(c :: r).toArray⟩ : ByteArray)[0]'(Nat.succ_pos _)).toNat ≠ 105 ∧ ((⟨(c :: r).toArray⟩ : ByteArray)[0]'(Nat.succ_pos _)).toNat ≠ 73 ∧ ((⟨(c :: r).toArray⟩ : ByteArray)[0]'(Nat.succ_pos _)).toNat ≠ 110 ∧ ((⟨(c :: r).toArray⟩ : ByteArray)[0]'(Nat.succ_pos _)).toNat ≠ 78 := h
  obtain ⟨h1, h2, h3, h4, h5, h6⟩ := h'
  go_enter Tryd.func43, Tryd.ntmps43
  go_wp2
  all_goals
    go_ret3
    exact ⟨rfl, rfl⟩

/-- The prefix's length where the first letters differ at once. -/
theorem common_nil (w : World) : Calls Tryd.prog 57 #[.string ⟨([] : List UInt8).toArray⟩, .string ⟨#[105, 110, 102, 105, 110, 105, 116, 121]⟩] w fun e w' => e = .returned (.int .i64 0) ∧ w' = w := by
  go_enter Tryd.func57, Tryd.ntmps57
  go_wp2
  refine wp_loop_rounds 1 ?_
  rw [rounds_succ]
  go_wp2
  go_ret
  exact ⟨rfl, rfl⟩
end Go.Proofs.YtabjmoaijepdjaaDoor.Spc
