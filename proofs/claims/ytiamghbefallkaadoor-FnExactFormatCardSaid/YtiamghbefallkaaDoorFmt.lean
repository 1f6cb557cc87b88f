/-
  The contract of impl.Format at quarters.
-/
import Derived.Test.YtiamghbefallkaaDoorFto
namespace Go.Proofs.YtiamghbefallkaaDoor.Fmt
open Go.ChangeShapes Go.WideShapes Go.ChangeAt Go.RowKit
open Go.Proofs.YtiamghbefallkaaDoor.Usc

theorem conv_own {W : World} {B : Nat} {v : Value} {bytes : List UInt8} (hne : bytes ≠ []) (h : W.ownsRow B 5 1 v bytes.length (bytes.map fun c => Value.int .u8 (c.toNat : Int))) :
    (convert 29 9 v).run Tryd.prog W = .ok (.string ⟨bytes.toArray⟩) W := by
  have h0 := h
  obtain ⟨_, h1 | ⟨g, cap, cur, rfl, _⟩⟩ := h
  · exact absurd (List.eq_nil_of_length_eq_zero h1.2) hne
  · refine run_convert_bytes_back W 29 9 5 ⟨g, 0, none⟩ cap bytes Tryd.underlying29 Tryd.underlying5 Tryd.underlying9 fun j hj => ?_
    have := h0.cells (g := g) rfl j (.int .u8 (bytes[j].toNat : Int)) (by simp [hj])
    exact this

theorem make_run (w : World) : (Instr.makeSlice 29 (.int .i64 0) (.int .i64 24)).run Tryd.prog w = .ok (.slice (some ⟨w.heap.size, 0, none⟩) 0 24) (w.alloc (.cells (Array.replicate 24 (.int .u8 0)) 5)) := by
  kernel_rfl

set_option maxHeartbeats 1000000 in
set_option maxRecDepth 100000 in
theorem float_any (w : World) (b : Nat) (bytes : List UInt8) (hne : bytes ≠ [])
    (HF : Hid (∀ (W : World) (v : Value), Below w.heap.size w W → W.ownsRow w.heap.size 5 1 v 0 [] → Calls Tryd.prog 17 #[v, .float .f64 b, .int .u8 102, .int .i64 (-1)] W fun e w' => ∃ v', e = .returned v' ∧ w'.ownsRow w.heap.size 5 1 v' bytes.length (bytes.map fun c => Value.int .u8 (c.toNat : Int)) ∧ Below w.heap.size W w')) :
    Calls Tryd.prog 13 #[.float .f64 b, .int .u8 102, .int .i64 (-1), .int .i64 64] w fun e w' => e = .returned (.string ⟨bytes.toArray⟩) ∧ Below w.heap.size w w' := by
  have hm24 : max (3 : Int) 24 = 24 := by decide
  have hmk := make_run
  go_enter Tryd.func13, Tryd.ntmps13
  go_wp2_with (go_at_call 17; refine (HF.out _ _ (by exact (Below.refl _ _).alloc (Nat.le_refl _) _) (by exact World.ownsRow_made w _ 24 (Nat.le_refl _) (by unfold maxLen; omega) (by simp))).mono ?_; rintro e w1 ⟨v', rfl, ho, hb⟩; have hcv := conv_own hne ho; have HB := Lib.hid hb; clear ho hb)
  go_ret
  exact ⟨rfl, ((Below.refl _ _).alloc (Nat.le_refl _) _).trans HB.out⟩
end Go.Proofs.YtiamghbefallkaaDoor.Fmt
