/-
  The contract of spec.Odd.
-/
import Derived.Test.YtabjmoaijepdjaaDoorWor
import Derived.Lib.SmallJoins
namespace Go.Proofs.YtabjmoaijepdjaaDoor.Odd
open Go.ChangeShapes Go.WideShapes Go.ChangeAt Go.RowKit Go.Sort
open Go.Proofs.YtabjmoaijepdjaaDoor.Wor

/-- The letters that Odd looks for. -/
def odds : List UInt8 := [101, 102, 105, 110, 112, 116, 120, 121, 69, 70, 73, 78, 80, 84, 88, 89, 95]
def oddCells : Array Value := #[.int .u8 101, .int .u8 102, .int .u8 105, .int .u8 110, .int .u8 112, .int .u8 116, .int .u8 120, .int .u8 121, .int .u8 69, .int .u8 70, .int .u8 73, .int .u8 78, .int .u8 80, .int .u8 84, .int .u8 88, .int .u8 89, .int .u8 95]
theorem cells_at {j : Nat} (hj : j < 17) : oddCells[j]? = some (.int .u8 ((odds.getD j 0).toNat : Int)) := by
  match j, hj with
  | 0, _ | 1, _ | 2, _ | 3, _ | 4, _ | 5, _ | 6, _ | 7, _ | 8, _ | 9, _ | 10, _ | 11, _ | 12, _ | 13, _ | 14, _ | 15, _ | 16, _ => rfl
  | n + 17, h => omega
def OddPost (s : ByteArray) (w : World) (e : Ending) (w' : World) : Prop :=
  ∃ b : Bool, e = .returned (.bool b) ∧ (b = false → ∀ k, k < s.size → s.get! k ∉ odds) ∧ Below w.heap.size w w'

set_option maxRecDepth 100000 in
theorem odd_any (w : World) (s : ByteArray) (hs : s.size ≤ 9223372036854775807) :
    Calls Tryd.prog 5 #[.string s] w fun e w' => OddPost s w e w' := by
  go_enter Tryd.func5, Tryd.ntmps5
  go_wp2
  go_loopw [3] (fun i wr => ∃ k : Nat, k ≤ s.size ∧ i = .int .i64 k ∧ Hid (∀ t, t < k → s.get! t ∉ odds) ∧ Below w.heap.size w wr) (fun i _ => s.size - (intOf i).toNat)
  case atStart => exact ⟨0, by omega, rfl, Lib.hid fun t h1 => by omega, by repeat (first | exact Below.refl _ _ | apply Below.alloc)⟩
  case round =>
    obtain ⟨k, hk, rfl, hz, hb⟩ := hrel
    have HB := Lib.hid hb
    clear hb
    by_cases hlt : k < s.size
    · have hcv := Lib.run_convert_bytes_const (P := Tryd.prog) wr 29 5 oddCells 17 17 Tryd.underlying29 Tryd.underlying5
      have hc : ∀ j, j < 17 → (wr.alloc (.cells oddCells 5 (17, 18))).cell? ⟨wr.heap.size, j, none⟩ = some (.int .u8 ((odds.getD j 0).toNat : Int)) := fun j hj => by
        rw [World.cell?_alloc_mark]; exact cells_at hj
      obtain ⟨W2, hW2⟩ : ∃ W2, W2 = wr.alloc (.cells oddCells 5 (17, 18)) := ⟨_, rfl⟩
      have HB2 : Hid (Below w.heap.size w W2) := Lib.hid (hW2 ▸ HB.out.alloc HB.out.size _)
      have hcv' : (convert 29 29 (.slice (some ⟨wr.heap.size, 0, none⟩) 17 17)).run Tryd.prog (wr.alloc (.cells oddCells 5)) = .ok (.slice (some ⟨wr.heap.size, 0, none⟩) 17 17) W2 := by rw [hW2]; exact hcv
      rw [← hW2] at hc
      have HC := Lib.hid hc
      clear hc hcv hW2
      unfold oddCells at hcv'
      go_wp2
      clear hcv'
      go_loopw [15] (fun j wj => ∃ i : Nat, i ≤ 17 ∧ j = .int .i64 i ∧ wj = W2 ∧ Hid (∀ t, t < i → s.get! k ≠ odds.getD t 0)) (fun j _ => 17 - (intOf j).toNat)
      case atStart => exact ⟨0, by omega, rfl, rfl, Lib.hid fun t h => by omega⟩
      case round =>
        obtain ⟨i, hi, rfl, rfl, hz2⟩ := hrel
        by_cases hlt2 : i < 17
        · have hci := HC.out i hlt2
          clear HC
          go_wp2
          · go_ret
            exact ⟨true, rfl, fun h => (by cases h), HB2.out⟩
          · rename_i hne
            refine ⟨⟨i + 1, by omega, by go_num, trivial, Lib.hid (upto_snoc hz2.out ?_)⟩, by simp only [intOf]; omega⟩
            rw [← get_eq hlt]
            intro e
            refine Bool.noConfusion (hne.symm.trans (beq_iff_eq.2 ?_))
            rw [e, List.getD_eq_getElem?_getD]
        · go_wp2
          refine ⟨⟨k + 1, hlt, by go_num, Lib.hid (upto_snoc hz.out ?_), HB2.out⟩, by simp only [intOf]; omega⟩
          intro hm
          obtain ⟨t, ht, e⟩ := List.mem_iff_getElem.1 hm
          have ht' : t < 17 := ht
          refine hz2.out t (by omega) ?_
          rw [List.getD_eq_getElem?_getD, List.getElem?_eq_getElem ht, ← e]
          rfl
    · go_wp2
      go_ret
      have e : k = s.size := by omega
      subst e
      exact ⟨false, rfl, fun h => hz.out, HB.out⟩
end Go.Proofs.YtabjmoaijepdjaaDoor.Odd
