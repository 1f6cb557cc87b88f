/-
  The contracts of spec.Worded, spec.Figures, spec.Odd.
-/
import Derived.Test.YtabjmoaijepdjaaDoorRows
import Derived.Test.YtabjmoaijepdjaaDoorFlt
import Derived.WalkKit
import Derived.Sort.WalkA
import Derived.WalkLawsBesides
import Derived.ProofKit
import Derived.OpenShut
import Derived.Deep.RegionWith
import Derived.Below
import Derived.OwnWalk
import Derived.Lib.Hide
namespace Go.Proofs.YtabjmoaijepdjaaDoor.Wor
open Go.ChangeShapes Go.WideShapes Go.ChangeAt Go.RowKit Go.Sort

def okc (c : UInt8) : Bool := (97 ≤ c.toNat && c.toNat ≤ 122) || (65 ≤ c.toNat && c.toNat ≤ 90) || (48 ≤ c.toNat && c.toNat ≤ 57) || c.toNat == 46 || c.toNat == 45 || c.toNat == 32

theorem get_eq {s : ByteArray} {k : Nat} (h : k < s.size) : s[k] = s.get! k := by
  simp [ByteArray.get!, ByteArray.getElem_eq_getElem_data, getElem!_pos, h]
theorem upto_snoc {p : Nat → Prop} {k : Nat} (h : ∀ t, t < k → p t) (hk : p k) : ∀ t, t < k + 1 → p t := fun t ht => by
  rcases Nat.lt_succ_iff_lt_or_eq.1 ht with h1 | rfl
  · exact h t h1
  · exact hk

/-- What comes back of Worded. -/
def WordedPost (s : ByteArray) (w : World) (e : Ending) (w' : World) : Prop :=
  ∃ b : Bool, e = .returned (.bool b) ∧ (b = true → s.size ≤ 40 ∧ ∀ k, k < s.size → okc (s.get! k) = true) ∧ Below w.heap.size w w'

theorem worded_any (w : World) (s : ByteArray) (hs : s.size ≤ 9223372036854775807) :
    Calls Tryd.prog 4 #[.string s] w fun e w' => WordedPost s w e w' := by
  go_enter Tryd.func4, Tryd.ntmps4
  go_wp2
  go_loopw [3] (fun i wr => ∃ k : Nat, k ≤ s.size ∧ i = .int .i64 k ∧ Hid (∀ t, t < k → okc (s.get! t) = true) ∧ Below w.heap.size w wr) (fun i _ => s.size - (intOf i).toNat)
  case atStart => exact ⟨0, by omega, rfl, Lib.hid fun t h1 => by omega, by repeat (first | exact Below.refl _ _ | apply Below.alloc)⟩
  case round =>
    obtain ⟨k, hk, rfl, hz, hb⟩ := hrel
    have HB := Lib.hid hb
    clear hb
    by_cases hlt : k < s.size
    · go_wp2
      all_goals first
        | (go_ret; exact ⟨false, rfl, fun h => (by cases h), HB.out⟩)
        | (refine ⟨⟨k + 1, hlt, by go_num, Lib.hid (upto_snoc hz.out ?_), HB.out⟩, by simp only [intOf]; omega⟩
           rw [← get_eq hlt]
           simp only [okc, Bool.or_eq_true, Bool.and_eq_true, decide_eq_true_eq, beq_iff_eq]
           first
             | omega
             | (simp only [Bool.not_eq_false', decide_eq_true_eq, beq_iff_eq] at *; omega))
    · go_wp2
      go_ret
      have e : k = s.size := by omega
      subst e
      refine ⟨_, rfl, fun h => ⟨?_, hz.out⟩, HB.out⟩
      have := of_decide_eq_true h
      omega

def isd (c : UInt8) : Bool := 48 ≤ c.toNat && c.toNat ≤ 57
/-- How many digits a list has. -/
def figs (l : List UInt8) : Nat := l.countP isd
theorem figs_take {l : List UInt8} {k : Nat} (h : k < l.length) : figs (l.take (k + 1)) = figs (l.take k) + if isd l[k] then 1 else 0 := by
  unfold figs
  rw [List.take_add_one, List.getElem?_eq_getElem h, List.countP_append]
  simp [List.countP_cons]
theorem figs_le (l : List UInt8) : figs l ≤ l.length := List.countP_le_length

theorem figures_any (w : World) (s : ByteArray) (hs : s.size ≤ 9223372036854775807) :
    Calls Tryd.prog 6 #[.string s] w fun e w' => e = .returned (.int .i64 (figs s.data.toList)) ∧ Below w.heap.size w w' := by
  go_enter Tryd.func6, Tryd.ntmps6
  go_wp2
  go_loopw [3, 4] (fun n i wr => ∃ k N : Nat, k ≤ s.size ∧ N ≤ k ∧ n = .int .i64 N ∧ i = .int .i64 k ∧ Hid (N = figs (s.data.toList.take k)) ∧ Below w.heap.size w wr) (fun _ i _ => s.size - (intOf i).toNat)
  case atStart => exact ⟨0, 0, by omega, by omega, rfl, rfl, Lib.hid (by simp [figs]), by repeat (first | exact Below.refl _ _ | apply Below.alloc)⟩
  case round =>
    obtain ⟨k, N, hk, hN, rfl, rfl, hz, hb⟩ := hrel
    have HB := Lib.hid hb
    clear hb
    by_cases hlt : k < s.size
    · go_wp2
      all_goals
        have hl : k < s.data.toList.length := hlt
        have hf := figs_take hl
        rw [← hz.out, show s.data.toList[k] = s[k] from rfl] at hf
      · rw [if_pos (by simp only [isd, Bool.and_eq_true, decide_eq_true_eq]; omega)] at hf
        exact ⟨⟨k + 1, N + 1, hlt, by omega, by go_num, by go_num, Lib.hid hf.symm, HB.out⟩, by simp only [intOf]; omega⟩
      · rw [if_neg (by simp only [isd, Bool.and_eq_true, decide_eq_true_eq]; omega)] at hf
        exact ⟨⟨k + 1, N, hlt, by omega, by go_num, by go_num, Lib.hid hf.symm, HB.out⟩, by simp only [intOf]; omega⟩
      · rw [if_neg (by simp only [isd, Bool.and_eq_true, decide_eq_true_eq]; omega)] at hf
        exact ⟨⟨k + 1, N, hlt, by omega, by go_num, by go_num, Lib.hid hf.symm, HB.out⟩, by simp only [intOf]; omega⟩
    · have hlt' : ¬ (k : Int) < (s.size : Int) := by omega
      go_wp2
      go_ret
      have e : k = s.size := by omega
      refine ⟨?_, HB.out⟩
      show Ending.returned (.int .i64 (N : Int)) = _
      rw [hz.out, e, List.take_of_length_le (by simp)]
end Go.Proofs.YtabjmoaijepdjaaDoor.Wor
