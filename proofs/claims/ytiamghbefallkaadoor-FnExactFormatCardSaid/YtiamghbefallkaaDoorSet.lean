/-
  The contract of internal/strconv.setDigits over a block of 32 bytes.
-/
import Derived.Test.YtiamghbefallkaaDoorUsc
import Derived.Below
import Derived.OwnWalk
import Derived.Lib.ItoaMem
import Derived.Lib.Builder
namespace Go.Proofs.YtiamghbefallkaaDoor.Set
open Go.ChangeShapes Go.WideShapes Go.ChangeAt Go.RowKit Go.Sort
open Go.Proofs.YtiamghbefallkaaDoor.Usc

def zeros32 : Array Value := Array.replicate 32 (.int .u8 0)
abbrev eb (b : UInt8) : Value := Value.int .u8 (b.toNat : Int)

/-- The byte that lies at place t behind setDigits' writing. -/
def dig (u nd t : Nat) : Nat := if t < nd then (Lib.dg u (nd - 1 - t)).toNat else 0

theorem format_any (w : World) (bk u nd : Nat) (hu : u < 10 ^ nd) (hu64 : u < 18446744073709551616) (hnd : nd ≤ 32) (hbk : w.heap[bk]? = some (.cells zeros32 45 (0, 0))) :
    Calls Tryd.prog 44 #[.slice (some ⟨bk, 0, none⟩) nd 32, .int .u64 u] w fun e w' => e = .returned (.tuple #[]) ∧
      ∃ cs, w'.heap[bk]? = some (.cells cs 45 (0, 0)) ∧ (∀ t, t < 32 → cs[t]? = some (.int .u8 (dig u nd t : Int))) ∧ w.grownBy w' (some bk) := by
  have hH : Holds eb w bk 0 (Array.replicate nd (0 : UInt8)) := fun j hj => by
    have hj' : j < nd := by simpa using hj
    refine ⟨?_, ?_⟩
    · rw [Nat.zero_add, Lib.cell_of_heap hbk, getElem!_pos _ j hj]
      unfold zeros32
      rw [Array.getElem?_replicate, if_pos (by omega)]
      simp
    · simp [World.frozen?, hbk]
  have h := Tryd.internal_strconv_formatBase10 bk 0 32 u (Array.replicate nd (0 : UInt8)) w hH (by simpa using hu) hu64 (by simp; omega)
  rw [show (Array.replicate nd (0 : UInt8)).size = nd by simp] at h
  refine h.mono ?_
  rintro e w' ⟨rfl, n, v', dk, rfl, hF⟩
  refine ⟨rfl, putCells eb 0 dk zeros32, ?_, ?_, ?_⟩
  · show (w.heap.modify bk (onCells (putCells eb 0 dk)))[bk]? = _
    rw [Array.getElem?_modify, if_pos rfl, hbk]
    rfl
  · intro t ht
    unfold putCells
    rw [Array.getElem?_mapIdx]
    unfold zeros32 dig
    rw [Array.getElem?_replicate, if_pos ht]
    have hs : dk.size = nd := hF.size
    by_cases c : t < nd
    · have := hF.done t (Nat.zero_le _) c
      have c' : 0 ≤ t ∧ t < 0 + dk.size := by omega
      simp only [Option.map_some, if_pos c, if_pos c', Nat.sub_zero, this]
    · have c' : ¬ (0 ≤ t ∧ t < 0 + dk.size) := by omega
      simp only [Option.map_some, if_neg c, if_neg c']
      rfl
  · refine ⟨rfl, rfl, rfl, ?_, ?_⟩
    · show w.heap.size ≤ (w.heap.modify bk (onCells (putCells eb 0 dk))).size
      simp
    · intro k hk hne
      show (w.heap.modify bk (onCells (putCells eb 0 dk)))[k]? = _
      rw [Array.getElem?_modify, if_neg (by intro e; exact hne (by rw [e]))]

set_option maxHeartbeats 400000 in
theorem setDigits_any (w : World) (bk u nd : Nat) (p : Int) (hp : -100 ≤ p) (hp2 : p ≤ 100) (hu : u < 10 ^ nd) (hu64 : u < 18446744073709551616) (hnd : nd ≤ 32) (hbk : w.heap[bk]? = some (.cells zeros32 45 (0, 0))) :
    Calls Tryd.prog 25 #[.slice (some ⟨bk, 0, none⟩) 32 32, .int .u64 u, .int .i64 p, .int .i64 nd] w fun e w' =>
      ∃ nz : Nat, e = .returned (.tuple #[.int .i64 ((nd : Int) + p), .int .i64 nz]) ∧ nz ≤ nd ∧ (∀ t, nz ≤ t → t < nd → dig u nd t = 48) ∧ (0 < nz → dig u nd (nz - 1) ≠ 48) ∧
      ∃ cs, w'.heap[bk]? = some (.cells cs 45 (0, 0)) ∧ (∀ t, t < 32 → cs[t]? = some (.int .u8 (dig u nd t : Int))) ∧ w.grownBy w' (some bk) := by
  have F := Lib.hid (format_any w bk u nd hu hu64 hnd hbk)
  clear hbk hu hu64
  go_enter Tryd.func25, Tryd.ntmps25
  go_wp2_with (go_at_call 44; ((with_reducible refine F.out.mono ?_); rintro e w1 ⟨rfl, cs, hcs, hd, hg⟩))
  have HD := Lib.hid hd
  have HS := Lib.hid hcs
  have HG := Lib.hid hg
  clear hd hcs hg F
  generalize hD : dig u nd = D at *
  go_loop [3] (fun i => ∃ k : Nat, k ≤ nd ∧ i = .int .i64 k ∧ Hid (∀ t, k ≤ t → t < nd → D t = 48)) (fun i => (intOf i).toNat)
  case atStart => exact ⟨nd, Nat.le_refl _, rfl, Lib.hid fun t h1 h2 => by omega⟩
  case round =>
    obtain ⟨k, hk, rfl, hz⟩ := hrel
    match k, hk, hz with
    | 0, hk, hz =>
      go_wp2
      go_ret2
      refine ⟨0, rfl, hk, hz.out, fun h => by omega, cs, HS.out, HD.out, HG.out⟩
    | k + 1, hk, hz =>
      have hc : w1.cell? ⟨bk, k, none⟩ = some (.int .u8 (D k : Int)) := by
        rw [Lib.cell_of_heap HS.out]
        exact HD.out k (by omega)
      by_cases h48 : D k = 48
      · have t1 : ((D k : Int) == 48) = true := by simp; omega
        go_wp2
        go_round
        case rel => exact ⟨k, by omega, by go_num, Lib.hid fun t h1 h2 => by
          by_cases e : t = k
          · rw [e]; exact h48
          · exact hz.out t (by omega) h2⟩
        case measure => simp [intOf]
      · have t1 : ((D k : Int) == 48) = false := by simp; omega
        go_wp2
        go_ret2
        refine ⟨k + 1, rfl, hk, hz.out, fun _ => h48, cs, HS.out, HD.out, HG.out⟩
end Go.Proofs.YtiamghbefallkaaDoor.Set
