/-
  The contract of internal/strconv.fmtEFG at the format f, for digits that lie in a block of their own.
-/
import Derived.Test.YtiamghbefallkaaDoorUsc
import Derived.Below
import Derived.OwnWalk
import Derived.Lib.Itoa
import Derived.Deep.LoopGhost
import Derived.Deep.Cut
namespace Go.Proofs.YtiamghbefallkaaDoor.Efg
open Go.ChangeShapes Go.WideShapes Go.ChangeAt Go.RowKit
open Go.Proofs.YtiamghbefallkaaDoor.Usc

theorem info5 : (Tryd.prog.info? 5).map (fun i => (i.zero, i.size, i.bytes)) = some (some (.int .u8 0), 1, 1) := by kernel_rfl

/-- WHAT HOLDS WHILE THE TEXT GROWS: v owns the bytes xs; the block of the digits is as it was; below B all is as it was. -/
structure Inv (w0 : World) (B bk : Nat) (cs : Array Value) (v : Value) (xs : List Value) (w : World) : Prop where
  own : w.ownsRow B 5 1 v xs.length xs
  buf : w.heap[bk]? = some (.cells cs 45 (0, 0))
  below : Below B w0 w
  base : B ≤ w.heap.size

theorem Inv.apart {w0 w : World} {B bk : Nat} {cs : Array Value} {v : Value} {xs : List Value} (h : Inv w0 B bk cs v xs w) : some bk ≠ v.ownBlock := by
  obtain ⟨_, h1 | ⟨g, cap, cur, rfl, _, hg, _⟩⟩ := h.own
  · rw [h1.1]; simp [Value.ownBlock]
  · intro e
    simp only [Value.ownBlock, Option.some.injEq] at e
    subst e
    rw [h.buf] at hg
    cases hg

theorem Inv.step {w0 w w1 : World} {B bk : Nat} {cs : Array Value} {v v' : Value} {xs : List Value} {u : Value} {o : Obj} (h : Inv w0 B bk cs v xs w)
    (hown : w1.ownsRow B 5 1 v' (xs.length + 1) (xs ++ [u])) (hg : (w.alloc o).grownBy w1 v.ownBlock) : Inv w0 B bk cs v' (xs ++ [u]) w1 := by
  have hlt : bk < w.heap.size := by
    rcases Nat.lt_or_ge bk w.heap.size with h' | h'
    · exact h'
    · have := h.buf; rw [Array.getElem?_eq_none h'] at this; cases this
  have hsz := hg.size
  have hb := h.base
  refine ⟨by simpa using hown, ?_, ?_, ?_⟩
  · rw [hg.block bk (by simp; omega) h.apart, Below.heap_alloc w o bk hlt]
    exact h.buf
  · exact (h.below.alloc h.base o).grown hg (by simp; omega) (fun j hj => (h.own.lt j hj).1)
  · simp at hsz; omega

/-- ONE BYTE MORE. -/
theorem app1 {ops : Array Oper} {rest : List Oper} {o : Oper} {a : Act} {Q : Exit → Act → World → Prop} {w0 w : World} {B bk : Nat} {cs : Array Value} {v : Value} {xs : List Value} {T : TypeId}
    (hI : Inv w0 B bk cs v xs w) (hgd : o.guard = none) (s x : Operand) (ho : o.op = .call { callee := .builtin .append, args := #[s, x], argTypes := #[29, 29] }) (hs : a.eval s = v)
    (hx : a.eval x = .slice (some ⟨w.heap.size, 0, none⟩) 1 1) (u : Int) (hlen : xs.length ≤ 100)
    (h : ∀ v' w1, Inv w0 B bk cs v' (xs ++ [.int .u8 u]) w1 → wpList Tryd.prog ops Q rest (a.put o.dst v') w1) :
    wpList Tryd.prog ops Q (o :: rest) a (w.alloc (.cells #[.int .u8 u] T)) := by
  obtain ⟨i0, hi, hz0, hz1, hz2⟩ := info_parts info5
  refine wpList_append_own _ hgd s x 29 ho B 5 i0 (.int .u8 0) 1 1 Tryd.underlying29 hi hz0 hz1 hz2 rfl (by decide) v xs.length xs hs (hI.own.alloc _) ⟨w.heap.size, 0, none⟩ 1 1 [.int .u8 u] hx rfl ?_ ?_ ?_ ?_ ?_ ?_
  · intro j u' hj
    match j, hj with
    | 0, hj => simp at hj; subst hj; simp [Addr.add]
  · intro u' hu
    simp at hu; subst hu; rfl
  · unfold maxLen; omega
  · omega
  · have := hI.base; simp; omega
  · intro v' w1 hown' hgrow _
    exact h v' w1 (hI.step hown' hgrow)

theorem Inv.cell {w0 w : World} {B bk : Nat} {cs : Array Value} {v : Value} {xs : List Value} (h : Inv w0 B bk cs v xs w) {g : Nat → Nat}
    (hcs : ∀ t, t < 32 → cs[t]? = some (.int .u8 (g t : Int))) (t : Nat) (ht : t < 32) : w.cell? ⟨bk, t, none⟩ = some (.int .u8 (g t : Int)) := by
  rw [Lib.cell_of_heap h.buf]
  exact hcs t ht

/-- Bytes as values. -/
def bs (g : Nat → Nat) (a n : Nat) : List Value := (List.range n).map fun t => Value.int .u8 (g (a + t) : Int)

theorem bs_succ (g : Nat → Nat) (a n : Nat) : bs g a (n + 1) = bs g a n ++ [.int .u8 (g (a + n) : Int)] := by
  unfold bs
  rw [List.range_succ, List.map_append]
  rfl
theorem bs_length (g : Nat → Nat) (a n : Nat) : (bs g a n).length = n := by simp [bs]

set_option maxHeartbeats 1000000 in
set_option maxRecDepth 100000 in
theorem efg_B1 (w : World) (B bk dp k nd : Nat) (hnd : nd = dp + k) (h0 : 0 < dp) (hk : 0 < k) (h32 : nd ≤ 32) (cs : Array Value) (g : Nat → Nat)
    (hcs : ∀ t, t < 32 → cs[t]? = some (.int .u8 (g t : Int))) (v : Value) (hI : Inv w B bk cs v [] w) :
    Calls Tryd.prog 22 #[v, .bool true, .slice (some ⟨bk, 0, none⟩) 32 32, .int .i64 dp, .int .i64 nd, .int .i64 k, .int .u8 102, .bool true] w
      fun e w' => ∃ v', e = .returned v' ∧ Inv w B bk cs v' ([Value.int .u8 45] ++ bs g 0 dp ++ [Value.int .u8 46] ++ bs g dp k) w' := by
  have H := Lib.hid hnd
  have hle : dp ≤ nd := by omega
  have hmin : min (nd : Int) (dp : Int) = (dp : Int) := by omega
  have hmax : max (dp : Int) 0 = (dp : Int) := by omega
  have hm1 : max 0 (-(dp : Int)) = 0 := by omega
  have hm2 : min (k : Int) 0 = 0 := by omega
  have hm3 : max 0 ((nd : Int) - (dp : Int)) = (k : Int) := by omega
  have HC := Lib.hid hcs
  clear hnd hcs
  go_enter Tryd.func22, Tryd.ntmps22
  go_wp2_with (at_builtin; refine app1 hI rfl _ _ rfl rfl rfl _ (by simp) ?_; intro v1 w1 hI1)
  simp only [List.nil_append] at hI1
  clear hI
  go_loopw [0, 191] (fun v i wr => ∃ j : Nat, j ≤ dp ∧ i = .int .i64 j ∧ Inv w B bk cs v ([Value.int .u8 45] ++ bs g 0 j) wr) (fun _ i _ => dp - (intOf i).toNat)
  case atStart => exact ⟨0, Nat.zero_le _, rfl, by simpa [bs] using hI1⟩
  case round =>
    clear hI1
    obtain ⟨j, hj, rfl, hI⟩ := hrel
    have hl : ([Value.int .u8 45] ++ bs g 0 j).length ≤ 100 := by simp [bs]; omega
    by_cases hlt : j < dp
    · have hcell : wr.cell? ⟨bk, j, none⟩ = some (.int .u8 (g j : Int)) := hI.cell HC.out j (by omega)
      go_wp2_with (at_builtin; refine app1 hI rfl _ _ rfl rfl rfl _ hl ?_; intro v1 w1 hI1)
      go_roundw
      case rel => exact ⟨j + 1, by omega, by go_num, by rw [bs_succ, ← List.append_assoc]; simpa using hI1⟩
      case measure => simp [intOf]; omega
    · obtain rfl : j = dp := by omega
      clear hl
      go_wp2
      refine wp_loop_rounds 1 ?_
      rw [rounds_succ]
      go_wp2_with (at_builtin; refine app1 hI rfl _ _ rfl rfl rfl _ (by simp [bs]; omega) ?_; intro v1 w1 hI1)
      clear hI
      obtain ⟨wo, rfl⟩ : ∃ wo : World, wo = wr := ⟨_, rfl⟩
      refine wp_loop_rounds 1 ?_
      rw [rounds_succ]
      go_wp2
      go_loopw [0, 247] (fun v i wr => ∃ t : Nat, t ≤ k ∧ i = .int .i64 t ∧ Inv w B bk cs v ([Value.int .u8 45] ++ bs g 0 j ++ [Value.int .u8 46] ++ bs g j t) wr) (fun _ i _ => k - (intOf i).toNat)
      case atStart => exact ⟨0, Nat.zero_le _, rfl, by simpa [bs] using hI1⟩
      case round =>
        clear hI1
        obtain ⟨t, ht, rfl, hI⟩ := hrel
        have hl : ([Value.int .u8 45] ++ bs g 0 j ++ [Value.int .u8 46] ++ bs g j t).length ≤ 100 := by simp [bs]; omega
        by_cases hlt2 : t < k
        · have hcell : wr.cell? ⟨bk, j + t, none⟩ = some (.int .u8 (g (j + t) : Int)) := hI.cell HC.out (j + t) (by have := H.out; omega)
          go_wp2_with (at_builtin; refine app1 hI rfl _ _ rfl rfl rfl _ hl ?_; intro v1 w1 hI1)
          go_roundw
          case rel => exact ⟨t + 1, by omega, by go_num, by rw [bs_succ, ← List.append_assoc]; simpa using hI1⟩
          case measure => simp [intOf]; omega
        · obtain rfl : t = k := by omega
          clear hl
          go_wp2
          obtain ⟨wo2, rfl⟩ : ∃ wo : World, wo = wr := ⟨_, rfl⟩
          refine wp_loop_rounds 1 ?_
          rw [rounds_succ]
          go_wp2
          go_ret
          exact ⟨_, rfl, hI⟩


set_option maxHeartbeats 1000000 in
set_option maxRecDepth 100000 in
theorem efg_B0 (w : World) (B bk dp k nd : Nat) (hnd : nd = dp + k) (h0 : 0 < dp) (hk : 0 < k) (h32 : nd ≤ 32) (cs : Array Value) (g : Nat → Nat)
    (hcs : ∀ t, t < 32 → cs[t]? = some (.int .u8 (g t : Int))) (v : Value) (hI : Inv w B bk cs v [] w) :
    Calls Tryd.prog 22 #[v, .bool false, .slice (some ⟨bk, 0, none⟩) 32 32, .int .i64 dp, .int .i64 nd, .int .i64 k, .int .u8 102, .bool true] w
      fun e w' => ∃ v', e = .returned v' ∧ Inv w B bk cs v' (([] : List Value) ++ bs g 0 dp ++ [Value.int .u8 46] ++ bs g dp k) w' := by
  have H := Lib.hid hnd
  have hle : dp ≤ nd := by omega
  have hmin : min (nd : Int) (dp : Int) = (dp : Int) := by omega
  have hmax : max (dp : Int) 0 = (dp : Int) := by omega
  have hm1 : max 0 (-(dp : Int)) = 0 := by omega
  have hm2 : min (k : Int) 0 = 0 := by omega
  have hm3 : max 0 ((nd : Int) - (dp : Int)) = (k : Int) := by omega
  have HC := Lib.hid hcs
  clear hnd hcs
  go_enter Tryd.func22, Tryd.ntmps22
  go_wp2
  have hI1 := hI
  clear hI
  go_loopw [0, 191] (fun v i wr => ∃ j : Nat, j ≤ dp ∧ i = .int .i64 j ∧ Inv w B bk cs v (([] : List Value) ++ bs g 0 j) wr) (fun _ i _ => dp - (intOf i).toNat)
  case atStart => exact ⟨0, Nat.zero_le _, rfl, by simpa [bs] using hI1⟩
  case round =>
    clear hI1
    obtain ⟨j, hj, rfl, hI⟩ := hrel
    have hl : (([] : List Value) ++ bs g 0 j).length ≤ 100 := by simp [bs]; omega
    by_cases hlt : j < dp
    · have hcell : wr.cell? ⟨bk, j, none⟩ = some (.int .u8 (g j : Int)) := hI.cell HC.out j (by omega)
      go_wp2_with (at_builtin; refine app1 hI rfl _ _ rfl rfl rfl _ hl ?_; intro v1 w1 hI1)
      go_roundw
      case rel => exact ⟨j + 1, by omega, by go_num, by rw [bs_succ, ← List.append_assoc]; simpa using hI1⟩
      case measure => simp [intOf]; omega
    · obtain rfl : j = dp := by omega
      clear hl
      go_wp2
      refine wp_loop_rounds 1 ?_
      rw [rounds_succ]
      go_wp2_with (at_builtin; refine app1 hI rfl _ _ rfl rfl rfl _ (by simp [bs]; omega) ?_; intro v1 w1 hI1)
      clear hI
      obtain ⟨wo, rfl⟩ : ∃ wo : World, wo = wr := ⟨_, rfl⟩
      refine wp_loop_rounds 1 ?_
      rw [rounds_succ]
      go_wp2
      go_loopw [0, 247] (fun v i wr => ∃ t : Nat, t ≤ k ∧ i = .int .i64 t ∧ Inv w B bk cs v (([] : List Value) ++ bs g 0 j ++ [Value.int .u8 46] ++ bs g j t) wr) (fun _ i _ => k - (intOf i).toNat)
      case atStart => exact ⟨0, Nat.zero_le _, rfl, by simpa [bs] using hI1⟩
      case round =>
        clear hI1
        obtain ⟨t, ht, rfl, hI⟩ := hrel
        have hl : (([] : List Value) ++ bs g 0 j ++ [Value.int .u8 46] ++ bs g j t).length ≤ 100 := by simp [bs]; omega
        by_cases hlt2 : t < k
        · have hcell : wr.cell? ⟨bk, j + t, none⟩ = some (.int .u8 (g (j + t) : Int)) := hI.cell HC.out (j + t) (by have := H.out; omega)
          go_wp2_with (at_builtin; refine app1 hI rfl _ _ rfl rfl rfl _ hl ?_; intro v1 w1 hI1)
          go_roundw
          case rel => exact ⟨t + 1, by omega, by go_num, by rw [bs_succ, ← List.append_assoc]; simpa using hI1⟩
          case measure => simp [intOf]; omega
        · obtain rfl : t = k := by omega
          clear hl
          go_wp2
          obtain ⟨wo2, rfl⟩ : ∃ wo : World, wo = wr := ⟨_, rfl⟩
          refine wp_loop_rounds 1 ?_
          rw [rounds_succ]
          go_wp2
          go_ret
          exact ⟨_, rfl, hI⟩


set_option maxHeartbeats 1000000 in
set_option maxRecDepth 100000 in
theorem efg_A1 (w : World) (B bk dp z nd : Nat) (hdp : dp = nd + z) (h0 : 0 < dp) (h32 : dp ≤ 32) (cs : Array Value) (g : Nat → Nat)
    (hcs : ∀ t, t < 32 → cs[t]? = some (.int .u8 (g t : Int))) (v : Value) (hI : Inv w B bk cs v [] w) :
    Calls Tryd.prog 22 #[v, .bool true, .slice (some ⟨bk, 0, none⟩) 32 32, .int .i64 dp, .int .i64 nd, .int .i64 0, .int .u8 102, .bool true] w
      fun e w' => ∃ v', e = .returned v' ∧ Inv w B bk cs v' ([Value.int .u8 45] ++ bs g 0 nd ++ List.replicate z (Value.int .u8 48)) w' := by
  have hle : nd ≤ dp := by omega
  have hmin : min (nd : Int) (dp : Int) = (nd : Int) := by omega
  have hmax : max (nd : Int) 0 = (nd : Int) := by omega
  have hsub : (dp : Int) - (nd : Int) = (z : Int) := by omega
  have hz : z ≤ 32 := by omega
  have HC := Lib.hid hcs
  clear hdp hcs
  go_enter Tryd.func22, Tryd.ntmps22
  go_wp2_with (at_builtin; refine app1 hI rfl _ _ rfl rfl rfl _ (by simp) ?_; intro v1 w1 hI1)
  simp only [List.nil_append] at hI1
  clear hI
  go_loopw [0, 191] (fun v i wr => ∃ j : Nat, j ≤ nd ∧ i = .int .i64 j ∧ Inv w B bk cs v ([Value.int .u8 45] ++ bs g 0 j) wr) (fun _ i _ => nd - (intOf i).toNat)
  case atStart => exact ⟨0, Nat.zero_le _, rfl, by simpa [bs] using hI1⟩
  case round =>
    clear hI1
    obtain ⟨j, hj, rfl, hI⟩ := hrel
    have hl : ([Value.int .u8 45] ++ bs g 0 j).length ≤ 100 := by simp [bs]; omega
    by_cases hlt : j < nd
    · have hcell : wr.cell? ⟨bk, j, none⟩ = some (.int .u8 (g j : Int)) := hI.cell HC.out j (by omega)
      go_wp2_with (at_builtin; refine app1 hI rfl _ _ rfl rfl rfl _ hl ?_; intro v1 w1 hI1)
      go_roundw
      case rel => exact ⟨j + 1, by omega, by go_num, by rw [bs_succ, ← List.append_assoc]; simpa using hI1⟩
      case measure => simp [intOf]; omega
    · obtain rfl : j = nd := by omega
      clear hl
      go_wp2
      obtain ⟨wo, rfl⟩ : ∃ wo : World, wo = wr := ⟨_, rfl⟩
      go_loopw [0, 203] (fun v i wr => ∃ t : Nat, t ≤ z ∧ i = .int .i64 t ∧ Inv w B bk cs v ([Value.int .u8 45] ++ bs g 0 j ++ List.replicate t (Value.int .u8 48)) wr) (fun _ i _ => z - (intOf i).toNat)
      case atStart => exact ⟨0, Nat.zero_le _, rfl, by simpa using hI⟩
      case round =>
        clear hI
        obtain ⟨t, ht, rfl, hI⟩ := hrel
        have hl : ([Value.int .u8 45] ++ bs g 0 j ++ List.replicate t (Value.int .u8 48)).length ≤ 100 := by simp [bs]; omega
        by_cases hlt2 : t < z
        · go_wp2_with (at_builtin; refine app1 hI rfl _ _ rfl rfl rfl _ hl ?_; intro v1 w1 hI1)
          go_roundw
          case rel => exact ⟨t + 1, by omega, by go_num, by rw [List.replicate_succ', ← List.append_assoc]; simpa using hI1⟩
          case measure => simp [intOf]; omega
        · obtain rfl : t = z := by omega
          clear hl
          go_wp2
          go_ret
          exact ⟨_, rfl, hI⟩


set_option maxHeartbeats 1000000 in
set_option maxRecDepth 100000 in
theorem efg_A0 (w : World) (B bk dp z nd : Nat) (hdp : dp = nd + z) (h0 : 0 < dp) (h32 : dp ≤ 32) (cs : Array Value) (g : Nat → Nat)
    (hcs : ∀ t, t < 32 → cs[t]? = some (.int .u8 (g t : Int))) (v : Value) (hI : Inv w B bk cs v [] w) :
    Calls Tryd.prog 22 #[v, .bool false, .slice (some ⟨bk, 0, none⟩) 32 32, .int .i64 dp, .int .i64 nd, .int .i64 0, .int .u8 102, .bool true] w
      fun e w' => ∃ v', e = .returned v' ∧ Inv w B bk cs v' (([] : List Value) ++ bs g 0 nd ++ List.replicate z (Value.int .u8 48)) w' := by
  have hle : nd ≤ dp := by omega
  have hmin : min (nd : Int) (dp : Int) = (nd : Int) := by omega
  have hmax : max (nd : Int) 0 = (nd : Int) := by omega
  have hsub : (dp : Int) - (nd : Int) = (z : Int) := by omega
  have hz : z ≤ 32 := by omega
  have HC := Lib.hid hcs
  clear hdp hcs
  go_enter Tryd.func22, Tryd.ntmps22
  go_wp2
  have hI1 := hI
  clear hI
  go_loopw [0, 191] (fun v i wr => ∃ j : Nat, j ≤ nd ∧ i = .int .i64 j ∧ Inv w B bk cs v (([] : List Value) ++ bs g 0 j) wr) (fun _ i _ => nd - (intOf i).toNat)
  case atStart => exact ⟨0, Nat.zero_le _, rfl, by simpa [bs] using hI1⟩
  case round =>
    clear hI1
    obtain ⟨j, hj, rfl, hI⟩ := hrel
    have hl : (([] : List Value) ++ bs g 0 j).length ≤ 100 := by simp [bs]; omega
    by_cases hlt : j < nd
    · have hcell : wr.cell? ⟨bk, j, none⟩ = some (.int .u8 (g j : Int)) := hI.cell HC.out j (by omega)
      go_wp2_with (at_builtin; refine app1 hI rfl _ _ rfl rfl rfl _ hl ?_; intro v1 w1 hI1)
      go_roundw
      case rel => exact ⟨j + 1, by omega, by go_num, by rw [bs_succ, ← List.append_assoc]; simpa using hI1⟩
      case measure => simp [intOf]; omega
    · obtain rfl : j = nd := by omega
      clear hl
      go_wp2
      obtain ⟨wo, rfl⟩ : ∃ wo : World, wo = wr := ⟨_, rfl⟩
      go_loopw [0, 203] (fun v i wr => ∃ t : Nat, t ≤ z ∧ i = .int .i64 t ∧ Inv w B bk cs v (([] : List Value) ++ bs g 0 j ++ List.replicate t (Value.int .u8 48)) wr) (fun _ i _ => z - (intOf i).toNat)
      case atStart => exact ⟨0, Nat.zero_le _, rfl, by simpa using hI⟩
      case round =>
        clear hI
        obtain ⟨t, ht, rfl, hI⟩ := hrel
        have hl : (([] : List Value) ++ bs g 0 j ++ List.replicate t (Value.int .u8 48)).length ≤ 100 := by simp [bs]; omega
        by_cases hlt2 : t < z
        · go_wp2_with (at_builtin; refine app1 hI rfl _ _ rfl rfl rfl _ hl ?_; intro v1 w1 hI1)
          go_roundw
          case rel => exact ⟨t + 1, by omega, by go_num, by rw [List.replicate_succ', ← List.append_assoc]; simpa using hI1⟩
          case measure => simp [intOf]; omega
        · obtain rfl : t = z := by omega
          clear hl
          go_wp2
          go_ret
          exact ⟨_, rfl, hI⟩


set_option maxHeartbeats 1000000 in
set_option maxRecDepth 100000 in
theorem efg_C1 (w : World) (B bk k : Nat) (hk : 0 < k) (h32 : k ≤ 32) (cs : Array Value) (g : Nat → Nat)
    (hcs : ∀ t, t < 32 → cs[t]? = some (.int .u8 (g t : Int))) (v : Value) (hI : Inv w B bk cs v [] w) :
    Calls Tryd.prog 22 #[v, .bool true, .slice (some ⟨bk, 0, none⟩) 32 32, .int .i64 0, .int .i64 k, .int .i64 k, .int .u8 102, .bool true] w
      fun e w' => ∃ v', e = .returned v' ∧ Inv w B bk cs v' ([Value.int .u8 45] ++ [Value.int .u8 48, Value.int .u8 46] ++ bs g 0 k) w' := by
  have hm2 : min (k : Int) 0 = 0 := by omega
  have hm3 : max 0 (k : Int) = (k : Int) := by omega
  have HC := Lib.hid hcs
  clear hcs
  go_enter Tryd.func22, Tryd.ntmps22
  go_upto_region 55 with (at_builtin; refine app1 hI rfl _ _ rfl rfl rfl _ (by simp) ?_; intro v1 w1 hI1)
  simp only [List.nil_append] at hI1
  clear hI
  have hI := hI1
  clear hI1
  go_upto_region 67 with (at_builtin; refine app1 hI rfl _ _ rfl rfl rfl _ (by simp) ?_; intro v1 w1 hI1)
  clear hI
  have hI := hI1
  clear hI1
  go_wp2_with (at_builtin; refine app1 hI rfl _ _ rfl rfl rfl _ (by simp) ?_; intro v1 w1 hI1)
  clear hI
  refine wp_loop_rounds 1 ?_
  rw [rounds_succ]
  go_wp2
  go_loopw [0, 247] (fun v i wr => ∃ t : Nat, t ≤ k ∧ i = .int .i64 t ∧ Inv w B bk cs v ([Value.int .u8 45] ++ [Value.int .u8 48, Value.int .u8 46] ++ bs g 0 t) wr) (fun _ i _ => k - (intOf i).toNat)
  case atStart => exact ⟨0, Nat.zero_le _, rfl, by simpa [bs] using hI1⟩
  case round =>
    clear hI1
    obtain ⟨t, ht, rfl, hI⟩ := hrel
    have hl : ([Value.int .u8 45] ++ [Value.int .u8 48, Value.int .u8 46] ++ bs g 0 t).length ≤ 100 := by simp [bs]; omega
    by_cases hlt2 : t < k
    · have hcell : wr.cell? ⟨bk, t, none⟩ = some (.int .u8 (g t : Int)) := hI.cell HC.out t (by omega)
      go_wp2_with (at_builtin; refine app1 hI rfl _ _ rfl rfl rfl _ hl ?_; intro v1 w1 hI1)
      go_roundw
      case rel => exact ⟨t + 1, by omega, by go_num, by rw [bs_succ, ← List.append_assoc]; simpa using hI1⟩
      case measure => simp [intOf]; omega
    · obtain rfl : t = k := by omega
      clear hl
      go_wp2
      obtain ⟨wo2, rfl⟩ : ∃ wo : World, wo = wr := ⟨_, rfl⟩
      refine wp_loop_rounds 1 ?_
      rw [rounds_succ]
      go_wp2
      go_ret
      exact ⟨_, rfl, hI⟩


set_option maxHeartbeats 1000000 in
set_option maxRecDepth 100000 in
theorem efg_C0 (w : World) (B bk k : Nat) (hk : 0 < k) (h32 : k ≤ 32) (cs : Array Value) (g : Nat → Nat)
    (hcs : ∀ t, t < 32 → cs[t]? = some (.int .u8 (g t : Int))) (v : Value) (hI : Inv w B bk cs v [] w) :
    Calls Tryd.prog 22 #[v, .bool false, .slice (some ⟨bk, 0, none⟩) 32 32, .int .i64 0, .int .i64 k, .int .i64 k, .int .u8 102, .bool true] w
      fun e w' => ∃ v', e = .returned v' ∧ Inv w B bk cs v' (([] : List Value) ++ [Value.int .u8 48, Value.int .u8 46] ++ bs g 0 k) w' := by
  have hm2 : min (k : Int) 0 = 0 := by omega
  have hm3 : max 0 (k : Int) = (k : Int) := by omega
  have HC := Lib.hid hcs
  clear hcs
  go_enter Tryd.func22, Tryd.ntmps22
  have hI1 := hI
  clear hI
  have hI := hI1
  clear hI1
  go_upto_region 67 with (at_builtin; refine app1 hI rfl _ _ rfl rfl rfl _ (by simp) ?_; intro v1 w1 hI1)
  clear hI
  have hI := hI1
  clear hI1
  go_wp2_with (at_builtin; refine app1 hI rfl _ _ rfl rfl rfl _ (by simp) ?_; intro v1 w1 hI1)
  clear hI
  refine wp_loop_rounds 1 ?_
  rw [rounds_succ]
  go_wp2
  go_loopw [0, 247] (fun v i wr => ∃ t : Nat, t ≤ k ∧ i = .int .i64 t ∧ Inv w B bk cs v (([] : List Value) ++ [Value.int .u8 48, Value.int .u8 46] ++ bs g 0 t) wr) (fun _ i _ => k - (intOf i).toNat)
  case atStart => exact ⟨0, Nat.zero_le _, rfl, by simpa [bs] using hI1⟩
  case round =>
    clear hI1
    obtain ⟨t, ht, rfl, hI⟩ := hrel
    have hl : (([] : List Value) ++ [Value.int .u8 48, Value.int .u8 46] ++ bs g 0 t).length ≤ 100 := by simp [bs]; omega
    by_cases hlt2 : t < k
    · have hcell : wr.cell? ⟨bk, t, none⟩ = some (.int .u8 (g t : Int)) := hI.cell HC.out t (by omega)
      go_wp2_with (at_builtin; refine app1 hI rfl _ _ rfl rfl rfl _ hl ?_; intro v1 w1 hI1)
      go_roundw
      case rel => exact ⟨t + 1, by omega, by go_num, by rw [bs_succ, ← List.append_assoc]; simpa using hI1⟩
      case measure => simp [intOf]; omega
    · obtain rfl : t = k := by omega
      clear hl
      go_wp2
      obtain ⟨wo2, rfl⟩ : ∃ wo : World, wo = wr := ⟨_, rfl⟩
      refine wp_loop_rounds 1 ?_
      rw [rounds_succ]
      go_wp2
      go_ret
      exact ⟨_, rfl, hI⟩

end Go.Proofs.YtiamghbefallkaaDoor.Efg
