/-
  The contract of internal/strconv.shortFloat[float64] at floats whose power of ten is exact.
-/
import Derived.Test.YtiamghbefallkaaDoorUsc
import Derived.Below
namespace Go.Proofs.YtiamghbefallkaaDoor.Sho
open Go.ChangeShapes Go.WideShapes Go.ChangeAt Go.RowKit
open Go.Proofs.YtiamghbefallkaaDoor.Usc

theorem i64_and_nat (a b : Nat) (ha : a < 9223372036854775808) (hb : b < 9223372036854775808) : bits .and .i64 (a : Int) (b : Int) = ((a &&& b : Nat) : Int) := by
  have hx : a &&& b < 2 ^ 63 := Nat.and_lt_two_pow _ (by omega)
  show IntKind.i64.wrap ((BitVec.ofInt 64 (a : Int) &&& BitVec.ofInt 64 (b : Int)).toNat : Int) = _
  rw [BitVec.toNat_and, ofInt_u64 a (by omega), ofInt_u64 b (by omega)]
  generalize a &&& b = X at hx
  simp only [IntKind.wrap, IntKind.signed, IntKind.bits]
  simp
  omega

theorem odd_bit (a : Nat) (ha : a < 9223372036854775808) : bits .and .i64 (a : Int) 1 = ((a % 2 : Nat) : Int) := by
  have h := i64_and_nat a 1 ha (by decide)
  rw [show a &&& 1 = a % 2 from Nat.and_two_pow_sub_one_eq_mod a 1] at h
  exact h

theorem ret_two {k l : IntKind} {a b c d : Int} (h : a = b) (h' : c = d) : Ending.returned (.tuple #[.int k a, .int l c]) = .returned (.tuple #[.int k b, .int l d]) := by rw [h, h']

set_option maxHeartbeats 400000 in
set_option maxRecDepth 100000 in
theorem prescale_new (P s hi : Nat) (E lp : Int) (h1 : -65 ≤ E) (h2 : E ≤ -25) (hl1 : 0 ≤ lp) (hl2 : lp ≤ 100) (hP2 : P ≤ 20) (hs : -(E + lp + 3) = (s : Int))
    (w : World) (t0 : w.cell? ⟨3, (P + 348) * 2, none⟩ = some (.int .u64 hi)) (t1 : w.cell? ⟨3, (P + 348) * 2 + 1, none⟩ = some (.int .u64 0)) :
    Calls Tryd.prog 37 #[.pointer (some ⟨w.heap.size, 0, none⟩), .int .i64 E, .int .i64 P, .int .i64 lp] (w.alloc (.cells #[.int .u64 0, .int .u64 0, .int .i64 0] 65))
      fun e w' => e = .returned (.tuple #[]) ∧ w' = w.alloc (.cells #[.int .u64 hi, .int .u64 0, .int .i64 s] 65) := by
  have hl : 3 < w.heap.size := World.block_lt_of_cell? w _ t0
  have HS := Lib.hid hs
  clear hs
  go_enter Tryd.func37, Tryd.ntmps37
  go_wp2
  go_end0
  exact ⟨rfl, by rw [HS.out]⟩

set_option maxHeartbeats 1000000 in
set_option maxRecDepth 100000 in
theorem short_gen (M P s hi odd : Nat) (E : Int) (hM : 9223372036854775808 < M) (hM2 : M < 18446744073709550000) (h1 : -65 ≤ E) (h2 : E ≤ -25)
    (hP : (E + 11) * 78913 / 262144 = -(P : Int)) (hP1 : 1 ≤ P) (hP2 : P ≤ 20) (hs : -(E + (P : Int) * 108853 / 32768 + 3) = (s : Int)) (hs64 : s < 64) (hhi : hi < 18446744073709551616)
    (ho : odd = M / 2048 % 2)
    (u1 u2 : Nat) (e1 : u1 = usc (M - 1024) hi s) (e2 : u2 = usc (M + 1024) hi s) (b1 : u1 < 2 ^ 61) (b2 : u2 < 2 ^ 61) (b3 : 1 ≤ u2)
    (hle : (u1 + odd + 3) / 4 ≤ (u2 - odd) / 4 / 10 * 10)
    (w : World) (t0 : w.cell? ⟨3, (P + 348) * 2, none⟩ = some (.int .u64 hi)) (t1 : w.cell? ⟨3, (P + 348) * 2 + 1, none⟩ = some (.int .u64 0)) :
    Calls Tryd.prog 32 #[.int .u64 M, .int .i64 E] w fun e w' => e = .returned (.tuple #[.int .u64 (((u2 - odd) / 4 / 10 : Nat) : Int), .int .i64 (1 - (P : Int))]) ∧ Below w.heap.size w w' := by
  have n63 : ((M : Int) == 9223372036854775808) = false := by simp; omega
  have hodd : odd < 2 := by omega
  have hob : bits .and .i64 ((M : Int) / 2048) 1 = (odd : Int) := by
    rw [ho]
    exact odd_bit (M / 2048) (by omega)
  have C27 := Lib.hid fun W => (log10Pow2_any (E + 11) (by omega) (by omega) W)
  have C38 := Lib.hid fun W => (log2Pow10_any (P : Int) (by omega) (by omega) W)
  rw [hP] at C27
  have C37 := Lib.hid (prescale_new P s hi E ((P : Int) * 108853 / 32768) h1 h2 (by omega) (by omega) hP2 hs w t0 t1)
  have U1 : Hid (∀ W : World, W.cell? ⟨w.heap.size, 0, none⟩ = some (.int .u64 hi) → W.cell? ⟨w.heap.size, 1, none⟩ = some (.int .u64 0) → W.cell? ⟨w.heap.size, 2, none⟩ = some (.int .i64 s) →
      Calls Tryd.prog 39 #[.int .u64 ((M : Int) - 1024), .pointer (some ⟨w.heap.size, 0, none⟩)] W fun e w' => e = .returned (.int .u64 (u1 : Int)) ∧ ∃ n, w' = W.drewN n) := by
    refine Lib.hid fun W c0 c1 c2 => ?_
    have := uscale_any (M - 1024) hi s w.heap.size (by omega) hhi hs64 W c0 c1 c2
    rw [← e1, show ((M - 1024 : Nat) : Int) = (M : Int) - 1024 by omega] at this
    exact this
  have U2 : Hid (∀ W : World, W.cell? ⟨w.heap.size, 0, none⟩ = some (.int .u64 hi) → W.cell? ⟨w.heap.size, 1, none⟩ = some (.int .u64 0) → W.cell? ⟨w.heap.size, 2, none⟩ = some (.int .i64 s) →
      Calls Tryd.prog 39 #[.int .u64 ((M : Int) + 1024), .pointer (some ⟨w.heap.size, 0, none⟩)] W fun e w' => e = .returned (.int .u64 (u2 : Int)) ∧ ∃ n, w' = W.drewN n) := by
    refine Lib.hid fun W c0 c1 c2 => ?_
    have := uscale_any (M + 1024) hi s w.heap.size (by omega) hhi hs64 W c0 c1 c2
    rw [← e2, show ((M + 1024 : Nat) : Int) = (M : Int) + 1024 by omega] at this
    exact this
  have C40 := Lib.hid fun W => nudge_any u1 odd hodd (by omega) W
  have C41 := Lib.hid fun W => ceil_any (u1 + odd) (by omega) W
  have C40' := Lib.hid fun W => nudge_neg u2 odd (by omega) (by omega) W
  have C42 := Lib.hid fun W => floor_any (u2 - odd) (by omega) W
  have hlt : (u1 + odd + 3) / 4 < 2 ^ 61 := by omega
  have hlt2 : (u2 - odd) / 4 < 2 ^ 61 := by omega
  have hv1 : u1 + odd < 2 ^ 62 := by omega
  have hv2 : u2 - odd < 2 ^ 62 := by omega
  generalize (u1 + odd + 3) / 4 = D1 at *
  generalize u1 + odd = v1 at *
  generalize (u2 - odd) / 4 = D2 at *
  generalize u2 - odd = v2 at *
  have hge : D1 ≤ D2 / 10 * 10 := hle
  have hle10 : D2 / 10 * 10 ≤ D2 := by omega
  clear hP hs t0 t1 e1 e2 ho hle b1 b2 b3
  go_enter Tryd.func32, Tryd.ntmps32
  go_wp2_with (first
    | (go_at_call 27; ((with_reducible refine (C27.out _).mono ?_); rintro e w' ⟨rfl, rfl⟩))
    | (go_at_call 38; ((with_reducible refine (C38.out _).mono ?_); rintro e w' ⟨rfl, rfl⟩))
    | (go_at_call 37; ((with_reducible refine C37.out.mono ?_); rintro e w' ⟨rfl, rfl⟩))
    | (go_at_call 39; ((with_reducible refine (U1.out _ (by simp) (by simp) (by simp)).mono ?_); rintro e w' ⟨rfl, n, rfl⟩))
    | (go_at_call 39; ((with_reducible refine (U2.out _ (by simp) (by simp) (by simp)).mono ?_); rintro e w' ⟨rfl, n, rfl⟩))
    | (go_at_call 40; ((with_reducible refine (C40.out _).mono ?_); rintro e w' ⟨rfl, rfl⟩))
    | (go_at_call 40; ((with_reducible refine (C40'.out _).mono ?_); rintro e w' ⟨rfl, rfl⟩))
    | (go_at_call 41; ((with_reducible refine (C41.out _).mono ?_); rintro e w' ⟨rfl, rfl⟩))
    | (go_at_call 42; ((with_reducible refine (C42.out _).mono ?_); rintro e w' ⟨rfl, rfl⟩)))
  go_ret2
  exact ⟨ret_two (by simp) (by omega), below_drewN ((Below.refl _ _).alloc (Nat.le_refl _) _) _⟩
set_option maxHeartbeats 1000000 in
set_option maxRecDepth 100000 in
theorem short_pow (M P s hi : Nat) (E : Int) (hM : M = 9223372036854775808) (h1 : -65 ≤ E) (h2 : E ≤ -25)
    (hP : ((E + 11) * 631305 - 261663) / 2097152 = -(P : Int)) (hP1 : 1 ≤ P) (hP2 : P ≤ 20) (hs : -(E + (P : Int) * 108853 / 32768 + 3) = (s : Int)) (hs64 : s < 64) (hhi : hi < 18446744073709551616)
    (u1 u2 : Nat) (e1 : u1 = usc (M - 512) hi s) (e2 : u2 = usc (M + 1024) hi s) (b1 : u1 < 2 ^ 61) (b2 : u2 < 2 ^ 61) (b3 : 1 ≤ u2)
    (hle : (u1 + 3) / 4 ≤ u2 / 4 / 10 * 10)
    (w : World) (t0 : w.cell? ⟨3, (P + 348) * 2, none⟩ = some (.int .u64 hi)) (t1 : w.cell? ⟨3, (P + 348) * 2 + 1, none⟩ = some (.int .u64 0)) :
    Calls Tryd.prog 32 #[.int .u64 M, .int .i64 E] w fun e w' => e = .returned (.tuple #[.int .u64 ((u2 / 4 / 10 : Nat) : Int), .int .i64 (1 - (P : Int))]) ∧ Below w.heap.size w w' := by
  have n63 : ((M : Int) == 9223372036854775808) = true := by simp; omega
  have hob : bits .and .i64 ((M : Int) / 2048) 1 = 0 := by
    have := odd_bit (M / 2048) (by omega)
    rw [show M / 2048 % 2 = 0 by omega] at this
    exact this
  have l1 : 512 ≤ (M : Int) := by omega
  have l2 : (M : Int) ≤ 9223372036854775809 := by omega
  have C36 := Lib.hid fun W => (skewed_any (E + 11) (by omega) (by omega) W)
  have C38 := Lib.hid fun W => (log2Pow10_any (P : Int) (by omega) (by omega) W)
  rw [hP] at C36
  have C37 := Lib.hid (prescale_new P s hi E ((P : Int) * 108853 / 32768) h1 h2 (by omega) (by omega) hP2 hs w t0 t1)
  have U1 : Hid (∀ W : World, W.cell? ⟨w.heap.size, 0, none⟩ = some (.int .u64 hi) → W.cell? ⟨w.heap.size, 1, none⟩ = some (.int .u64 0) → W.cell? ⟨w.heap.size, 2, none⟩ = some (.int .i64 s) →
      Calls Tryd.prog 39 #[.int .u64 ((M : Int) - 512), .pointer (some ⟨w.heap.size, 0, none⟩)] W fun e w' => e = .returned (.int .u64 (u1 : Int)) ∧ ∃ n, w' = W.drewN n) := by
    refine Lib.hid fun W c0 c1 c2 => ?_
    have := uscale_any (M - 512) hi s w.heap.size (by omega) hhi hs64 W c0 c1 c2
    rw [← e1, show ((M - 512 : Nat) : Int) = (M : Int) - 512 by omega] at this
    exact this
  have U2 : Hid (∀ W : World, W.cell? ⟨w.heap.size, 0, none⟩ = some (.int .u64 hi) → W.cell? ⟨w.heap.size, 1, none⟩ = some (.int .u64 0) → W.cell? ⟨w.heap.size, 2, none⟩ = some (.int .i64 s) →
      Calls Tryd.prog 39 #[.int .u64 ((M : Int) + 1024), .pointer (some ⟨w.heap.size, 0, none⟩)] W fun e w' => e = .returned (.int .u64 (u2 : Int)) ∧ ∃ n, w' = W.drewN n) := by
    refine Lib.hid fun W c0 c1 c2 => ?_
    have := uscale_any (M + 1024) hi s w.heap.size (by omega) hhi hs64 W c0 c1 c2
    rw [← e2, show ((M + 1024 : Nat) : Int) = (M : Int) + 1024 by omega] at this
    exact this
  have C40 : Hid (∀ W : World, Calls Tryd.prog 40 #[.int .u64 (u1 : Int), .int .i64 0] W fun e w' => e = .returned (.int .u64 (u1 : Int)) ∧ W = w') := Lib.hid fun W => by
    have := nudge_any u1 0 (by decide) (by omega) W
    simpa using this
  have C41 := Lib.hid fun W => ceil_any u1 (by omega) W
  have C40' : Hid (∀ W : World, Calls Tryd.prog 40 #[.int .u64 (u2 : Int), .int .i64 0] W fun e w' => e = .returned (.int .u64 (u2 : Int)) ∧ W = w') := Lib.hid fun W => by
    have := nudge_any u2 0 (by decide) (by omega) W
    simpa using this
  have C42 := Lib.hid fun W => floor_any u2 (by omega) W
  have hlt : (u1 + 3) / 4 < 2 ^ 61 := by omega
  have hlt2 : u2 / 4 < 2 ^ 61 := by omega
  generalize (u1 + 3) / 4 = D1 at *
  generalize u2 / 4 = D2 at *
  have hge : D1 ≤ D2 / 10 * 10 := hle
  have hle10 : D2 / 10 * 10 ≤ D2 := by omega
  clear hP hs t0 t1 e1 e2 hM hle b1 b2 b3
  go_enter Tryd.func32, Tryd.ntmps32
  go_wp2_with (first
    | (go_at_call 36; ((with_reducible refine (C36.out _).mono ?_); rintro e w' ⟨rfl, rfl⟩))
    | (go_at_call 38; ((with_reducible refine (C38.out _).mono ?_); rintro e w' ⟨rfl, rfl⟩))
    | (go_at_call 37; ((with_reducible refine C37.out.mono ?_); rintro e w' ⟨rfl, rfl⟩))
    | (go_at_call 39; ((with_reducible refine (U1.out _ (by simp) (by simp) (by simp)).mono ?_); rintro e w' ⟨rfl, n, rfl⟩))
    | (go_at_call 39; ((with_reducible refine (U2.out _ (by simp) (by simp) (by simp)).mono ?_); rintro e w' ⟨rfl, n, rfl⟩))
    | (go_at_call 40; ((with_reducible refine (C40.out _).mono ?_); rintro e w' ⟨rfl, rfl⟩))
    | (go_at_call 40; ((with_reducible refine (C40'.out _).mono ?_); rintro e w' ⟨rfl, rfl⟩))
    | (go_at_call 41; ((with_reducible refine (C41.out _).mono ?_); rintro e w' ⟨rfl, rfl⟩))
    | (go_at_call 42; ((with_reducible refine (C42.out _).mono ?_); rintro e w' ⟨rfl, rfl⟩)))
  go_ret2
  exact ⟨ret_two (by simp) (by omega), below_drewN ((Below.refl _ _).alloc (Nat.le_refl _) _) _⟩
end Go.Proofs.YtiamghbefallkaaDoor.Sho
