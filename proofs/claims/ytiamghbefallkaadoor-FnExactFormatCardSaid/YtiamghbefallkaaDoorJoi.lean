/-
  strconv.FormatFloat at a number of quarters: the walks joined with the plain law.
-/
import Derived.Test.YtiamghbefallkaaDoorNum
import Derived.Test.YtiamghbefallkaaDoorDec
import Derived.Lib.AppendIntMem
namespace Go.Proofs.YtiamghbefallkaaDoor.Joi
open Go.ChangeShapes Go.WideShapes Go.ChangeAt Go.RowKit
open Go.Proofs.YtiamghbefallkaaDoor.Usc Go.Proofs.YtiamghbefallkaaDoor.Flt Go.Proofs.YtiamghbefallkaaDoor.Pln Go.Proofs.YtiamghbefallkaaDoor.Dec Go.Proofs.YtiamghbefallkaaDoor.Sho Go.Proofs.YtiamghbefallkaaDoor.Set Go.Proofs.YtiamghbefallkaaDoor.Efg Go.Proofs.YtiamghbefallkaaDoor.Fto Go.Proofs.YtiamghbefallkaaDoor.Fmt

/-- The library's two tables, as far as they are read. -/
structure Tabs (w : World) : Prop where
  ten : ∀ P, P ≤ 20 → w.cell? ⟨3, (P + 348) * 2, none⟩ = some (.int .u64 (hiOf P : Int)) ∧ w.cell? ⟨3, (P + 348) * 2 + 1, none⟩ = some (.int .u64 (loOf P : Int))
  low : Lib.TabIs Tryd.prog w "internal/strconv.uint64pow10" .u64 Lib.pow10Tab

theorem Tabs.on {w w' : World} (h : Tabs w) (hb : Below w.heap.size w w') : Tabs w' := by
  refine ⟨fun P hP => ?_, Lib.TabBelow.here ((Lib.tabBelow_of_tabIs h.low).on hb)⟩
  obtain ⟨a, b⟩ := h.ten P hP
  have hl : 3 < w.heap.size := World.block_lt_of_cell? w _ a
  exact ⟨(hb.cell (by exact hl)).trans a, (hb.cell (by exact hl)).trans b⟩

/-! ### The bits of a number of quarters -/

theorem Q_bits {n : Int} (h0 : n ≠ 0) (h40 : n.natAbs ≤ 2 ^ 40) :
    ∃ R, R < 2 ^ 52 ∧ n.natAbs * 2 ^ (52 - n.natAbs.log2) = 2 ^ 52 + R ∧ Q n = (if n < 0 then 2 ^ 63 else 0) + (n.natAbs.log2 + 1021) * 2 ^ 52 + R := by
  have hm : 0 < n.natAbs := by omega
  have hl : n.natAbs.log2 ≤ 52 := log2_le (by omega)
  have n1 := norm_le hm hl
  have n2 := norm_lt hl
  refine ⟨n.natAbs * 2 ^ (52 - n.natAbs.log2) - 2 ^ 52, by omega, by omega, ?_⟩
  unfold Q F
  rw [nearest_exact _ hm hl (by omega) (by omega)]
  have e : ((-2 : Int) + n.natAbs.log2 + 1022).toNat = n.natAbs.log2 + 1020 := by omega
  rw [e]
  unfold Ieee.Format.word
  rw [sw]
  by_cases h : n < 0
  · simp only [h, decide_true, if_true]; omega
  · simp only [h, decide_false, if_false, Bool.false_eq_true]
    omega

structure Parts (b EE R : Nat) (neg : Bool) : Prop where
  lt : b < 18446744073709551616
  sign : ((b : Int) / 9223372036854775808 != 0) = neg
  exp : bits .and .i64 ((b : Int) / 4503599627370496) 2047 = (EE : Int)
  frac : bits .and .u64 (b : Int) 4503599627370495 = (R : Int)
  mant : bits .or .u64 (R : Int) 4503599627370496 = ((2 ^ 52 + R : Nat) : Int)

theorem parts_of {L R b : Nat} {neg : Bool} (hL : L ≤ 40) (hR : R < 2 ^ 52) (hb : b = (if neg then 2 ^ 63 else 0) + (L + 1021) * 2 ^ 52 + R) : Parts b (L + 1021) R neg := by
  have hlt : b < 18446744073709551616 := by rw [hb]; split <;> omega
  have hdiv : b / 4503599627370496 = (if neg then 2048 else 0) + (L + 1021) := by rw [hb]; split <;> omega
  have hmod : b % 4503599627370496 = R := by rw [hb]; split <;> omega
  have h63 : b / 9223372036854775808 = if neg then 1 else 0 := by rw [hb]; split <;> omega
  refine ⟨hlt, ?_, ?_, ?_, ?_⟩
  · have : (b : Int) / 9223372036854775808 = ((b / 9223372036854775808 : Nat) : Int) := by omega
    rw [this, h63]
    cases neg <;> rfl
  · have e : (b : Int) / 4503599627370496 = ((b / 4503599627370496 : Nat) : Int) := by omega
    have h := i64_and_nat (b / 4503599627370496) 2047 (by omega) (by decide)
    rw [show (2047 : Nat) = 2 ^ 11 - 1 from rfl, Nat.and_two_pow_sub_one_eq_mod, hdiv] at h
    rw [e, hdiv]
    refine Eq.trans h ?_
    cases neg <;> simp <;> omega
  · have h := u64_and_nat b 4503599627370495 hlt (by decide)
    rw [show (4503599627370495 : Nat) = 2 ^ 52 - 1 from rfl, Nat.and_two_pow_sub_one_eq_mod] at h
    refine Eq.trans h ?_
    rw [show (2 : Nat) ^ 52 = 4503599627370496 from rfl, hmod]
  · have h := u64_or_nat R 4503599627370496 (by omega) (by decide)
    refine Eq.trans h ?_
    have e := Nat.two_pow_add_eq_or_of_lt hR 1
    rw [Nat.mul_one] at e
    rw [e, Nat.or_comm]

/-! ### shortFloat -/

theorem M_of {N : Nat} (hl : N.log2 ≤ 40) : N * 2 ^ (63 - N.log2) = N * 2 ^ (52 - N.log2) * 2048 := by
  rw [Nat.mul_assoc, show (2048 : Nat) = 2 ^ 11 from rfl, ← Nat.pow_add]
  congr 2
  omega

theorem core_p {M P s hi d u1 u2 L : Nat} (hl : L ≤ 40) (hM : M = 9223372036854775808) (hPe : (((L : Int) - 65 + 11) * 631305 - 261663) / 2097152 = -(P : Int)) (h5 : 5 ≤ P) (h17 : P ≤ 17)
    (hsh : -(((L : Int) - 65) + (P : Int) * 108853 / 32768 + 3) = (s : Int)) (h64 : s < 64) (hhi : hi < 18446744073709551616) (hu1 : u1 = usc (M - 512) hi s) (hu2 : u2 = usc (M + 1024) hi s)
    (hs : 40 * d < 2 ^ 60) (S : (u1 + 0 + 3) / 4 ≤ (u2 - 0) / 4 / 10 * 10 ∧ (u2 - 0) / 4 / 10 = d ∧ u1 ≤ 4 * (d * 10) ∧ u2 ≤ 4 * (d * 10) + 28 ∧ 1 ≤ u2)
    (w : World) (t0 : w.cell? ⟨3, (P + 348) * 2, none⟩ = some (.int .u64 (hi : Int))) (t1 : w.cell? ⟨3, (P + 348) * 2 + 1, none⟩ = some (.int .u64 ((0 : Nat) : Int))) :
    Calls Tryd.prog 32 #[.int .u64 (M : Int), .int .i64 ((L : Int) - 65)] w
        fun e w' => e = .returned (.tuple #[.int .u64 (d : Int), .int .i64 (1 - (P : Int))]) ∧ Below w.heap.size w w' := by
  obtain ⟨s1, s2, s3, s4, s5⟩ := S
  have s1' : (u1 + 3) / 4 ≤ u2 / 4 / 10 * 10 := by rw [Nat.add_zero, Nat.sub_zero] at s1; exact s1
  have s2' : u2 / 4 / 10 = d := by rw [Nat.sub_zero] at s2; exact s2
  clear s1 s2
  have h := short_pow M P s hi ((L : Int) - 65) hM (by omega) (by omega) hPe (by omega) (by omega) hsh h64 hhi u1 u2 hu1 hu2 (by omega) (by omega) s5 s1' w t0 t1
  rw [s2'] at h
  exact h

theorem core_g {M P s hi d u1 u2 L odd : Nat} (hl : L ≤ 40) (hM : 9223372036854775808 < M) (hM2 : M < 18446744073709550000) (hPe : ((L : Int) - 65 + 11) * 78913 / 262144 = -(P : Int)) (h5 : 5 ≤ P) (h17 : P ≤ 17)
    (hsh : -(((L : Int) - 65) + (P : Int) * 108853 / 32768 + 3) = (s : Int)) (h64 : s < 64) (hhi : hi < 18446744073709551616) (hodd : odd = M / 2048 % 2) (hu1 : u1 = usc (M - 1024) hi s) (hu2 : u2 = usc (M + 1024) hi s)
    (hs : 40 * d < 2 ^ 60) (S : (u1 + odd + 3) / 4 ≤ (u2 - odd) / 4 / 10 * 10 ∧ (u2 - odd) / 4 / 10 = d ∧ u1 ≤ 4 * (d * 10) ∧ u2 ≤ 4 * (d * 10) + 28 ∧ 1 ≤ u2)
    (w : World) (t0 : w.cell? ⟨3, (P + 348) * 2, none⟩ = some (.int .u64 (hi : Int))) (t1 : w.cell? ⟨3, (P + 348) * 2 + 1, none⟩ = some (.int .u64 ((0 : Nat) : Int))) :
    Calls Tryd.prog 32 #[.int .u64 (M : Int), .int .i64 ((L : Int) - 65)] w
        fun e w' => e = .returned (.tuple #[.int .u64 (d : Int), .int .i64 (1 - (P : Int))]) ∧ Below w.heap.size w w' := by
  obtain ⟨s1, s2, s3, s4, s5⟩ := S
  have h := short_gen M P s hi odd ((L : Int) - 65) hM hM2 (by omega) (by omega) hPe (by omega) (by omega) hsh h64 hhi hodd u1 u2 hu1 hu2 (by omega) (by omega) s5 s1 w t0 t1
  rw [s2] at h
  exact h

theorem fit_p' {N R L P : Nat} (hN : 0 < N) (hl : L ≤ 40) (hM : N * 2 ^ (63 - L) = (2 ^ 52 + R) * 2048) (hp : R = 0) (F : Fit L P 512 27) (hPe : (((L : Int) - 65 + 11) * 631305 - 261663) / 2097152 = -(P : Int)) (w : World) (ht : Tabs w) :
    Calls Tryd.prog 32 #[.int .u64 ((N * 2 ^ (63 - L) : Nat) : Int), .int .i64 ((L : Int) - 65)] w
        fun e w' => e = .returned (.tuple #[.int .u64 (dOf N P : Int), .int .i64 (1 - (P : Int))]) ∧ Below w.heap.size w w' := by
  have h512 : 512 ≤ N * 2 ^ (63 - L) := by rw [hM]; omega
  have h64 : N * 2 ^ (63 - L) < 2 ^ 64 := by rw [hM]; omega
  have e63 : N * 2 ^ (63 - L) = 9223372036854775808 := by rw [hM]; omega
  have h20 : P ≤ 20 := by have := F.p17; omega
  have t1 := (ht.ten P h20).2
  rw [F.lo0] at t1
  exact core_p hl e63 hPe F.p5 F.p17 F.shift F.s64 F.hi64 rfl rfl (dOf_small F h64) (scale hN F (Nat.le_refl _) h512 (Nat.zero_le _)) w (ht.ten P h20).1 t1

theorem fit_g' {N R L P : Nat} (hN : 0 < N) (hl : L ≤ 40) (hlt : N < 2 ^ (L + 1)) (hM : N * 2 ^ (63 - L) = (2 ^ 52 + R) * 2048) (hR : R < 2 ^ 52) (hp : R ≠ 0) (F : Fit L P 1024 20) (hPe : ((L : Int) - 65 + 11) * 78913 / 262144 = -(P : Int)) (w : World) (ht : Tabs w) :
    Calls Tryd.prog 32 #[.int .u64 ((N * 2 ^ (63 - L) : Nat) : Int), .int .i64 ((L : Int) - 65)] w
        fun e w' => e = .returned (.tuple #[.int .u64 (dOf N P : Int), .int .i64 (1 - (P : Int))]) ∧ Below w.heap.size w w' := by
  have h1024 : 1024 ≤ N * 2 ^ (63 - L) := by rw [hM]; omega
  have h64 : N * 2 ^ (63 - L) < 2 ^ 64 := by rw [hM]; omega
  have hMlo : 9223372036854775808 < N * 2 ^ (63 - L) := by rw [hM]; omega
  have hMhi : N * 2 ^ (63 - L) < 18446744073709550000 := by
    have h1 : N * 2 ^ (63 - L) ≤ (2 ^ (L + 1) - 1) * 2 ^ (63 - L) := Nat.mul_le_mul_right _ (by omega)
    rw [Nat.sub_mul, ← Nat.pow_add, show L + 1 + (63 - L) = 64 by omega, Nat.one_mul] at h1
    have h2 : 2 ^ 23 ≤ 2 ^ (63 - L) := Nat.pow_le_pow_right (by decide) (by omega)
    omega
  have h20 : P ≤ 20 := by have := F.p17; omega
  have t1 := (ht.ten P h20).2
  rw [F.lo0] at t1
  have ho : N * 2 ^ (63 - L) / 2048 % 2 ≤ 1 := by omega
  exact core_g hl hMlo hMhi hPe F.p5 F.p17 F.shift F.s64 F.hi64 rfl rfl rfl (dOf_small F h64) (scale hN F (by decide) h1024 ho) w (ht.ten P h20).1 t1

theorem pick_p {L : Nat} (hl : L ≤ 40) : ∃ P, Fit L P 512 27 ∧ (((L : Int) - 65 + 11) * 631305 - 261663) / 2097152 = -(P : Int) := ⟨Pp L, fit_p ⟨L, by omega⟩⟩
theorem pick_g {L : Nat} (hl : L ≤ 40) : ∃ P, Fit L P 1024 20 ∧ ((L : Int) - 65 + 11) * 78913 / 262144 = -(P : Int) := ⟨Pg L, fit_g ⟨L, by omega⟩⟩

theorem short_any {N R : Nat} (hN : 0 < N) (h40 : N ≤ 2 ^ 40) (hR : N * 2 ^ (52 - N.log2) = 2 ^ 52 + R) (hR2 : R < 2 ^ 52) :
    ∃ P, 5 ≤ P ∧ P ≤ 17 ∧ 40 * dOf N P < 2 ^ 60 ∧ ∀ w : World, Tabs w →
      Calls Tryd.prog 32 #[.int .u64 (((2 ^ 52 + R : Nat) : Int) * 2048), .int .i64 (((N.log2 + 1021 : Nat) : Int) + -1023 - 11 - 52)] w
        fun e w' => e = .returned (.tuple #[.int .u64 (dOf N P : Int), .int .i64 (1 - (P : Int))]) ∧ Below w.heap.size w w' := by
  have hl : N.log2 ≤ 40 := by
    have := (Nat.log2_lt (by omega : N ≠ 0) (k := 41)).2 (by omega)
    omega
  have hM := M_of hl
  rw [hR] at hM
  have eE : (((N.log2 + 1021 : Nat) : Int) + -1023 - 11 - 52) = (N.log2 : Int) - 65 := by omega
  have eM : (((2 ^ 52 + R : Nat) : Int) * 2048) = ((N * 2 ^ (63 - N.log2) : Nat) : Int) := by rw [hM]; omega
  rw [eE, eM]
  have hlt : N < 2 ^ (N.log2 + 1) := Nat.lt_log2_self
  have h64 : N * 2 ^ (63 - N.log2) < 2 ^ 64 := by rw [hM]; omega
  by_cases hp : R = 0
  · obtain ⟨P, F, hPe⟩ := pick_p hl
    exact ⟨P, F.p5, F.p17, dOf_small F h64, fit_p' hN hl hM hp F hPe⟩
  · obtain ⟨P, F, hPe⟩ := pick_g hl
    exact ⟨P, F.p5, F.p17, dOf_small F h64, fit_g' hN hl hlt hM hR2 hp F hPe⟩

/-! ### FormatFloat -/

/-- The number of quarters as text: sign, digits, decimals. -/
def dec (n : Int) : List UInt8 := (if n < 0 then [45] else []) ++ (Lib.decDigits (n.natAbs / 4) ++ Dec.frac (n.natAbs % 4))

def sg (neg : Bool) : List Value := if neg then [Value.int .u8 45] else []

theorem dec_map (n : Int) : (dec n).map Dec.bv = sg (decide (n < 0)) ++ (Lib.decDigits (n.natAbs / 4) ++ Dec.frac (n.natAbs % 4)).map Dec.bv := by
  unfold dec sg
  rw [List.map_append]
  by_cases h : n < 0 <;> simp [h, Dec.bv]

/-- fmtEFG in the three shapes, whatever the sign. -/
theorem efg_any (neg : Bool) (B : Nat) (v : Value) (g : Nat → Nat) (DP NZ PR : Nat) (body : List Value) (hDP : DP ≤ 32) (hNZ : NZ ≤ 32) (hPR : max ((NZ : Int) - (DP : Int)) 0 = (PR : Int))
    (hs : (NZ ≤ DP ∧ 0 < DP ∧ bs g 0 NZ ++ List.replicate (DP - NZ) (Value.int .u8 48) = body) ∨
       (0 < DP ∧ ∃ j, 0 < j ∧ NZ = DP + j ∧ bs g 0 DP ++ [Value.int .u8 46] ++ bs g DP j = body) ∨
       (DP = 0 ∧ 0 < NZ ∧ [Value.int .u8 48, Value.int .u8 46] ++ bs g 0 NZ = body))
    (W : World) (bk : Nat) (cs : Array Value) (hcs : ∀ t, t < 32 → cs[t]? = some (.int .u8 (g t : Int))) (hI : Inv W B bk cs v [] W) :
      Calls Tryd.prog 22 #[v, .bool neg, .slice (some ⟨bk, 0, none⟩) 32 32, .int .i64 DP, .int .i64 NZ, .int .i64 PR, .int .u8 102, .bool true] W fun e w' => ∃ v', e = .returned v' ∧ Inv W B bk cs v' (sg neg ++ body) w' := by
  rcases hs with ⟨h1, h2, rfl⟩ | ⟨h1, j, h2, h3, rfl⟩ | ⟨h1, h2, rfl⟩
  · have e0 : PR = 0 := by omega
    subst e0
    cases neg
    · have := efg_A0 W B bk DP (DP - NZ) NZ (by omega) h2 hDP cs g hcs v hI
      rw [show sg false ++ (bs g 0 NZ ++ List.replicate (DP - NZ) (Value.int .u8 48)) = ([] : List Value) ++ bs g 0 NZ ++ List.replicate (DP - NZ) (Value.int .u8 48) by simp [sg]]
      exact this
    · have := efg_A1 W B bk DP (DP - NZ) NZ (by omega) h2 hDP cs g hcs v hI
      rw [show sg true ++ (bs g 0 NZ ++ List.replicate (DP - NZ) (Value.int .u8 48)) = [Value.int .u8 45] ++ bs g 0 NZ ++ List.replicate (DP - NZ) (Value.int .u8 48) by simp [sg]]
      exact this
  · have e0 : PR = j := by omega
    subst e0
    cases neg
    · have := efg_B0 W B bk DP PR NZ h3 h1 h2 hNZ cs g hcs v hI
      rw [show sg false ++ (bs g 0 DP ++ [Value.int .u8 46] ++ bs g DP PR) = ([] : List Value) ++ bs g 0 DP ++ [Value.int .u8 46] ++ bs g DP PR by simp [sg]]
      exact this
    · have := efg_B1 W B bk DP PR NZ h3 h1 h2 hNZ cs g hcs v hI
      rw [show sg true ++ (bs g 0 DP ++ [Value.int .u8 46] ++ bs g DP PR) = [Value.int .u8 45] ++ bs g 0 DP ++ [Value.int .u8 46] ++ bs g DP PR by simp [sg]]
      exact this
  · subst h1
    have e0 : PR = NZ := by omega
    subst e0
    cases neg
    · have := efg_C0 W B bk PR h2 hNZ cs g hcs v hI
      rw [show sg false ++ ([Value.int .u8 48, Value.int .u8 46] ++ bs g 0 PR) = ([] : List Value) ++ [Value.int .u8 48, Value.int .u8 46] ++ bs g 0 PR by simp [sg]]
      exact this
    · have := efg_C1 W B bk PR h2 hNZ cs g hcs v hI
      rw [show sg true ++ ([Value.int .u8 48, Value.int .u8 46] ++ bs g 0 PR) = [Value.int .u8 45] ++ [Value.int .u8 48, Value.int .u8 46] ++ bs g 0 PR by simp [sg]]
      exact this

theorem ftoa_Q {n : Int} (h0 : n ≠ 0) (h40 : n.natAbs ≤ 2 ^ 40) (w W : World) (v : Value) (ht : Tabs w) (hW : Below w.heap.size w W) (hv : W.ownsRow w.heap.size 5 1 v 0 []) :
    Calls Tryd.prog 17 #[v, .float .f64 (Q n), .int .u8 102, .int .i64 (-1)] W fun e w' =>
      ∃ v', e = .returned v' ∧ w'.ownsRow w.heap.size 5 1 v' (dec n).length ((dec n).map fun c => Value.int .u8 (c.toNat : Int)) ∧ Below w.heap.size W w' := by
  have hN : 0 < n.natAbs := by omega
  have hl : n.natAbs.log2 ≤ 40 := by
    have := (Nat.log2_lt (by omega : n.natAbs ≠ 0) (k := 41)).2 (by omega)
    omega
  obtain ⟨R, hR, hR2, hQ⟩ := Q_bits h0 h40
  have PT := parts_of (b := Q n) (neg := decide (n < 0)) hl hR (by rw [hQ]; simp)
  obtain ⟨P, h5, h17, hd60, hsh⟩ := short_any hN h40 hR2 hR
  obtain ⟨k, rfl⟩ : ∃ k, P = k + 3 := ⟨P - 3, by omega⟩
  have hdO : dOf n.natAbs (k + 3) = n.natAbs * 25 * 10 ^ k := by unfold dOf; rw [show k + 3 - 3 = k by omega]
  rw [hdO] at hd60 hsh
  have hdpos : 0 < n.natAbs * 25 * 10 ^ k := Nat.mul_pos (by omega) (Nat.pow_pos (by decide))
  have hnd := d_nd (k := k) hN
  have hDP : Lib.nDigits (n.natAbs * 25 * 10 ^ k) = DPof n.natAbs + (k + 2) := hnd
  obtain ⟨NZ, z1, z2, z3, shp⟩ := shapes (k := k) hN (by omega)
  have hnd18 := nDigits_le 17 (n.natAbs * 25 * 10 ^ k) (by omega)
  have hlt10 := Lib.lt_pow_nDigits (n.natAbs * 25 * 10 ^ k)
  rw [hDP] at hnd18 hlt10
  have htW : Tabs W := ht.on hW
  have OUTe : (dec n).map (fun c => Value.int .u8 (c.toNat : Int)) = sg (decide (n < 0)) ++ (Lib.decDigits (n.natAbs / 4) ++ Dec.frac (n.natAbs % 4)).map Dec.bv := dec_map n
  have hlen : (dec n).length = (sg (decide (n < 0)) ++ (Lib.decDigits (n.natAbs / 4) ++ Dec.frac (n.natAbs % 4)).map Dec.bv).length := by rw [← OUTe]; simp
  rw [OUTe, hlen]
  generalize n.natAbs * 25 * 10 ^ k = d at *
  generalize (Lib.decDigits (n.natAbs / 4) ++ Dec.frac (n.natAbs % 4)).map Dec.bv = body at *
  obtain ⟨PR, hPR⟩ : ∃ PR : Nat, max ((NZ : Int) - (DPof n.natAbs : Int)) 0 = (PR : Int) := ⟨(max ((NZ : Int) - (DPof n.natAbs : Int)) 0).toNat, by omega⟩
  refine ftoa_any W w.heap.size (Q n) (n.natAbs.log2 + 1021) R (2 ^ 52 + R) d (DPof n.natAbs + (k + 2)) (DPof n.natAbs) NZ PR (1 - ((k + 3 : Nat) : Int)) (decide (n < 0)) PT.lt PT.sign PT.exp (by omega) (by omega) PT.frac PT.mant (by omega) (by omega)
    (Lib.hid fun W' hb' => hsh W' (htW.on hb')) (Lib.hid fun W' hb' => ?_) (Lib.hid fun W' bk hbk => ?_) hPR _ (Lib.hid fun W' bk cs hcs hI => ?_) (by omega) (by omega) hW.size hv
  · have := Tryd.internal_strconv_numDigits d hdpos (by omega) W' (htW.on hb').low
    rw [hDP] at this
    exact this
  · have hsd := setDigits_any W' bk d (DPof n.natAbs + (k + 2)) (1 - ((k + 3 : Nat) : Int)) (by omega) (by omega) hlt10 (by omega) (by omega) hbk
    refine hsd.mono ?_
    rintro e w' ⟨nz, rfl, y1, y2, y3, hrest⟩
    obtain rfl : nz = NZ := last_unique y1 y2 y3 z1 z2 z3
    refine ⟨?_, hrest⟩
    have e1 : ((DPof n.natAbs + (k + 2) : Nat) : Int) + (1 - ((k + 3 : Nat) : Int)) = (DPof n.natAbs : Int) := by omega
    rw [e1]
  · exact efg_any (decide (n < 0)) w.heap.size v _ (DPof n.natAbs) NZ PR body (by omega) (by omega) hPR shp W' bk cs hcs hI
end Go.Proofs.YtiamghbefallkaaDoor.Joi
