/-
  The decimals of a number of quarters, and the digits that are found for it: plain lists and numbers.
-/
import Derived.Test.YtiamghbefallkaaDoorPln
namespace Go.Proofs.YtiamghbefallkaaDoor.Dec
open Go.Proofs.YtiamghbefallkaaDoor.Set Go.Proofs.YtiamghbefallkaaDoor.Efg Go.Proofs.YtiamghbefallkaaDoor.Pln
open Go.Lib (nDigits decDigits dg)

def bv (c : UInt8) : Value := .int .u8 (c.toNat : Int)
def frac (f : Nat) : List UInt8 := if f = 0 then [] else if f = 1 then [46, 50, 53] else if f = 2 then [46, 53] else [46, 55, 53]

theorem nDigits_div : ∀ (j d : Nat), 0 < d / 10 ^ j → nDigits d = nDigits (d / 10 ^ j) + j
  | 0, d, _ => by simp
  | j + 1, d, h => by
    have e : d / 10 ^ (j + 1) = d / 10 / 10 ^ j := by rw [Nat.pow_succ, Nat.mul_comm, Nat.div_div_eq_div_mul]
    have hj := Nat.pow_pos (n := j) (show 0 < 10 by decide)
    have h10 : ¬ d < 10 := by
      intro hl
      rw [e, Nat.div_eq_of_lt hl, Nat.zero_div] at h
      omega
    rw [Lib.nDigits_big h10, nDigits_div j (d / 10) (by rw [← e]; exact h), e]
    omega

theorem nDigits_le : ∀ (k u : Nat), u < 10 ^ (k + 1) → nDigits u ≤ k + 1
  | 0, u, h => by rw [Lib.nDigits_small (by simpa using h)]; exact Nat.le_refl _
  | k + 1, u, h => by
    by_cases h10 : u < 10
    · rw [Lib.nDigits_small h10]; omega
    · rw [Lib.nDigits_big h10]
      have := nDigits_le k (u / 10) (by rw [Nat.pow_succ] at h; omega)
      omega

theorem dg_nat (u j : Nat) : (dg u j).toNat = 48 + u / 10 ^ j % 10 := by
  unfold dg
  rw [UInt8.toNat_ofNat']
  have := Nat.mod_lt (u / 10 ^ j) (show 0 < 10 by decide)
  omega

theorem dg_add (u a b : Nat) : dg u (a + b) = dg (u / 10 ^ b) a := by
  unfold dg
  rw [Nat.add_comm a b, Nat.pow_add, Nat.div_div_eq_div_mul]

theorem d_div (N k : Nat) : N * 25 * 10 ^ k / 10 ^ (k + 2) = N / 4 := by
  have hp := Nat.pow_pos (n := k) (show 0 < 10 by decide)
  rw [Nat.pow_add, Nat.mul_comm (10 ^ k), Nat.mul_div_mul_right _ _ hp]
  omega

theorem d_nd {N k : Nat} (hN : 0 < N) : nDigits (N * 25 * 10 ^ k) = (if N / 4 = 0 then 0 else nDigits (N / 4)) + (k + 2) := by
  by_cases h : N / 4 = 0
  · rw [if_pos h]
    have hp := Nat.pow_pos (n := k) (show 0 < 10 by decide)
    have h1 : N = 1 ∨ N = 2 ∨ N = 3 := by omega
    have e := Lib.nDigits_unique (k + 1) (N * 25 * 10 ^ k)
    rw [e]
    · omega
    · rw [Nat.pow_succ, Nat.mul_comm]
      exact Nat.mul_le_mul_right _ (by omega)
    · have e2 : 10 ^ (k + 1 + 1) = 100 * 10 ^ k := by rw [Nat.pow_succ, Nat.pow_succ]; omega
      rw [e2]
      exact Nat.mul_lt_mul_of_pos_right (by omega) hp
  · rw [if_neg h, nDigits_div (k + 2) _ (by rw [d_div]; omega), d_div]

/-- How many digits stand ahead of the point (none of a number below one). -/
def DPof (N : Nat) : Nat := if N / 4 = 0 then 0 else nDigits (N / 4)

theorem front {N k t : Nat} (ht : t < DPof N) : dig (N * 25 * 10 ^ k) (DPof N + (k + 2)) t = (dg (N / 4) (DPof N - 1 - t)).toNat := by
  unfold dig
  rw [if_pos (by omega)]
  have e : DPof N + (k + 2) - 1 - t = (DPof N - 1 - t) + (k + 2) := by omega
  rw [e, dg_add, d_div]

theorem back0 (N k : Nat) : dig (N * 25 * 10 ^ k) (DPof N + (k + 2)) (DPof N) = 48 + (N % 4 * 25) / 10 := by
  unfold dig
  rw [if_pos (by omega), dg_nat]
  have e : DPof N + (k + 2) - 1 - DPof N = k + 1 := by omega
  have hp := Nat.pow_pos (n := k) (show 0 < 10 by decide)
  rw [e, Nat.pow_add, Nat.mul_comm (10 ^ k), Nat.mul_div_mul_right _ _ hp, Nat.pow_one]
  obtain ⟨i, f, hf, rfl⟩ : ∃ i f, f < 4 ∧ N = 4 * i + f := ⟨N / 4, N % 4, by omega, by omega⟩
  have h4 : (4 * i + f) % 4 = f := by omega
  rw [h4]
  have : f = 0 ∨ f = 1 ∨ f = 2 ∨ f = 3 := by omega
  rcases this with rfl | rfl | rfl | rfl <;> omega

theorem back1 (N k : Nat) : dig (N * 25 * 10 ^ k) (DPof N + (k + 2)) (DPof N + 1) = 48 + (N % 4 * 25) % 10 := by
  unfold dig
  rw [if_pos (by omega), dg_nat]
  have e : DPof N + (k + 2) - 1 - (DPof N + 1) = k := by omega
  have hp := Nat.pow_pos (n := k) (show 0 < 10 by decide)
  rw [e, Nat.mul_div_cancel _ hp]
  omega

theorem back2 (N k j : Nat) (hj : j < k) : dig (N * 25 * 10 ^ k) (DPof N + (k + 2)) (DPof N + 2 + j) = 48 := by
  unfold dig
  rw [if_pos (by omega), dg_nat]
  have e : DPof N + (k + 2) - 1 - (DPof N + 2 + j) = k - 1 - j := by omega
  have hp := Nat.pow_pos (n := k - 1 - j) (show 0 < 10 by decide)
  have e2 : N * 25 * 10 ^ k = N * 25 * 10 ^ (j + 1) * 10 ^ (k - 1 - j) := by
    rw [Nat.mul_assoc (N * 25), ← Nat.pow_add]
    congr 2
    omega
  rw [e, e2, Nat.mul_div_cancel _ hp, Nat.pow_succ, ← Nat.mul_assoc]
  omega

/-- The digits ahead of the point are the whole part's. -/
theorem front_list {N k : Nat} (h4 : N / 4 ≠ 0) : bs (dig (N * 25 * 10 ^ k) (DPof N + (k + 2))) 0 (DPof N) = (decDigits (N / 4)).map bv := by
  have e : DPof N = nDigits (N / 4) := by unfold DPof; rw [if_neg h4]
  rw [Lib.decDigits_eq, List.map_map, ← e]
  unfold bs
  refine List.map_congr_left fun t ht => ?_
  have ht' : t < DPof N := List.mem_range.1 ht
  show Value.int .u8 _ = Value.int .u8 _
  rw [Nat.zero_add, front ht']

theorem exists_last (D : Nat → Nat) : ∀ nd : Nat, ∃ nz, nz ≤ nd ∧ (∀ t, nz ≤ t → t < nd → D t = 48) ∧ (0 < nz → D (nz - 1) ≠ 48)
  | 0 => ⟨0, Nat.le_refl _, fun t h1 h2 => by omega, fun h => by omega⟩
  | nd + 1 => by
    by_cases h : D nd = 48
    · obtain ⟨nz, h1, h2, h3⟩ := exists_last D nd
      refine ⟨nz, by omega, fun t a b => ?_, h3⟩
      by_cases e : t = nd
      · rw [e]; exact h
      · exact h2 t a (by omega)
    · exact ⟨nd + 1, Nat.le_refl _, fun t a b => by omega, fun _ => h⟩

theorem last_unique {D : Nat → Nat} {nd a b : Nat} (a1 : a ≤ nd) (a2 : ∀ t, a ≤ t → t < nd → D t = 48) (a3 : 0 < a → D (a - 1) ≠ 48)
    (b1 : b ≤ nd) (b2 : ∀ t, b ≤ t → t < nd → D t = 48) (b3 : 0 < b → D (b - 1) ≠ 48) : a = b := by
  rcases Nat.lt_trichotomy a b with h | h | h
  · exact absurd (a2 (b - 1) (by omega) (by omega)) (b3 (by omega))
  · exact h
  · exact absurd (b2 (a - 1) (by omega) (by omega)) (a3 (by omega))

theorem bs_add (g : Nat → Nat) (a n m : Nat) : bs g a (n + m) = bs g a n ++ bs g (a + n) m := by
  unfold bs
  rw [List.range_add, List.map_append, List.map_map]
  congr 1
  refine List.map_congr_left fun t _ => ?_
  show Value.int .u8 (g (a + (n + t)) : Int) = Value.int .u8 (g (a + n + t) : Int)
  rw [Nat.add_assoc]

theorem bs_const (g : Nat → Nat) (a n : Nat) (h : ∀ t, t < n → g (a + t) = 48) : bs g a n = List.replicate n (Value.int .u8 48) := by
  unfold bs
  apply List.ext_getElem
  · simp
  · intro i h1 h2
    have hi : i < n := by simpa using h1
    simp [h i hi]

/-- WHAT IS WRITTEN, IN THE THREE SHAPES. -/
theorem shapes {N k : Nat} (hN : 0 < N) (hk : 2 ≤ k) :
    ∃ NZ, NZ ≤ DPof N + (k + 2) ∧ (∀ t, NZ ≤ t → t < DPof N + (k + 2) → dig (N * 25 * 10 ^ k) (DPof N + (k + 2)) t = 48) ∧ (0 < NZ → dig (N * 25 * 10 ^ k) (DPof N + (k + 2)) (NZ - 1) ≠ 48) ∧
      ((NZ ≤ DPof N ∧ 0 < DPof N ∧ bs (dig (N * 25 * 10 ^ k) (DPof N + (k + 2))) 0 NZ ++ List.replicate (DPof N - NZ) (Value.int .u8 48) = (decDigits (N / 4) ++ frac (N % 4)).map bv) ∨
       (0 < DPof N ∧ ∃ j, 0 < j ∧ NZ = DPof N + j ∧ bs (dig (N * 25 * 10 ^ k) (DPof N + (k + 2))) 0 (DPof N) ++ [Value.int .u8 46] ++ bs (dig (N * 25 * 10 ^ k) (DPof N + (k + 2))) (DPof N) j = (decDigits (N / 4) ++ frac (N % 4)).map bv) ∨
       (DPof N = 0 ∧ 0 < NZ ∧ [Value.int .u8 48, Value.int .u8 46] ++ bs (dig (N * 25 * 10 ^ k) (DPof N + (k + 2))) 0 NZ = (decDigits (N / 4) ++ frac (N % 4)).map bv)) := by
  have B0 := back0 N k
  have B1 := back1 N k
  have B2 := back2 N k
  have FL := front_list (N := N) (k := k)
  obtain ⟨NZ, z1, z2, z3⟩ := exists_last (dig (N * 25 * 10 ^ k) (DPof N + (k + 2))) (DPof N + (k + 2))
  refine ⟨NZ, z1, z2, z3, ?_⟩
  have hDP0 : DPof N = 0 ↔ N / 4 = 0 := by
    unfold DPof
    by_cases h : N / 4 = 0
    · simp [h]
    · have := Lib.nDigits_pos (N / 4)
      rw [if_neg h]
      omega
  generalize dig (N * 25 * 10 ^ k) (DPof N + (k + 2)) = D at *
  have hf : N % 4 = 0 ∨ N % 4 = 1 ∨ N % 4 = 2 ∨ N % 4 = 3 := by omega
  rcases hf with f | f | f | f
  · left
    rw [f] at B0 B1
    have hle : NZ ≤ DPof N := by
      rcases Nat.lt_or_ge (DPof N) NZ with h | h
      · exfalso
        refine z3 (by omega) ?_
        have : NZ - 1 = DPof N ∨ NZ - 1 = DPof N + 1 ∨ ∃ j, j < k ∧ NZ - 1 = DPof N + 2 + j := by
          by_cases h1 : NZ - 1 = DPof N
          · exact Or.inl h1
          · by_cases h2 : NZ - 1 = DPof N + 1
            · exact Or.inr (Or.inl h2)
            · exact Or.inr (Or.inr ⟨NZ - 1 - (DPof N + 2), by omega, by omega⟩)
        rcases this with h | h | ⟨j, hj, h⟩
        · rw [h, B0]
        · rw [h, B1]
        · rw [h, B2 j hj]
      · exact h
    have h4 : N / 4 ≠ 0 := by omega
    have hp : 0 < DPof N := by
      rcases Nat.eq_zero_or_pos (DPof N) with h | h
      · exact absurd (hDP0.1 h) h4
      · exact h
    refine ⟨hle, hp, ?_⟩
    have e : frac (N % 4) = [] := by rw [f]; rfl
    rw [e, List.append_nil, ← FL h4]
    have e2 : DPof N = NZ + (DPof N - NZ) := by omega
    have e3 := bs_add D 0 NZ (DPof N - NZ)
    rw [← e2, Nat.zero_add] at e3
    rw [e3, bs_const D NZ (DPof N - NZ) fun t ht => z2 (NZ + t) (by omega) (by omega)]
  · right
    rw [f] at B0 B1
    have hNZ : NZ = DPof N + 2 := last_unique z1 z2 z3 (by omega) (fun t h1 h2 => by
      have := B2 (t - (DPof N + 2)) (by omega)
      rwa [show DPof N + 2 + (t - (DPof N + 2)) = t by omega] at this) (fun _ => by
      rw [show DPof N + 2 - 1 = DPof N + 1 by omega, B1]; decide)
    have hb : bs D (DPof N) 2 = [Value.int .u8 50, Value.int .u8 53] := by
      unfold bs
      simp [List.range_succ, B0, B1]
    have e : frac (N % 4) = [46, 50, 53] := by rw [f]; rfl
    rw [e]
    by_cases h4 : N / 4 = 0
    · right
      have hd := hDP0.2 h4
      refine ⟨hd, by omega, ?_⟩
      rw [hd] at hb
      rw [hNZ, hd, hb, h4, Lib.decDigits_one (by decide)]
      rfl
    · left
      refine ⟨by have := mt hDP0.1 h4; omega, 2, by decide, hNZ, ?_⟩
      rw [FL h4, hb, List.map_append, List.append_assoc]
      rfl
  · right
    rw [f] at B0 B1
    have hNZ : NZ = DPof N + 1 := last_unique z1 z2 z3 (by omega) (fun t h1 h2 => by
      by_cases e : t = DPof N + 1
      · rw [e, B1]
      · have := B2 (t - (DPof N + 2)) (by omega)
        rwa [show DPof N + 2 + (t - (DPof N + 2)) = t by omega] at this) (fun _ => by
      rw [show DPof N + 1 - 1 = DPof N by omega, B0]; decide)
    have hb : bs D (DPof N) 1 = [Value.int .u8 53] := by
      unfold bs
      simp [B0]
    have e : frac (N % 4) = [46, 53] := by rw [f]; rfl
    rw [e]
    by_cases h4 : N / 4 = 0
    · right
      have hd := hDP0.2 h4
      refine ⟨hd, by omega, ?_⟩
      rw [hd] at hb
      rw [hNZ, hd, hb, h4, Lib.decDigits_one (by decide)]
      rfl
    · left
      refine ⟨by have := mt hDP0.1 h4; omega, 1, by decide, hNZ, ?_⟩
      rw [FL h4, hb, List.map_append, List.append_assoc]
      rfl
  · right
    rw [f] at B0 B1
    have hNZ : NZ = DPof N + 2 := last_unique z1 z2 z3 (by omega) (fun t h1 h2 => by
      have := B2 (t - (DPof N + 2)) (by omega)
      rwa [show DPof N + 2 + (t - (DPof N + 2)) = t by omega] at this) (fun _ => by
      rw [show DPof N + 2 - 1 = DPof N + 1 by omega, B1]; decide)
    have hb : bs D (DPof N) 2 = [Value.int .u8 55, Value.int .u8 53] := by
      unfold bs
      simp [List.range_succ, B0, B1]
    have e : frac (N % 4) = [46, 55, 53] := by rw [f]; rfl
    rw [e]
    by_cases h4 : N / 4 = 0
    · right
      have hd := hDP0.2 h4
      refine ⟨hd, by omega, ?_⟩
      rw [hd] at hb
      rw [hNZ, hd, hb, h4, Lib.decDigits_one (by decide)]
      rfl
    · left
      refine ⟨by have := mt hDP0.1 h4; omega, 2, by decide, hNZ, ?_⟩
      rw [FL h4, hb, List.map_append, List.append_assoc]
      rfl
end Go.Proofs.YtiamghbefallkaaDoor.Dec
