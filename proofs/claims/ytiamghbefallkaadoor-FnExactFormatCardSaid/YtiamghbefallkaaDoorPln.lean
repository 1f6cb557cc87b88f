/-
  The plain law of the shortest decimals of a number of quarters: what the scaling gives is the number's own digits. No program is walked here.
-/
import Derived.Test.YtiamghbefallkaaDoorSet
import Derived.Test.YtiamghbefallkaaDoorEfg
import GoSem.PinnedTables
namespace Go.Proofs.YtiamghbefallkaaDoor.Pln
open Go.Proofs.YtiamghbefallkaaDoor.Usc Go.Proofs.YtiamghbefallkaaDoor.Set Go.Proofs.YtiamghbefallkaaDoor.Efg

/-! ### The scaling -/

theorem le_or (q : Nat) : q ≤ q ||| 1 := Nat.left_le_or
theorem or_le (q m : Nat) (h : q ≤ 2 * m) : q ||| 1 ≤ 2 * m + 1 := by
  have h1 : q ||| 1 = 2 * (q / 2) + 1 := by
    have e := Nat.two_pow_add_eq_or_of_lt (i := 1) (b := 1) (by decide) (q / 2)
    rw [show (2 : Nat) ^ 1 = 2 from rfl] at e
    have e2 : q ||| 1 = 2 * (q / 2) ||| 1 := by
      apply Nat.eq_of_testBit_eq
      intro i
      rw [Nat.testBit_or, Nat.testBit_or]
      cases i with
      | zero => simp
      | succ i =>
        have : q.testBit (i + 1) = (2 * (q / 2)).testBit (i + 1) := by
          rw [Nat.testBit_succ, Nat.testBit_succ]
          congr 1
          omega
        rw [this]
    rw [e2, ← e]
  omega

theorem usc_ge (x hi s : Nat) : x * hi / 2 ^ 64 / 2 ^ s ≤ usc x hi s := by
  unfold usc hw
  split
  · exact Nat.left_le_or
  · exact Nat.left_le_or

theorem usc_le (x hi s : Nat) : usc x hi s ≤ (x * hi / 2 ^ 64 / 2 ^ s) ||| 1 := by
  unfold usc hw
  split
  · exact Nat.le_refl _
  · split
    · exact Nat.le_refl _
    · rw [Nat.or_zero]
      exact Nat.left_le_or

/-- The upper bound's scaling. -/
theorem above {x hi s A c a b : Nat} (hx : x * hi = A * 2 ^ (64 + s) + c) (h1 : a * 2 ^ (64 + s) ≤ c) (h2 : c < (b + 1) * 2 ^ (64 + s)) : A + a ≤ usc x hi s ∧ usc x hi s ≤ A + b + 1 := by
  have hp : 0 < 2 ^ (64 + s) := Nat.two_pow_pos _
  have e : x * hi / 2 ^ 64 / 2 ^ s = A + c / 2 ^ (64 + s) := by
    rw [Nat.div_div_eq_div_mul, ← Nat.pow_add, hx, Nat.add_comm, Nat.add_mul_div_right _ _ hp, Nat.add_comm]
  have l1 : a ≤ c / 2 ^ (64 + s) := (Nat.le_div_iff_mul_le hp).2 h1
  have l2 : c / 2 ^ (64 + s) < b + 1 := (Nat.div_lt_iff_lt_mul hp).2 h2
  have g1 := usc_ge x hi s
  have g2 := usc_le x hi s
  rw [e] at g1 g2
  have g3 : (A + c / 2 ^ (64 + s)) ||| 1 ≤ A + c / 2 ^ (64 + s) + 1 := by
    by_cases hpar : (A + c / 2 ^ (64 + s)) % 2 = 0
    · have := or_le (A + c / 2 ^ (64 + s)) ((A + c / 2 ^ (64 + s)) / 2) (by omega)
      omega
    · have h1 : (A + c / 2 ^ (64 + s)) ||| 1 = A + c / 2 ^ (64 + s) := by
        apply Nat.eq_of_testBit_eq
        intro i
        rw [Nat.testBit_or]
        cases i with
        | zero => simp; omega
        | succ i => simp [Nat.testBit_succ]
      omega
  omega

/-- The lower bound's scaling. -/
theorem down {x hi s X c : Nat} (hx : x * hi + c = 4 * X * 2 ^ (64 + s)) (h1 : 2 ^ (64 + s) < c) : usc x hi s ≤ 4 * X - 1 := by
  have hp : 0 < 2 ^ (64 + s) := Nat.two_pow_pos _
  have g2 := usc_le x hi s
  have e : x * hi / 2 ^ 64 / 2 ^ s = x * hi / 2 ^ (64 + s) := by
    rw [Nat.div_div_eq_div_mul, ← Nat.pow_add]
  rw [e] at g2
  have hX : 0 < X := by
    rcases Nat.eq_zero_or_pos X with h | h
    · subst h
      simp at hx
      omega
    · exact h
  have l : x * hi / 2 ^ (64 + s) < 4 * X - 1 := by
    rw [Nat.div_lt_iff_lt_mul hp, Nat.sub_mul]
    omega
  generalize x * hi / 2 ^ (64 + s) = q at l g2
  have := or_le q (2 * X - 1) (by omega)
  omega

/-! ### The constants, one row for each length in bits -/

def hiOf (P : Nat) : Nat := (Pinned.pow10Rows.getD (P + 348) (0, 0)).1
def loOf (P : Nat) : Nat := (Pinned.pow10Rows.getD (P + 348) (0, 0)).2
/-- The power that is chosen: in general; at a power of two. -/
def Pg (L : Nat) : Nat := ((54 - L) * 78913 + 262143) / 262144
def Pp (L : Nat) : Nat := ((54 - L) * 631305 + 261663 + 2097151) / 2097152
def lpOf (P : Nat) : Nat := P * 108853 / 32768
def sOf (L P : Nat) : Nat := 62 - L - lpOf P

structure Fit (L P lo up : Nat) : Prop where
  p5 : 5 ≤ P
  p17 : P ≤ 17
  shift : -(((L : Int) - 65) + (P : Int) * 108853 / 32768 + 3) = (sOf L P : Int)
  s64 : sOf L P < 64
  s4 : 4 ≤ sOf L P
  hi64 : hiOf P < 18446744073709551616
  lo0 : loOf P = 0
  exact_ : 2 ^ (63 - L) * hiOf P = 10 ^ P * 2 ^ (64 + sOf L P)
  cup : 2 * 2 ^ (64 + sOf L P) ≤ 1024 * hiOf P
  cup2 : 1024 * hiOf P < (up + 1) * 2 ^ (64 + sOf L P)
  cdown : 2 ^ (64 + sOf L P) < lo * hiOf P

instance (L P lo up : Nat) : Decidable (Fit L P lo up) :=
  decidable_of_iff (5 ≤ P ∧ P ≤ 17 ∧ -(((L : Int) - 65) + (P : Int) * 108853 / 32768 + 3) = (sOf L P : Int) ∧ sOf L P < 64 ∧ 4 ≤ sOf L P ∧ hiOf P < 18446744073709551616 ∧ loOf P = 0 ∧
    2 ^ (63 - L) * hiOf P = 10 ^ P * 2 ^ (64 + sOf L P) ∧ 2 * 2 ^ (64 + sOf L P) ≤ 1024 * hiOf P ∧ 1024 * hiOf P < (up + 1) * 2 ^ (64 + sOf L P) ∧ 2 ^ (64 + sOf L P) < lo * hiOf P)
    ⟨fun ⟨a, b, c, d, d', e, f, g, h, i, j⟩ => ⟨a, b, c, d, d', e, f, g, h, i, j⟩, fun ⟨a, b, c, d, d', e, f, g, h, i, j⟩ => ⟨a, b, c, d, d', e, f, g, h, i, j⟩⟩

theorem fit_g : ∀ L : Fin 41, Fit L.val (Pg L.val) 1024 20 ∧ ((L.val : Int) - 65 + 11) * 78913 / 262144 = -(Pg L.val : Int) := by decide +kernel
theorem fit_p : ∀ L : Fin 41, Fit L.val (Pp L.val) 512 27 ∧ (((L.val : Int) - 65 + 11) * 631305 - 261663) / 2097152 = -(Pp L.val : Int) := by decide +kernel

/-- The digits that are chosen, as a number. -/
def dOf (N P : Nat) : Nat := N * 25 * 10 ^ (P - 3)

theorem ten_pow {P : Nat} (h : 5 ≤ P) : 10 ^ P = 100 * 10 ^ (P - 2) ∧ 10 ^ (P - 2) = 10 * 10 ^ (P - 3) := by
  obtain ⟨k, rfl⟩ : ∃ k, P = k + 3 := ⟨P - 3, by omega⟩
  have e1 : k + 3 - 2 = k + 1 := by omega
  have e2 : k + 3 - 3 = k := by omega
  rw [e1, e2, Nat.pow_succ, Nat.pow_succ, Nat.pow_succ]
  omega

theorem dOf_pos {N P : Nat} (hN : 0 < N) : 0 < dOf N P := by
  unfold dOf
  exact Nat.mul_pos (by omega) (Nat.pow_pos (by decide))

theorem scale {N L P lo up odd : Nat} (hN : 0 < N) (F : Fit L P lo up) (hup : up ≤ 27) (hlo : lo ≤ N * 2 ^ (63 - L)) (hodd : odd ≤ 1) :
    (usc (N * 2 ^ (63 - L) - lo) (hiOf P) (sOf L P) + odd + 3) / 4 ≤ (usc (N * 2 ^ (63 - L) + 1024) (hiOf P) (sOf L P) - odd) / 4 / 10 * 10 ∧
    (usc (N * 2 ^ (63 - L) + 1024) (hiOf P) (sOf L P) - odd) / 4 / 10 = dOf N P ∧
    usc (N * 2 ^ (63 - L) - lo) (hiOf P) (sOf L P) ≤ 4 * (dOf N P * 10) ∧ usc (N * 2 ^ (63 - L) + 1024) (hiOf P) (sOf L P) ≤ 4 * (dOf N P * 10) + 28 ∧
    1 ≤ usc (N * 2 ^ (63 - L) + 1024) (hiOf P) (sOf L P) := by
  have hM : N * 2 ^ (63 - L) * hiOf P = 4 * (dOf N P * 10) * 2 ^ (64 + sOf L P) := by
    rw [Nat.mul_assoc, F.exact_, ← Nat.mul_assoc]
    congr 1
    obtain ⟨t1, t2⟩ := ten_pow F.p5
    unfold dOf
    rw [t1, t2]
    generalize 10 ^ (P - 3) = T
    have e1 : N * (100 * (10 * T)) = 1000 * (N * T) := by ac_rfl
    have e2 : N * 25 * T = 25 * (N * T) := by ac_rfl
    rw [e1, e2]
    omega
  have hU := above (x := N * 2 ^ (63 - L) + 1024) (hi := hiOf P) (s := sOf L P) (A := 4 * (dOf N P * 10)) (c := 1024 * hiOf P) (a := 2) (b := up) (by rw [Nat.add_mul, hM]) F.cup F.cup2
  have hD := down (x := N * 2 ^ (63 - L) - lo) (hi := hiOf P) (s := sOf L P) (X := dOf N P * 10) (c := lo * hiOf P) (by
    rw [← Nat.add_mul, Nat.sub_add_cancel hlo, hM]) F.cdown
  generalize usc (N * 2 ^ (63 - L) + 1024) (hiOf P) (sOf L P) = u2 at hU ⊢
  generalize usc (N * 2 ^ (63 - L) - lo) (hiOf P) (sOf L P) = u1 at hD ⊢
  have hd0 := dOf_pos (P := P) hN
  generalize dOf N P = d at hU hD hd0 ⊢
  clear hM hlo
  have k1 : 10 * d ≤ (u2 - odd) / 4 := by omega
  have k2 : (u2 - odd) / 4 ≤ 10 * d + 7 := by omega
  have k3 : (u1 + odd + 3) / 4 ≤ 10 * d := by omega
  generalize (u2 - odd) / 4 = D2 at k1 k2 ⊢
  generalize (u1 + odd + 3) / 4 = D1 at k3 ⊢
  have k4 : D2 / 10 = d := by omega
  rw [k4]
  refine ⟨by omega, rfl, by omega, by omega, by omega⟩

theorem exact_at {N L P lo up : Nat} (F : Fit L P lo up) : N * 2 ^ (63 - L) * hiOf P = 4 * (dOf N P * 10) * 2 ^ (64 + sOf L P) := by
  rw [Nat.mul_assoc, F.exact_, ← Nat.mul_assoc]
  congr 1
  obtain ⟨t1, t2⟩ := ten_pow F.p5
  unfold dOf
  rw [t1, t2]
  generalize 10 ^ (P - 3) = T
  have e1 : N * (100 * (10 * T)) = 1000 * (N * T) := by ac_rfl
  have e2 : N * 25 * T = 25 * (N * T) := by ac_rfl
  rw [e1, e2]
  omega

/-- The digits fit well below a word. -/
theorem dOf_small {N L P lo up : Nat} (F : Fit L P lo up) (hM : N * 2 ^ (63 - L) < 2 ^ 64) : 40 * dOf N P < 2 ^ 60 := by
  have h1 := exact_at (N := N) F
  have h2 : N * 2 ^ (63 - L) * hiOf P < 2 ^ 64 * 2 ^ 64 := Nat.mul_lt_mul_of_lt_of_lt hM F.hi64
  have h3 : 2 ^ 68 ≤ 2 ^ (64 + sOf L P) := Nat.pow_le_pow_right (by decide) (by have := F.s4; omega)
  have h4 : 4 * (dOf N P * 10) * 2 ^ 68 ≤ 4 * (dOf N P * 10) * 2 ^ (64 + sOf L P) := Nat.mul_le_mul_left _ h3
  omega

end Go.Proofs.YtiamghbefallkaaDoor.Pln
