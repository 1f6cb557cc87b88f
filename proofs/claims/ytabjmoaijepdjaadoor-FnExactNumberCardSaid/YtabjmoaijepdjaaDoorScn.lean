/-
  The plain law of numbers in texts: what a text of digits with a point tells, and the float that it is.
-/
import Derived.Test.YtabjmoaijepdjaaDoorFlt
import Derived.Test.YtabjmoaijepdjaaDoorWor
namespace Go.Proofs.YtabjmoaijepdjaaDoor.Scn
open Ieee
open Go.Proofs.YtabjmoaijepdjaaDoor.Flt Go.Proofs.YtabjmoaijepdjaaDoor.Wor

/-- Digits with at most one point: their value, how many stand behind the point, how many there are. -/
def scan : List UInt8 → Nat → Nat → Nat → Bool → Option (Nat × Nat × Nat)
  | [], m, a, d, _ => some (m, a, d)
  | c :: r, m, a, d, pt => if c.toNat = 46 ∧ pt = false then scan r m a d true
    else if isd c then scan r (m * 10 + (c.toNat - 48)) (if pt then a + 1 else a) (d + 1) pt else none

theorem scan_bound : ∀ (l : List UInt8) (m a d : Nat) (pt : Bool) (m' a' d' : Nat), m < 10 ^ d → a ≤ d → scan l m a d pt = some (m', a', d') → m' < 10 ^ d' ∧ a' ≤ d' ∧ d' ≤ d + figs l
  | [], m, a, d, pt, m', a', d', hm, ha, h => by
    simp only [scan, Option.some.injEq, Prod.mk.injEq] at h
    obtain ⟨rfl, rfl, rfl⟩ := h
    exact ⟨hm, ha, by simp [figs]⟩
  | c :: r, m, a, d, pt, m', a', d', hm, ha, h => by
    unfold scan at h
    split at h
    · have := scan_bound r m a d true m' a' d' hm ha h
      refine ⟨this.1, this.2.1, Nat.le_trans this.2.2 ?_⟩
      unfold figs; rw [List.countP_cons]; omega
    · split at h
      · rename_i hd
        have hd' := hd
        unfold isd at hd'
        simp only [Bool.and_eq_true, decide_eq_true_eq] at hd'
        have := scan_bound r (m * 10 + (c.toNat - 48)) (if pt then a + 1 else a) (d + 1) pt m' a' d' (by rw [Nat.pow_succ]; omega) (by split <;> omega) h
        refine ⟨this.1, this.2.1, Nat.le_trans this.2.2 ?_⟩
        unfold figs; rw [List.countP_cons, if_pos hd]; omega
      · cases h

/-- A whole number with its sign, as a float. -/
def sgn (minus : Bool) (m : Nat) : Nat := if minus then F m 0 ^^^ 2 ^ 63 else F m 0
theorem sgn_true (m : Nat) : sgn true m = F m 0 ^^^ 2 ^ 63 := if_pos rfl
theorem sgn_false (m : Nat) : sgn false m = F m 0 := if_neg Bool.false_ne_true
/-- The number with its sign. -/
def ofs (minus : Bool) (m : Nat) : Int := if minus then -(m : Int) else m
theorem ofs_abs (minus : Bool) (m : Nat) : (ofs minus m).natAbs = m := by unfold ofs; split <;> omega
theorem ofs_neg (minus : Bool) {m : Nat} (h : 0 < m) : decide (ofs minus m < 0) = minus := by
  cases minus
  · exact decide_eq_false (by unfold ofs; rw [if_neg Bool.false_ne_true]; omega)
  · exact decide_eq_true (by unfold ofs; rw [if_pos rfl]; omega)
theorem sgn_pos (minus : Bool) {m : Nat} (h : 0 < m) : sgn minus m = F (ofs minus m) 0 := by
  cases minus
  · rw [sgn_false]; unfold ofs; rw [if_neg Bool.false_ne_true]
  · rw [sgn_true, F_neg 0 (show (m : Int) ≠ 0 by omega)]; unfold ofs; rw [if_pos rfl]
theorem sgn_zero (minus : Bool) : sgn minus 0 = double.word minus 0 := by
  cases minus <;> decide +kernel
/-- What a text tells. -/
def val (minus : Bool) (m a : Nat) : Nat := (double.div (sgn minus m) (F ((10 : Int) ^ a) 0)).getD 0

theorem pow_abs (a : Nat) : ((10 : Int) ^ a).natAbs = 10 ^ a := by rw [Int.natAbs_pow]; rfl
theorem pow_lt {a : Nat} (ha : a ≤ 15) : 10 ^ a < 2 ^ 53 := Nat.lt_of_le_of_lt (Nat.pow_le_pow_right (by decide) ha) (by decide)
theorem read_ten {a : Nat} (ha : a ≤ 15) : ∃ M i, 0 < M ∧ double.read (F ((10 : Int) ^ a) 0) = .number false M i := by
  obtain ⟨i, hp, hi, hlt, ei⟩ := read_F (a := (10 : Int) ^ a) (p := 0) (by rw [pow_abs]; exact pow_lt ha) (by omega) (by omega)
  have hpos : (0 : Int) < 10 ^ a := Int.pow_pos (by decide)
  rw [decide_eq_false (by omega)] at ei
  refine ⟨_, i, ?_, ei⟩
  rw [pow_abs]
  exact Nat.mul_pos (Nat.pow_pos (by decide)) (Nat.two_pow_pos _)
theorem read_sgn (minus : Bool) {m : Nat} (hm : m < 2 ^ 53) : ∃ M i, double.read (sgn minus m) = .number minus M i ∧ (m = 0 → M = 0) := by
  by_cases h : m = 0
  · subst h
    rw [sgn_zero]
    exact ⟨0, -1074, read_zero minus, fun _ => rfl⟩
  · rw [sgn_pos minus (by omega)]
    obtain ⟨i, hp, hi, hlt, ei⟩ := read_F (a := ofs minus m) (p := 0) (by rw [ofs_abs]; exact hm) (by omega) (by omega)
    rw [ofs_neg minus (by omega)] at ei
    exact ⟨_, i, ei, fun e => absurd e h⟩
theorem div_val (minus : Bool) {m a : Nat} (hm : m < 2 ^ 53) (ha : a ≤ 15) : double.div (sgn minus m) (F ((10 : Int) ^ a) 0) = some (val minus m a) := by
  obtain ⟨M, i, h1, _⟩ := read_sgn minus hm
  obtain ⟨N, j, hN, h2⟩ := read_ten ha
  have : ∃ z, double.div (sgn minus m) (F ((10 : Int) ^ a) 0) = some z := by
    unfold Format.div
    rw [h1, h2]
    simp only [Datum.quotient]
    rw [if_neg (by omega)]
    exact ⟨_, rfl⟩
  obtain ⟨z, hz⟩ := this
  unfold val
  rw [hz]
  rfl
theorem val_one (minus : Bool) {m : Nat} (hm : m < 2 ^ 53) (h : 0 < m) : val minus m 0 = sgn minus m := by
  have h1 := div_val minus hm (a := 0) (by omega)
  rw [Int.pow_zero, sgn_pos minus h] at h1
  rw [sgn_pos minus h]
  have hb : (ofs minus m).natAbs < 2 ^ 53 := by rw [ofs_abs]; exact hm
  have h2 := F_div_pow2 (p := 0) (q := 0) hb (by omega) (by omega) (by omega) (by omega)
  rw [h2, Int.sub_zero] at h1
  exact (Option.some.inj h1).symm
theorem val_zero (minus : Bool) {a : Nat} (ha : a ≤ 15) : val minus 0 a = sgn minus 0 := by
  obtain ⟨M, i, h1, h0⟩ := read_sgn minus (m := 0) (by decide)
  obtain ⟨N, j, hN, h2⟩ := read_ten ha
  obtain rfl := h0 rfl
  unfold val Format.div
  rw [h1, h2, sgn_zero]
  simp only [Datum.quotient]
  rw [if_neg (by omega)]
  simp only [Option.map_some, Option.getD_some, Format.write]
  rw [Nat.zero_shiftLeft, Nat.zero_div, Nat.zero_mod, Bool.xor_false, nearest_word]
  have h : ∀ p, double.nearest false (2 * 0 + ((0 : Nat) != 0).toNat) p = 0 := fun p => F_zero p
  rw [h]

/-- The whole number m, and ten to the power a, as floats. -/
def W (m : Nat) : Nat := F (m : Int) 0
def T (a : Nat) : Nat := F ((10 : Int) ^ a) 0
theorem W_ten : W 10 = 4621819117588971520 := by decide +kernel
theorem T_zero : T 0 = 4607182418800017408 := by decide +kernel
theorem W_zero : W 0 = 0 := F_zero 0
theorem W_mul {m : Nat} (hm : m * 10 < 2 ^ 53) : double.mul (W m) 4621819117588971520 = some (W (m * 10)) := by
  rw [← W_ten]
  have h := F_mul (a := (m : Int)) (b := 10) (p := 0) (q := 0) (by omega) (by decide) (by omega) (by omega) (by omega) (by omega) (by omega) (by omega)
  unfold W
  rw [Int.natCast_mul]
  exact h
theorem T_mul {a : Nat} (ha : a < 15) : double.mul (T a) 4621819117588971520 = some (T (a + 1)) := by
  rw [← W_ten]
  have h := F_mul (a := (10 : Int) ^ a) (b := 10) (p := 0) (q := 0) (by rw [pow_abs]; exact pow_lt (by omega)) (by decide) (by omega) (by omega) (by omega) (by omega) (by omega) (by omega)
  unfold T W
  rw [Int.pow_succ]
  exact h
theorem W_add {m c : Nat} (hm : m < 2 ^ 53) (hc : c < 2 ^ 53) : double.add (W m) (W c) = some (W (m + c)) := by
  have h := F_add (a := (m : Int)) (b := (c : Int)) (p := 0) (by omega) (by omega) (by omega) (by omega)
  unfold W
  rw [Int.natCast_add]
  exact h

/-- White space, to spec.Number. -/
def wh (c : UInt8) : Bool := c.toNat == 32 || c.toNat == 9 || c.toNat == 10 || c.toNat == 13
def trimR (l : List UInt8) : List UInt8 := (l.reverse.dropWhile wh).reverse
/-- The sign, and the rest. -/
def minusOf (l : List UInt8) : Bool := match l with | c :: _ => c.toNat == 45 | [] => false
def bodyOf (l : List UInt8) : List UInt8 := if minusOf l then l.tail else l
theorem trimR_snoc (p : List UInt8) (x : UInt8) : trimR (p ++ [x]) = if wh x then trimR p else p ++ [x] := by
  unfold trimR
  rw [List.reverse_append, List.reverse_singleton, List.singleton_append, List.dropWhile_cons]
  split
  · rfl
  · rw [List.reverse_cons, List.reverse_reverse]
theorem last_eq (c : UInt8) (q : List UInt8) : c :: q = (c :: q).dropLast ++ [(c :: q)[q.length]'(Nat.lt_succ_self _)] := by
  have h := (List.dropLast_concat_getLast (l := c :: q) (by simp)).symm
  rw [List.getLast_eq_getElem] at h
  exact h
theorem trimR_white {c : UInt8} {q : List UInt8} (h : wh ((c :: q)[q.length]'(Nat.lt_succ_self _)) = true) : trimR (c :: q) = trimR (c :: q).dropLast := by
  have e := trimR_snoc (c :: q).dropLast ((c :: q)[q.length]'(Nat.lt_succ_self _))
  rw [← last_eq, if_pos h] at e
  exact e
theorem trimR_black {c : UInt8} {q : List UInt8} (h : ¬ wh ((c :: q)[q.length]'(Nat.lt_succ_self _)) = true) : trimR (c :: q) = c :: q := by
  have e := trimR_snoc (c :: q).dropLast ((c :: q)[q.length]'(Nat.lt_succ_self _))
  rw [← last_eq, if_neg h] at e
  exact e
theorem figs_drop (l : List UInt8) (p : UInt8 → Bool) : figs (l.dropWhile p) ≤ figs l := (List.dropWhile_sublist p).countP_le
theorem figs_last (l : List UInt8) : figs l.dropLast ≤ figs l := (List.dropLast_sublist l).countP_le
theorem figs_cons (c : UInt8) (l : List UInt8) : figs (c :: l) = figs l + if isd c then 1 else 0 := List.countP_cons
/-- A text that is not empty, closed. -/
def full (c : UInt8) (q : List UInt8) : List UInt8 := c :: q
def nan : Nat := 9221120237041090561
/-- What a trimmed text tells. -/
def told (l : List UInt8) : Option Nat :=
  match scan (bodyOf l) 0 0 0 false with
  | some (m, a, d) => if d = 0 then none else some (val (minusOf l) m a)
  | none => none
theorem told_some {t b : List UInt8} {mi : Bool} {m a d : Nat} (hb : bodyOf t = b) (hmi : minusOf t = mi) (h : some (m, a, d) = scan b 0 0 0 false) (hd : d ≠ 0) : told t = some (val mi m a) := by
  unfold told
  rw [hb, ← h, hmi]
  exact if_neg hd
theorem told_zero {t b : List UInt8} {m a d : Nat} (hb : bodyOf t = b) (h : some (m, a, d) = scan b 0 0 0 false) (hd : d = 0) : told t = none := by
  unfold told
  rw [hb, ← h]
  exact if_pos hd
theorem told_none {t b : List UInt8} (hb : bodyOf t = b) (h : none = scan b 0 0 0 false) : told t = none := by
  unfold told
  rw [hb, ← h]
theorem body_minus {c : UInt8} {q : List UInt8} (h : c.toNat = 45) : bodyOf (c :: q) = q ∧ minusOf (c :: q) = true := by
  have e : minusOf (c :: q) = true := by simp [minusOf, h]
  exact ⟨by unfold bodyOf; rw [if_pos e]; rfl, e⟩
theorem body_plain {c : UInt8} {q : List UInt8} (h : ¬ c.toNat = 45) : bodyOf (c :: q) = c :: q ∧ minusOf (c :: q) = false := by
  have e : minusOf (c :: q) = false := by simp [minusOf, h]
  exact ⟨by unfold bodyOf; rw [if_neg (by rw [e]; exact Bool.false_ne_true)], e⟩
theorem scan_dot {c : UInt8} {r : List UInt8} {m a d : Nat} (h : c.toNat = 46) : scan (c :: r) m a d false = scan r m a d true := by
  rw [scan, if_pos ⟨h, rfl⟩]
theorem scan_digit {c : UInt8} {r : List UInt8} {m a d : Nat} {p : Bool} (h1 : 48 ≤ c.toNat) (h2 : c.toNat ≤ 57) : scan (c :: r) m a d p = scan r (m * 10 + (c.toNat - 48)) (if p then a + 1 else a) (d + 1) p := by
  rw [scan, if_neg (by omega), if_pos]
  unfold isd
  simp only [Bool.and_eq_true, decide_eq_true_eq]
  omega
theorem scan_other {c : UInt8} {r : List UInt8} {m a d : Nat} {p : Bool} (h1 : ¬ (48 ≤ c.toNat ∧ c.toNat ≤ 57)) (h2 : c.toNat = 46 → p = true) : scan (c :: r) m a d p = none := by
  rw [scan, if_neg (by rintro ⟨h, e⟩; rw [h2 h] at e; cases e), if_neg]
  unfold isd
  simp only [Bool.and_eq_true, decide_eq_true_eq]
  omega
theorem figs_digit {c : UInt8} (h1 : 48 ≤ c.toNat) (h2 : c.toNat ≤ 57) : (if isd c then 1 else 0) = 1 := by
  rw [if_pos]
  unfold isd
  simp only [Bool.and_eq_true, decide_eq_true_eq]
  omega
theorem ten_le {d : Nat} (h : d ≤ 14) : 10 ^ d ≤ 10 ^ 14 := Nat.pow_le_pow_right (by decide) h
theorem next_lt {m d c : Nat} (hm : m < 10 ^ d) (hc : c ≤ 9) : m * 10 + c < 10 ^ (d + 1) := by rw [Nat.pow_succ]; omega
theorem sgn_W (m : Nat) : sgn false m = W m := sgn_false m
end Go.Proofs.YtabjmoaijepdjaaDoor.Scn
