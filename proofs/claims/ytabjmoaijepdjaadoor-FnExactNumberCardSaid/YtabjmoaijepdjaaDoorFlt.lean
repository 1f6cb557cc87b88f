/-
  Plain arithmetic of the model's 64-bit floats: what reading, adding, subtracting, multiplying, dividing by a power of two, ordering, rounding down and cutting give at numbers a * 2^p with fewer than 54 digits. No program in sight; no condition beyond those written in each statement.
-/
import Ieee.Arith
namespace Go.Proofs.YtabjmoaijepdjaaDoor.Flt
open Ieee

theorem sw : Ieee.double.signWeight = 2 ^ 63 := by decide +kernel
theorem bn : Ieee.double.binade = 2 ^ 52 := by decide +kernel
theorem ir : Ieee.double.infRung = 2047 * 2 ^ 52 := by decide +kernel
theorem lp : Ieee.double.leastPlace = -1074 := by decide +kernel
theorem fb : Ieee.double.fractionBits = 52 := rfl

theorem cut_zero_drop (way : Toward) (neg : Bool) (n : Nat) : way.cut neg n 0 = n := by
  unfold Toward.cut
  cases way <;> simp [Nat.mod_one]

theorem log2_mul_pow {m : Nat} (k : Nat) (hm : 0 < m) : (m * 2 ^ k).log2 = m.log2 + k := by
  have hp : 0 < 2 ^ k := Nat.two_pow_pos k
  have := Nat.mul_pos hm hp
  refine (Nat.log2_eq_iff (by omega)).2 ⟨?_, ?_⟩
  · rw [Nat.pow_add]
    exact Nat.mul_le_mul_right _ (Nat.log2_self_le (by omega))
  · have h : m < 2 ^ (m.log2 + 1) := Nat.lt_log2_self
    have e : m.log2 + k + 1 = m.log2 + 1 + k := by omega
    rw [e, Nat.pow_add]
    exact Nat.mul_lt_mul_of_pos_right h hp

theorem mul_mod_pow (m k g : Nat) : (m * 2 ^ k) % (g * 2 ^ k) = (m % g) * 2 ^ k := Nat.mul_mod_mul_right ..

theorem cut_scale (way : Toward) (neg : Bool) {m : Nat} (hm : 0 < m) (k d : Nat) : way.cut neg (m * 2 ^ k) (d + k) = way.cut neg m d := by
  have hl := log2_mul_pow k hm
  have hp : 0 < 2 ^ k := Nat.two_pow_pos k
  have hg : 1 <<< min (d + k) ((m * 2 ^ k).log2 + 2) = (1 <<< min d (m.log2 + 2)) * 2 ^ k := by
    rw [hl, Nat.one_shiftLeft, Nat.one_shiftLeft, ← Nat.pow_add]
    congr 1
    omega
  unfold Toward.cut
  simp only [hg]
  rw [mul_mod_pow, Nat.mul_div_mul_right _ _ hp]
  generalize (1 <<< min d (m.log2 + 2)) = g
  have e1 : decide (g * 2 ^ k < 2 * (m % g * 2 ^ k)) = decide (g < 2 * (m % g)) := by
    rw [← Nat.mul_assoc]
    exact decide_eq_decide.2 (Nat.mul_lt_mul_right hp)
  have e2 : (g * 2 ^ k == 2 * (m % g * 2 ^ k)) = (g == 2 * (m % g)) := by
    rw [← Nat.mul_assoc, Bool.eq_iff_iff]
    simp only [beq_iff_eq]
    exact ⟨fun h => Nat.eq_of_mul_eq_mul_right hp h, fun h => congrArg (· * 2 ^ k) h⟩
  have e3 : (m % g * 2 ^ k != 0) = (m % g != 0) := by
    rw [Bool.eq_iff_iff]
    simp only [bne_iff_ne, ne_eq, Nat.mul_eq_zero, not_or]
    omega
  cases way <;> simp only [e1, e2, e3]

theorem nearest_shift (neg : Bool) (m k : Nat) (p : Int) : Ieee.double.nearest neg (m * 2 ^ k) p = Ieee.double.nearest neg m (p + k) := by
  by_cases h0 : m = 0
  · subst h0
    simp [Format.nearest]
  have hm : 0 < m := by omega
  have hl := log2_mul_pow k hm
  have hp : 0 < 2 ^ k := Nat.two_pow_pos k
  have hmk : m * 2 ^ k ≠ 0 := by
    have := Nat.mul_pos hm hp
    omega
  unfold Format.nearest
  rw [if_neg hmk, if_neg h0]
  have e : max (p + ((m * 2 ^ k).log2 : Nat) - (Ieee.double.fractionBits : Nat)) Ieee.double.leastPlace = max (p + k + (m.log2 : Nat) - (Ieee.double.fractionBits : Nat)) Ieee.double.leastPlace := by
    rw [hl]
    congr 1
    omega
  simp only [e]
  generalize max (p + k + (m.log2 : Nat) - (Ieee.double.fractionBits : Nat)) Ieee.double.leastPlace = last
  have key : Toward.even.cut neg ((m * 2 ^ k) <<< (p - last).toNat) (last - p).toNat = Toward.even.cut neg (m <<< (p + k - last).toNat) (last - (p + k)).toNat := by
    rw [Nat.shiftLeft_eq, Nat.shiftLeft_eq]
    by_cases c1 : last ≤ p
    · have a1 : (last - p).toNat = 0 := by omega
      have a2 : (last - (p + k)).toNat = 0 := by omega
      have a3 : (p + k - last).toNat = k + (p - last).toNat := by omega
      rw [a1, a2, a3, cut_zero_drop, cut_zero_drop, Nat.pow_add, Nat.mul_assoc]
    · have b0 : (p - last).toNat = 0 := by omega
      rw [b0, Nat.pow_zero, Nat.mul_one]
      by_cases c2 : last ≤ p + k
      · have a1 : (last - (p + k)).toNat = 0 := by omega
        have a2 : k = (p + k - last).toNat + (last - p).toNat := by omega
        rw [a1, cut_zero_drop]
        have a3 : m * 2 ^ k = (m * 2 ^ (p + k - last).toNat) * 2 ^ (last - p).toNat := by
          rw [Nat.mul_assoc, ← Nat.pow_add, ← a2]
        rw [a3]
        have := cut_scale .even neg (m := m * 2 ^ (p + k - last).toNat) (Nat.mul_pos hm (Nat.two_pow_pos _)) (last - p).toNat 0
        rw [Nat.zero_add] at this
        rw [this, cut_zero_drop]
      · have a1 : (p + k - last).toNat = 0 := by omega
        have a2 : (last - p).toNat = (last - (p + k)).toNat + k := by omega
        rw [a1, a2, Nat.pow_zero, Nat.mul_one]
        exact cut_scale .even neg hm k _
  rw [key]

/-- The word of a number of fewer than 54 digits, none of which is lost. -/
theorem nearest_exact (neg : Bool) {m : Nat} (hm : 0 < m) (hl : m.log2 ≤ 52) {p : Int} (h1 : -1022 ≤ p) (h2 : p ≤ 971) :
    Ieee.double.nearest neg m p = Ieee.double.word neg ((p + m.log2 + 1022).toNat * 2 ^ 52 + m * 2 ^ (52 - m.log2)) := by
  have hp : m * 2 ^ (52 - m.log2) < 2 ^ 53 := by
    have h : m < 2 ^ (m.log2 + 1) := Nat.lt_log2_self
    have := Nat.mul_lt_mul_of_pos_right h (Nat.two_pow_pos (52 - m.log2))
    rw [← Nat.pow_add] at this
    have e : m.log2 + 1 + (52 - m.log2) = 53 := by omega
    rwa [e] at this
  unfold Format.nearest
  rw [if_neg (by omega : ¬ m = 0), lp, bn, ir, fb]
  have e : max (p + (m.log2 : Nat) - ((52 : Nat) : Int)) (-1074) = p + m.log2 - 52 := by omega
  simp only [e]
  have a1 : (p - (p + (m.log2 : Int) - 52)).toNat = 52 - m.log2 := by omega
  have a2 : (p + (m.log2 : Int) - 52 - p).toNat = 0 := by omega
  have a3 : (p + (m.log2 : Int) - 52 - -1074).toNat = (p + m.log2 + 1022).toNat := by omega
  rw [a1, a2, a3, cut_zero_drop, Nat.shiftLeft_eq, Nat.min_eq_left]
  have a4 : (p + m.log2 + 1022).toNat ≤ 2045 := by omega
  have a5 := Nat.mul_le_mul_right (2 ^ 52) a4
  have a6 : (2045 : Nat) * 2 ^ 52 + 2 ^ 53 ≤ 2047 * 2 ^ 52 := by decide
  exact Nat.le_trans (Nat.add_le_add a5 (Nat.le_of_lt hp)) a6

theorem read_word (neg : Bool) {E M : Nat} (hE : E ≤ 2045) (h1 : 2 ^ 52 ≤ M) (h2 : M < 2 ^ 53) :
    Ieee.double.read (Ieee.double.word neg (E * 2 ^ 52 + M)) = .number neg M (-1074 + E) := by
  have hE' := Nat.mul_le_mul_right (2 ^ 52) hE
  have hlt : E * 2 ^ 52 + M < 2 ^ 63 := by omega
  have hneg : (Ieee.double.word neg (E * 2 ^ 52 + M) / Ieee.double.signWeight % 2 == 1) = neg := by
    rw [sw]; unfold Format.word; rw [sw]
    cases neg
    · simp; omega
    · simp; omega
  have hr : Ieee.double.word neg (E * 2 ^ 52 + M) % Ieee.double.signWeight = E * 2 ^ 52 + M := by
    rw [sw]; unfold Format.word; rw [sw]
    cases neg
    · simp; omega
    · simp; omega
  unfold Format.read
  simp only [hneg, hr]
  rw [bn, ir, lp, if_neg (by omega), if_pos (by omega)]
  have a1 : 2 ^ 52 + (E * 2 ^ 52 + M) % 2 ^ 52 = M := by omega
  have a2 : (((E * 2 ^ 52 + M) / 2 ^ 52 - 1 : Nat) : Int) = E := by omega
  rw [a1, a2]

theorem read_zero (neg : Bool) : Ieee.double.read (Ieee.double.word neg 0) = .number neg 0 (-1074) := by
  cases neg <;> decide +kernel

/-- THE FLOAT a * 2^p. -/
def F (a p : Int) : Nat := Ieee.double.nearest (decide (a < 0)) a.natAbs p

theorem F_zero (p : Int) : F 0 p = 0 := by
  unfold F Format.nearest Format.word
  simp

theorem log2_le {m : Nat} (h : m < 2 ^ 53) : m.log2 ≤ 52 := by
  by_cases h0 : m = 0
  · subst h0; decide
  have := (Nat.log2_lt h0 (k := 53)).2 h
  omega

theorem norm_lt {m : Nat} (hl : m.log2 ≤ 52) : m * 2 ^ (52 - m.log2) < 2 ^ 53 := by
  have h : m < 2 ^ (m.log2 + 1) := Nat.lt_log2_self
  have := Nat.mul_lt_mul_of_pos_right h (Nat.two_pow_pos (52 - m.log2))
  rw [← Nat.pow_add] at this
  have e : m.log2 + 1 + (52 - m.log2) = 53 := by omega
  rwa [e] at this

theorem norm_le {m : Nat} (hm : 0 < m) (hl : m.log2 ≤ 52) : 2 ^ 52 ≤ m * 2 ^ (52 - m.log2) := by
  have h : 2 ^ m.log2 ≤ m := Nat.log2_self_le (by omega)
  have := Nat.mul_le_mul_right (2 ^ (52 - m.log2)) h
  rw [← Nat.pow_add] at this
  have e : m.log2 + (52 - m.log2) = 52 := by omega
  rwa [e] at this

/-- What is read of such a float. -/
theorem read_F {a p : Int} (ha : a.natAbs < 2 ^ 53) (h1 : -1022 ≤ p) (h2 : p ≤ 971) :
    ∃ i : Int, -1074 ≤ i ∧ i ≤ p ∧ a.natAbs * 2 ^ (p - i).toNat < 2 ^ 53 ∧ Ieee.double.read (F a p) = .number (decide (a < 0)) (a.natAbs * 2 ^ (p - i).toNat) i := by
  by_cases h0 : a = 0
  · subst h0
    refine ⟨-1074, by omega, by omega, by simp, ?_⟩
    have : F 0 p = Ieee.double.word false 0 := by rw [F_zero]; decide +kernel
    rw [this, read_zero]
    simp
  have hm : 0 < a.natAbs := by omega
  have hl := log2_le ha
  refine ⟨p + a.natAbs.log2 - 52, by omega, by omega, ?_, ?_⟩
  · have := norm_lt hl
    have e : (p - (p + (a.natAbs.log2 : Int) - 52)).toNat = 52 - a.natAbs.log2 := by omega
    rw [e]; exact this
  · have e : (p - (p + (a.natAbs.log2 : Int) - 52)).toNat = 52 - a.natAbs.log2 := by omega
    rw [e]
    unfold F
    rw [nearest_exact _ hm hl h1 h2, read_word _ (by omega) (norm_le hm hl) (norm_lt hl)]
    congr 1
    omega

theorem F_shift (a : Int) (k : Nat) (p : Int) : F (a * 2 ^ k) p = F a (p + k) := by
  unfold F
  have hk : (0 : Int) < 2 ^ k := Int.pow_pos (by decide)
  have e1 : (a * 2 ^ k).natAbs = a.natAbs * 2 ^ k := by
    rw [Int.natAbs_mul, Int.natAbs_pow]; rfl
  have e2 : decide (a * 2 ^ k < 0) = decide (a < 0) := by
    apply decide_eq_decide.2
    constructor
    · intro h
      by_cases hn : a < 0
      · exact hn
      · have := Int.mul_nonneg (by omega : 0 ≤ a) (Int.le_of_lt hk)
        omega
    · intro h
      exact Int.mul_neg_of_neg_of_pos h hk
  rw [e1, e2, nearest_shift]

theorem signed_val (a : Int) (k j : Nat) : signed (decide (a < 0)) (a.natAbs * 2 ^ k) j = a * 2 ^ (k + j) := by
  unfold signed
  rw [Nat.shiftLeft_eq, Nat.mul_assoc, ← Nat.pow_add]
  by_cases h : a < 0
  · simp only [h, decide_true, if_true]
    have : (a.natAbs : Int) = -a := by omega
    rw [Int.natCast_mul, this, Int.natCast_pow, Int.neg_mul, Int.neg_neg]
    rfl
  · simp only [h, decide_false]
    have : (a.natAbs : Int) = a := by omega
    rw [if_neg (by simp), Int.natCast_mul, this, Int.natCast_pow]
    simp

theorem signed_opp (a : Int) (k j : Nat) : signed (!decide (a < 0)) (a.natAbs * 2 ^ k) j = -a * 2 ^ (k + j) := by
  unfold signed
  rw [Nat.shiftLeft_eq, Nat.mul_assoc, ← Nat.pow_add]
  by_cases h : a < 0
  · simp only [h, decide_true, Bool.not_true]
    have : (a.natAbs : Int) = -a := by omega
    rw [if_neg (by simp), Int.natCast_mul, this, Int.natCast_pow]
    simp
  · simp only [h, decide_false, Bool.not_false, if_true]
    have : (a.natAbs : Int) = a := by omega
    rw [Int.natCast_mul, this, Int.natCast_pow, Int.neg_mul]
    rfl

theorem write_total (t : Int) (k : Nat) (p : Int) (s : Bool) (hs : t = 0 → s = false) :
    Ieee.double.nearest (if t * 2 ^ k = 0 then s else decide (t * 2 ^ k < 0)) (t * 2 ^ k).natAbs p = F t (p + k) := by
  have hk : (0 : Int) < 2 ^ k := Int.pow_pos (by decide)
  rw [← F_shift]
  unfold F
  by_cases h : t * 2 ^ k = 0
  · have ht : t = 0 := by
      rcases Int.mul_eq_zero.1 h with h | h
      · exact h
      · omega
    subst ht
    rw [if_pos h, hs rfl]
    simp
  · rw [if_neg h]

theorem word_false (r : Nat) : Ieee.double.word false r = r := by
  unfold Format.word
  rw [if_neg (by simp)]

theorem cut_even (neg : Bool) (n d : Nat) : Toward.even.cut neg n d = Toward.even.cut false n d := by
  unfold Toward.cut
  simp only

theorem nearest_word (neg : Bool) (m : Nat) (p : Int) : Ieee.double.nearest neg m p = Ieee.double.word neg (Ieee.double.nearest false m p) := by
  unfold Format.nearest
  by_cases h : m = 0
  · rw [if_pos h, if_pos h, word_false]
  · rw [if_neg h, if_neg h]
    simp only [word_false]
    rw [cut_even]

theorem nearest_lt (m : Nat) (p : Int) : Ieee.double.nearest false m p < 2 ^ 63 := by
  unfold Format.nearest
  by_cases h : m = 0
  · rw [if_pos h, word_false]
    exact Nat.two_pow_pos 63
  · rw [if_neg h]
    simp only [word_false]
    refine Nat.lt_of_le_of_lt (Nat.min_le_right ..) ?_
    rw [ir]
    decide +kernel

theorem word_mod (neg : Bool) {r : Nat} (h : r < 2 ^ 63) : Ieee.double.word neg r % 2 ^ 63 = r ∧ Ieee.double.word neg r < 2 ^ 64 := by
  unfold Format.word
  rw [sw]
  cases neg
  · simp; omega
  · simp; omega

/-- The sign's bit struck. -/
theorem F_abs (a p : Int) : F a p % 2 ^ 63 = F (a.natAbs : Int) p := by
  have e : F (a.natAbs : Int) p = Ieee.double.nearest false a.natAbs p := by
    unfold F
    rw [decide_eq_false (by omega), Int.natAbs_natCast]
  rw [e]
  unfold F
  rw [nearest_word]
  exact (word_mod _ (nearest_lt a.natAbs p)).1

theorem xor_top {r : Nat} (h : r < 2 ^ 63) : r ^^^ 2 ^ 63 = 2 ^ 63 + r := by
  have e := Nat.two_pow_add_eq_or_of_lt h 1
  rw [Nat.mul_one] at e
  rw [e]
  apply Nat.eq_of_testBit_eq
  intro i
  rw [Nat.testBit_xor, Nat.testBit_or, Nat.testBit_two_pow]
  by_cases hi : 63 = i
  · subst hi
    rw [Nat.testBit_lt_two_pow h]
    simp
  · simp [hi]

/-- The sign turned. -/
theorem F_neg {a : Int} (p : Int) (ha : a ≠ 0) : F a p ^^^ 2 ^ 63 = F (-a) p := by
  have hr := nearest_lt a.natAbs p
  have e : F (-a) p = Ieee.double.word (!decide (a < 0)) (Ieee.double.nearest false a.natAbs p) := by
    unfold F
    rw [nearest_word, Int.natAbs_neg]
    congr 1
    by_cases h : a < 0
    · simp [h]; omega
    · simp [h]; omega
  rw [e]
  unfold F
  rw [nearest_word]
  generalize Ieee.double.nearest false a.natAbs p = r at hr
  unfold Format.word
  rw [sw]
  by_cases h : a < 0
  · simp only [h, decide_true, if_true, Bool.not_true]
    rw [if_neg (by simp), ← xor_top hr, Nat.xor_assoc, Nat.xor_self, Nat.xor_zero]
  · simp only [h, decide_false, Bool.not_false, if_true]
    rw [if_neg (by simp)]
    exact xor_top hr

theorem F_lt (a p : Int) : F a p < 2 ^ 64 := by
  unfold F
  rw [nearest_word]
  exact (word_mod _ (nearest_lt a.natAbs p)).2

theorem F_add {a b p : Int} (ha : a.natAbs < 2 ^ 53) (hb : b.natAbs < 2 ^ 53) (h1 : -1022 ≤ p) (h2 : p ≤ 971) :
    Ieee.double.add (F a p) (F b p) = some (F (a + b) p) := by
  obtain ⟨i, _, hi, _, ei⟩ := read_F ha h1 h2
  obtain ⟨j, _, hj, _, ej⟩ := read_F hb h1 h2
  unfold Format.add
  rw [ei, ej]
  simp only [Datum.sum, Option.map_some, Format.write]
  rw [signed_val, signed_val]
  have e1 : (p - i).toNat + (i - min i j).toNat = (p - min i j).toNat := by omega
  have e2 : (p - j).toNat + (j - min i j).toNat = (p - min i j).toNat := by omega
  rw [e1, e2, ← Int.add_mul]
  rw [write_total]
  · congr 2
    omega
  · intro h
    simp only [Bool.and_eq_false_iff, decide_eq_false_iff_not]
    omega

theorem F_sub {a b p : Int} (ha : a.natAbs < 2 ^ 53) (hb : b.natAbs < 2 ^ 53) (h1 : -1022 ≤ p) (h2 : p ≤ 971) :
    Ieee.double.sub (F a p) (F b p) = some (F (a - b) p) := by
  obtain ⟨i, _, hi, _, ei⟩ := read_F ha h1 h2
  obtain ⟨j, _, hj, _, ej⟩ := read_F hb h1 h2
  unfold Format.sub
  rw [ei, ej]
  simp only [Datum.opposite, Datum.sum, Option.map_some, Format.write]
  rw [signed_val, signed_opp]
  have e1 : (p - i).toNat + (i - min i j).toNat = (p - min i j).toNat := by omega
  have e2 : (p - j).toNat + (j - min i j).toNat = (p - min i j).toNat := by omega
  rw [e1, e2, ← Int.add_mul]
  rw [write_total]
  · congr 2
    omega
  · intro h
    simp only [Bool.and_eq_false_iff, decide_eq_false_iff_not, Bool.not_eq_false', decide_eq_true_eq]
    omega

theorem F_mul {a b p q : Int} (ha : a.natAbs < 2 ^ 53) (hb : b.natAbs < 2 ^ 53) (h1 : -1022 ≤ p) (h2 : p ≤ 971) (h3 : -1022 ≤ q) (h4 : q ≤ 971)
    (hs : a = 0 → 0 ≤ b) (hs' : b = 0 → 0 ≤ a) :
    Ieee.double.mul (F a p) (F b q) = some (F (a * b) (p + q)) := by
  obtain ⟨i, _, hi, _, ei⟩ := read_F ha h1 h2
  obtain ⟨j, _, hj, _, ej⟩ := read_F hb h3 h4
  unfold Format.mul
  rw [ei, ej]
  simp only [Datum.product, Option.map_some, Format.write]
  have e0 : a.natAbs * 2 ^ (p - i).toNat * (b.natAbs * 2 ^ (q - j).toNat) = (a * b).natAbs * 2 ^ ((p - i).toNat + (q - j).toNat) := by
    rw [Int.natAbs_mul, Nat.pow_add]
    ac_rfl
  rw [e0, nearest_shift]
  unfold F
  have e1 : i + j + (((p - i).toNat + (q - j).toNat : Nat) : Int) = p + q := by omega
  rw [e1]
  congr 2
  by_cases ca : a < 0 <;> by_cases cb : b < 0
  · have := Int.mul_pos_of_neg_of_neg ca cb
    simp [ca, cb]; omega
  · have : b ≠ 0 := fun h => by have := hs' h; omega
    have := Int.mul_neg_of_neg_of_pos ca (by omega : 0 < b)
    simp [ca, cb]; omega
  · have : a ≠ 0 := fun h => by have := hs h; omega
    have := Int.mul_neg_of_pos_of_neg (by omega : 0 < a) cb
    simp [ca, cb]; omega
  · have := Int.mul_nonneg (by omega : 0 ≤ a) (by omega : 0 ≤ b)
    simp [ca, cb]; omega

theorem F_mul_zero {a p : Int} (ha : a.natAbs < 2 ^ 53) (h1 : -1022 ≤ p) (h2 : p ≤ 971) :
    Ieee.double.mul (F a p) 0 = some (if a < 0 then 2 ^ 63 else 0) := by
  obtain ⟨i, _, hi, _, ei⟩ := read_F ha h1 h2
  have hz : Ieee.double.read 0 = .number false 0 (-1074) := by decide +kernel
  unfold Format.mul
  rw [ei, hz]
  simp only [Datum.product, Option.map_some, Format.write, Nat.mul_zero]
  unfold Format.nearest Format.word
  rw [sw]
  by_cases h : a < 0 <;> simp [h]

theorem read_pow2 {q : Int} (h3 : -1022 ≤ q) (h4 : q ≤ 971) : Ieee.double.read (F 1 q) = .number false (2 ^ 52) (q - 52) := by
  unfold F
  have e : (1 : Int).natAbs = 1 := rfl
  have l1 : (1 : Nat).log2 = 0 := by decide
  rw [e, nearest_exact _ (by omega) (by rw [l1]; omega) h3 h4, l1]
  rw [read_word _ (by omega) (by omega) (by omega)]
  simp
  omega

theorem F_div_pow2 {a p q : Int} (ha : a.natAbs < 2 ^ 53) (h1 : -1022 ≤ p) (h2 : p ≤ 971) (h3 : -1022 ≤ q) (h4 : q ≤ 971) :
    Ieee.double.div (F a p) (F 1 q) = some (F a (p - q)) := by
  obtain ⟨i, _, hi, hlt, ei⟩ := read_F ha h1 h2
  unfold Format.div
  rw [ei, read_pow2 h3 h4]
  generalize hM : a.natAbs * 2 ^ (p - i).toNat = M at *
  have hl := log2_le hlt
  simp only [Datum.quotient, fb]
  have l52 : (2 ^ 52 : Nat).log2 = 52 := by decide +kernel
  rw [if_neg (by omega), l52]
  have hr : 52 ≤ 52 + 2 + 52 - M.log2 := by omega
  generalize hmore : 52 + 2 + 52 - M.log2 = more at *
  have e1 : M <<< more = M * 2 ^ (more - 52) * 2 ^ 52 := by
    rw [Nat.shiftLeft_eq, Nat.mul_assoc, ← Nat.pow_add]
    congr 2
    omega
  rw [e1, Nat.mul_div_cancel _ (Nat.two_pow_pos 52), Nat.mul_mod_left]
  simp only [Option.map_some, bne_self_eq_false, Bool.toNat_false, Nat.add_zero, Format.write]
  have e2 : 2 * (M * 2 ^ (more - 52)) = M * 2 ^ (more - 51) := by
    have : more - 51 = more - 52 + 1 := by omega
    rw [this, Nat.pow_succ]
    ac_rfl
  rw [e2, nearest_shift, ← hM, nearest_shift]
  unfold F
  congr 2
  · simp
  · omega

theorem F_order {a b p : Int} (ha : a.natAbs < 2 ^ 53) (hb : b.natAbs < 2 ^ 53) (h1 : -1022 ≤ p) (h2 : p ≤ 971) :
    Ieee.double.order (F a p) (F b p) = some (compare a b) := by
  obtain ⟨i, _, hi, _, ei⟩ := read_F ha h1 h2
  obtain ⟨j, _, hj, _, ej⟩ := read_F hb h1 h2
  unfold Format.order
  rw [ei, ej]
  simp only [Datum.order]
  rw [signed_val, signed_val]
  have e1 : (p - i).toNat + (i - min i j).toNat = (p - min i j).toNat := by omega
  have e2 : (p - j).toNat + (j - min i j).toNat = (p - min i j).toNat := by omega
  rw [e1, e2]
  have hk : (0 : Int) < 2 ^ (p - min i j).toNat := Int.pow_pos (by decide)
  congr 1
  simp only [compare, compareOfLessAndEq]
  have c1 : a * 2 ^ (p - min i j).toNat < b * 2 ^ (p - min i j).toNat ↔ a < b := Int.mul_lt_mul_right hk
  have c2 : a * 2 ^ (p - min i j).toNat = b * 2 ^ (p - min i j).toNat ↔ a = b := ⟨fun h => Int.eq_of_mul_eq_mul_right (by omega) h, fun h => by rw [h]⟩
  simp only [c1, c2]

theorem F_order' {a b p : Int} (k : Nat) (ha : a.natAbs < 2 ^ 53) (hb : b.natAbs < 2 ^ 53) (h1 : -1022 ≤ p) (h2 : p ≤ 971) (h3 : p + k ≤ 971) :
    Ieee.double.order (F a p) (F b (p + k)) = some (compare a (b * 2 ^ k)) := by
  obtain ⟨i, _, hi, _, ei⟩ := read_F ha h1 h2
  obtain ⟨j, _, hj, _, ej⟩ := read_F hb (by omega) h3
  unfold Format.order
  rw [ei, ej]
  simp only [Datum.order]
  rw [signed_val, signed_val]
  have e1 : (p - i).toNat + (i - min i j).toNat = (p - min i j).toNat := by omega
  have e2 : (p + k - j).toNat + (j - min i j).toNat = k + (p - min i j).toNat := by omega
  rw [e1, e2, Int.pow_add, ← Int.mul_assoc]
  have hk : (0 : Int) < 2 ^ (p - min i j).toNat := Int.pow_pos (by decide)
  congr 1
  simp only [compare, compareOfLessAndEq]
  have c1 : a * 2 ^ (p - min i j).toNat < b * 2 ^ k * 2 ^ (p - min i j).toNat ↔ a < b * 2 ^ k := Int.mul_lt_mul_right hk
  have c2 : a * 2 ^ (p - min i j).toNat = b * 2 ^ k * 2 ^ (p - min i j).toNat ↔ a = b * 2 ^ k := ⟨fun h => Int.eq_of_mul_eq_mul_right (by omega) h, fun h => by rw [h]⟩
  simp only [c1, c2]

/-- A number of quarters. -/
def Q (n : Int) : Nat := F n (-2)

theorem F_int (n : Int) : F n 0 = Q (4 * n) := by
  unfold Q
  have := F_shift n 2 (-2)
  rw [show ((-2 : Int) + (2 : Nat)) = 0 from rfl] at this
  rw [← this]
  congr 1
  omega

theorem Q_cut {n : Int} (hn : n.natAbs < 2 ^ 53) (way : Toward) :
    ((Ieee.double.read (Q n)).integral way) = .number (decide (n < 0)) (way.cut (decide (n < 0)) n.natAbs 2) 0 := by
  obtain ⟨i, hi0, hi, _, ei⟩ := read_F (p := -2) hn (by omega) (by omega)
  unfold Q
  rw [ei]
  simp only [Datum.integral]
  have e1 : i.toNat = 0 := by omega
  have e2 : (-i).toNat = 2 + (-2 - i).toNat := by omega
  rw [e1, e2, Nat.shiftLeft_eq, Nat.pow_zero, Nat.mul_one]
  by_cases h0 : n = 0
  · subst h0
    have hc : ∀ d, way.cut false 0 d = 0 := by
      intro d
      unfold Toward.cut
      cases way <;> simp
    simp [hc]
  · rw [cut_scale _ _ (by omega)]

theorem cut2 (way : Toward) (neg : Bool) (m : Nat) : way.cut neg m 2 = m / 4 + (match way with
    | .even => decide (4 < 2 * (m % 4)) || (4 == 2 * (m % 4) && m / 4 % 2 == 1)
    | .down => neg && m % 4 != 0
    | .up => !neg && m % 4 != 0
    | .zero => false).toNat := by
  unfold Toward.cut
  have : min 2 (m.log2 + 2) = 2 := by omega
  rw [this]
  rfl

theorem Q_floor {n : Int} (hn : n.natAbs < 2 ^ 53) : Ieee.double.write ((Ieee.double.read (Q n)).integral .down) = F (n / 4) 0 := by
  rw [Q_cut hn, cut2]
  simp only [Format.write]
  unfold F
  by_cases h : n < 0
  · have h' : n / 4 < 0 := by omega
    simp only [h, h', decide_true, Bool.true_and]
    congr 1
    by_cases c : n.natAbs % 4 = 0
    · simp [c]; omega
    · have : (n.natAbs % 4 != 0) = true := by simpa using c
      rw [this]
      simp; omega
  · have h' : ¬ n / 4 < 0 := by omega
    simp only [h, h', decide_false, Bool.false_and]
    congr 1
    simp; omega

theorem Q_trunc {n : Int} (hn : n.natAbs < 2 ^ 53) : (Ieee.double.read (Q n)).toInt .zero = some (n.tdiv 4) := by
  unfold Datum.toInt
  rw [Q_cut hn, cut2]
  simp only [Bool.toNat_false, Nat.add_zero]
  congr 1
  unfold signed
  rw [Nat.shiftLeft_eq, Nat.pow_zero, Nat.mul_one]
  by_cases h : n < 0
  · rw [if_pos (by simpa using h)]
    have : n = -(n.natAbs : Int) := by omega
    rw [this, Int.neg_tdiv, Int.natAbs_neg, Int.natAbs_natCast]
    rfl
  · rw [if_neg (by simpa using h)]
    have : n = (n.natAbs : Int) := by omega
    rw [this, Int.natAbs_natCast]
    rfl
end Go.Proofs.YtabjmoaijepdjaaDoor.Flt
