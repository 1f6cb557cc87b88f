/-
  The statement FnExactRoundSaid is proved. No condition beyond the statement's own.
-/
import Derived.Test.YtjlkoedhgegeoaaRows
import Derived.Test.YtjlkoedhgegeoaaFlt
import Derived.WalkKit
import Derived.WalkLawsBesides
import Derived.ProofKit
import Derived.OpenShut
import Derived.Lib.Hide
import Derived.Deep.RegionWith
import Derived.Laws.Externs
import Derived.Laws.BitsAllLaws
namespace Go.Proofs.Ytjlkoedhgegeoaa.Rnd
open Go.ChangeShapes Go.WideShapes Go.ChangeAt Go.RowKit
open Go.Proofs.Ytjlkoedhgegeoaa.Flt
theorem run_bits (b : Nat) (w : World) : (callFunc 22 #[.float .f64 b]).run Try.prog w = .ok (.value (.int .u64 b)) w := by
  rw [run_callFunc_extern (fn := Try.f22) (e := Extern.MathFloatBits.float64bits) Try.func22 (by kernel_rfl) (by kernel_rfl) (by kernel_rfl) (by kernel_rfl)]
  rfl
theorem run_from (n : Int) (w : World) : (callFunc 21 #[.int .u64 n]).run Try.prog w = .ok (.value (.float .f64 n.toNat)) w := by
  rw [run_callFunc_extern (fn := Try.f21) (e := Extern.MathFloatBits.float64frombits) Try.func21 (by kernel_rfl) (by kernel_rfl) (by kernel_rfl) (by kernel_rfl)]
  rfl
section
attribute [local irreducible] FloatKind.decode FloatKind.encode
theorem integral_at (name : String) (way : Ieee.Toward) (x : Nat) {s : Bool} {m : Nat} {i : Int} (h : FloatKind.f64.decode x = .number s m i) :
    Extern.MathFloor.toIntegral name way #[.float .f64 x] = pure (.float .f64 (FloatKind.f64.encode ((FloatKind.f64.decode x).integral way))) := by
  have hg : ∃ g : Bool → Nat → Sem Value, Extern.MathFloor.toIntegral name way #[.float .f64 x] = (match FloatKind.f64.decode x with
      | .nan s t => g s t
      | d => pure (.float .f64 (FloatKind.f64.encode (d.integral way)))) := ⟨_, rfl⟩
  obtain ⟨g, hg⟩ := hg
  rw [hg, h]

end
theorem run_floor {n : Int} (hn : n.natAbs < 2 ^ 53) (w : World) : (callFunc 17 #[.float .f64 (Q n)]).run Try.prog w = .ok (.value (.float .f64 (F (n / 4) 0))) w := by
  rw [run_callFunc_extern (fn := Try.f17) (e := Extern.MathFloor.toIntegral "math.archFloor" .down) Try.func17 (by kernel_rfl) (by kernel_rfl) (by kernel_rfl) (by kernel_rfl)]
  obtain ⟨i, _, _, _, ei⟩ := read_F (p := -2) hn (by omega) (by omega)
  have he : FloatKind.f64.encode ((FloatKind.f64.decode (Q n)).integral .down) = F (n / 4) 0 := Q_floor hn
  rw [integral_at _ _ _ (show FloatKind.f64.decode (Q n) = _ from ei), he]
  rfl

theorem andNot_top (b : Nat) (hb : b < 2 ^ 64) : (bits BinOp.andNot IntKind.u64 (b : Int) 9223372036854775808).toNat = b % 2 ^ 63 := by
  have := u64_andNot_nat b 9223372036854775808 (by omega) (by omega)
  rw [show ((9223372036854775808 : Nat) : Int) = 9223372036854775808 from rfl] at this
  rw [this, Int.toNat_natCast]
  have e : 18446744073709551615 - 9223372036854775808 = 2 ^ 63 - 1 := by decide
  rw [e, Nat.and_two_pow_sub_one_eq_mod]

theorem abs_any (a p : Int) (w : World) : Calls Try.prog 19 #[.float .f64 (F a p)] w fun e w' => e = .returned (.float .f64 (F (a.natAbs : Int) p)) ∧ w = w' := by
  have h1 := run_bits (F a p)
  have h2 := run_from
  have h3 : (bits BinOp.andNot IntKind.u64 ((F a p : Nat) : Int) 9223372036854775808).toNat = F (a.natAbs : Int) p := by
    rw [andNot_top _ (F_lt a p), F_abs]
  have h4 := Lib.hid h3
  clear h3
  go_enter Try.func19, Try.ntmps19
  go_wp2
  go_ret
  exact ⟨congrArg (fun x => Ending.returned (Value.float .f64 x)) h4.out, rfl⟩

theorem floor_any {n : Int} (hn : n.natAbs < 2 ^ 53) (w : World) : Calls Try.prog 14 #[.float .f64 (Q n)] w fun e w' => e = .returned (.float .f64 (F (n / 4) 0)) ∧ w = w' := by
  have h1 := run_floor hn
  go_enter Try.func14, Try.ntmps14
  go_wp2
  go_ret
  exact ⟨rfl, rfl⟩

theorem order_max {a : Int} (ha : a.natAbs < 2 ^ 53) : (FloatKind.f64.format.order (Q a) 9218868437227405311 == some .gt) = false := by
  have e : 9218868437227405311 = F (2 ^ 53 - 1) (-2 + (973 : Nat)) := by decide +kernel
  have h := F_order' (a := a) (b := 2 ^ 53 - 1) (p := -2) 973 ha (by decide) (by omega) (by omega) (by omega)
  have h' : FloatKind.f64.format.order (Q a) 9218868437227405311 = some (compare a ((2 ^ 53 - 1) * 2 ^ 973)) := by
    rw [e]; exact h
  rw [h']
  have hb : (2 ^ 53 : Int) ≤ (2 ^ 53 - 1) * 2 ^ 973 := by decide +kernel
  have : compare a ((2 ^ 53 - 1) * 2 ^ 973) = .lt := by
    simp only [compare, compareOfLessAndEq]
    rw [if_pos]
    generalize ((2 ^ 53 - 1) * 2 ^ 973 : Int) = X at hb ⊢
    omega
  rw [this]
  rfl

theorem isinf_any {n : Int} (hn : n.natAbs < 2 ^ 53) (w : World) : Calls Try.prog 16 #[.float .f64 (Q n), .int .i64 0] w fun e w' => e = .returned (.bool false) ∧ w = w' := by
  have h1 : (FloatKind.f64.format.order (F (n.natAbs : Int) (-2)) 9218868437227405311 == some .gt) = false := order_max (a := (n.natAbs : Int)) (by rw [Int.natAbs_natCast]; exact hn)
  go_enter Try.func16, Try.ntmps16
  go_wp2_with (go_at_call 19; refine (abs_any n (-2) _).mono ?_; rintro e w' ⟨rfl, rfl⟩)
  go_ret
  exact ⟨rfl, rfl⟩

theorem nan_any {n : Int} (hn : n.natAbs < 2 ^ 53) (w : World) : Calls Try.prog 15 #[.float .f64 (Q n)] w fun e w' => e = .returned (.bool false) ∧ w = w' := by
  have h0 : FloatKind.f64.format.order (Q n) (Q n) = some (compare n n) := F_order hn hn (by omega) (by omega)
  have h1 : (FloatKind.f64.format.order (Q n) (Q n) != some .eq) = false := by
    rw [h0]
    simp [compare, compareOfLessAndEq]
  clear h0
  go_enter Try.func15, Try.ntmps15
  go_wp2
  go_ret
  exact ⟨rfl, rfl⟩

theorem lt_of {a : Int} (b : Int) {x : Nat} (hx : x = Q b) (ha : a.natAbs < 2 ^ 53) (hb : b.natAbs < 2 ^ 53) : (FloatKind.f64.format.order (Q a) x == some .lt) = decide (a < b) := by
  have h0 : FloatKind.f64.format.order (Q a) (Q b) = some (compare a b) := F_order ha hb (by omega) (by omega)
  rw [hx, h0]
  simp only [compare, compareOfLessAndEq]
  by_cases h : a < b
  · simp [h]
  · by_cases h' : a = b
    · simp [h']
    · simp [h, h']

theorem ge_of {a : Int} (b : Int) {x : Nat} (hx : x = Q b) (ha : a.natAbs < 2 ^ 53) (hb : b.natAbs < 2 ^ 53) : (FloatKind.f64.format.order (Q a) x == some .gt || FloatKind.f64.format.order (Q a) x == some .eq) = decide (b ≤ a) := by
  have h0 : FloatKind.f64.format.order (Q a) (Q b) = some (compare a b) := F_order ha hb (by omega) (by omega)
  rw [hx, h0]
  simp only [compare, compareOfLessAndEq]
  by_cases h : a < b
  · have : ¬ b ≤ a := by omega
    simp [h, this]
  · by_cases h' : a = b
    · simp [h']
    · have : b ≤ a := by omega
      simp [h, h', this]

def zero (n : Int) : Nat := if n < 0 then 2 ^ 63 else 0

theorem mid : 13826050856027422720 = Q (-2) := by decide +kernel
theorem midp : 4602678819172646912 = Q 2 := by decide +kernel

theorem round_in {n : Int} (h1 : -2 ≤ n) (h2 : n < 2) (w : World) : Calls Try.prog 13 #[.float .f64 (Q n)] w fun e w' => e = .returned (.float .f64 (zero n)) ∧ w = w' := by
  have hn : n.natAbs < 2 ^ 53 := by omega
  have f1 : (FloatKind.f64.format.order (Q n) 13826050856027422720 == some .gt || FloatKind.f64.format.order (Q n) 13826050856027422720 == some .eq) = true := by
    rw [ge_of (-2) mid hn (by decide)]; simpa using h1
  have f2 : (FloatKind.f64.format.order (Q n) 4602678819172646912 == some .lt) = true := by
    rw [lt_of 2 midp hn (by decide)]; simpa using h2
  have f3 : ∀ w, (binOp .mul 22 (.float .f64 (Q n)) (.float .f64 0)).run Try.prog w = .ok (.float .f64 (zero n)) w :=
    fun w => run_float_arith w .mul 22 .f64 (Q n) 0 (zero n) (F_mul_zero hn (by omega) (by omega))
  have H := Lib.hid hn
  clear hn h1 h2
  go_enter Try.func13, Try.ntmps13
  go_wp2_with (first | (go_at_call 15; refine (nan_any H.out _).mono ?_; rintro e w' ⟨rfl, rfl⟩) | (go_at_call 16; refine (isinf_any H.out _).mono ?_; rintro e w' ⟨rfl, rfl⟩))
  go_ret
  exact ⟨rfl, rfl⟩

theorem F_int_lt {n : Int} (hn : n.natAbs < 2 ^ 50) : (4 * (n / 4)).natAbs < 2 ^ 53 := by omega

theorem sub_floor {n : Int} (hn : n.natAbs < 2 ^ 50) : Ieee.double.sub (Q n) (F (n / 4) 0) = some (Q (n % 4)) := by
  rw [F_int]
  have := F_sub (a := n) (b := 4 * (n / 4)) (p := -2) (by omega) (F_int_lt hn) (by omega) (by omega)
  rw [show n - 4 * (n / 4) = n % 4 by omega] at this
  exact this

theorem add_one {n : Int} (hn : n.natAbs < 2 ^ 50) : Ieee.double.add (F n 0) 4607182418800017408 = some (F (n + 1) 0) := by
  have e : 4607182418800017408 = F 1 0 := by decide +kernel
  rw [e]
  exact F_add (by omega) (by decide) (by omega) (by omega)

theorem round_up {n : Int} (hn : n.natAbs < 2 ^ 50) (hr : 2 ≤ n % 4) (hc : (decide (-2 ≤ n) && decide (n < 2)) = false) (w : World) :
    Calls Try.prog 13 #[.float .f64 (Q n)] w fun e w' => e = .returned (.float .f64 (F ((n + 2) / 4) 0)) ∧ w = w' := by
  have hn' : n.natAbs < 2 ^ 53 := by omega
  have f1 : (FloatKind.f64.format.order (Q n) 13826050856027422720 == some .gt || FloatKind.f64.format.order (Q n) 13826050856027422720 == some .eq) = decide (-2 ≤ n) :=
    ge_of (-2) mid hn' (by decide)
  have f2 : (FloatKind.f64.format.order (Q n) 4602678819172646912 == some .lt) = decide (n < 2) := lt_of 2 midp hn' (by decide)
  have f3 : ∀ w, (binOp .sub 22 (.float .f64 (Q n)) (.float .f64 (F (n / 4) 0))).run Try.prog w = .ok (.float .f64 (Q (n % 4))) w :=
    fun w => run_float_arith w .sub 22 .f64 _ _ _ (sub_floor hn)
  have f4 : (FloatKind.f64.format.order (Q (n % 4)) 4602678819172646912 == some .gt || FloatKind.f64.format.order (Q (n % 4)) 4602678819172646912 == some .eq) = true := by
    rw [ge_of 2 midp (by omega) (by decide)]; simpa using hr
  have f5 : ∀ w, (binOp .add 22 (.float .f64 (F (n / 4) 0)) (.float .f64 4607182418800017408)).run Try.prog w = .ok (.float .f64 (F ((n + 2) / 4) 0)) w := by
    have e : (n + 2) / 4 = n / 4 + 1 := by omega
    rw [e]
    exact fun w => run_float_arith w .add 22 .f64 _ _ _ (add_one (by omega))
  have H := Lib.hid hn'
  clear hn hn' hr
  cases c1 : decide (-2 ≤ n) <;> cases c2 : decide (n < 2)
  all_goals rw [c1] at f1 hc; rw [c2] at f2 hc; first | (cases hc; done) | skip
  all_goals
    clear hc c1 c2
    go_enter Try.func13, Try.ntmps13
    go_wp2_with (first | (go_at_call 15; refine (nan_any H.out _).mono ?_; rintro e w' ⟨rfl, rfl⟩) | (go_at_call 16; refine (isinf_any H.out _).mono ?_; rintro e w' ⟨rfl, rfl⟩) | (go_at_call 14; refine (floor_any H.out _).mono ?_; rintro e w' ⟨rfl, rfl⟩))
    go_ret
    exact ⟨rfl, rfl⟩

theorem round_down {n : Int} (hn : n.natAbs < 2 ^ 50) (hr : n % 4 < 2) (hc : (decide (-2 ≤ n) && decide (n < 2)) = false) (w : World) :
    Calls Try.prog 13 #[.float .f64 (Q n)] w fun e w' => e = .returned (.float .f64 (F ((n + 2) / 4) 0)) ∧ w = w' := by
  have hn' : n.natAbs < 2 ^ 53 := by omega
  have f1 : (FloatKind.f64.format.order (Q n) 13826050856027422720 == some .gt || FloatKind.f64.format.order (Q n) 13826050856027422720 == some .eq) = decide (-2 ≤ n) :=
    ge_of (-2) mid hn' (by decide)
  have f2 : (FloatKind.f64.format.order (Q n) 4602678819172646912 == some .lt) = decide (n < 2) := lt_of 2 midp hn' (by decide)
  have f3 : ∀ w, (binOp .sub 22 (.float .f64 (Q n)) (.float .f64 (F (n / 4) 0))).run Try.prog w = .ok (.float .f64 (Q (n % 4))) w :=
    fun w => run_float_arith w .sub 22 .f64 _ _ _ (sub_floor hn)
  have f4 : (FloatKind.f64.format.order (Q (n % 4)) 4602678819172646912 == some .gt || FloatKind.f64.format.order (Q (n % 4)) 4602678819172646912 == some .eq) = false := by
    rw [ge_of 2 midp (by omega) (by decide)]; simpa using hr
  have e : (n + 2) / 4 = n / 4 := by omega
  rw [e]
  have H := Lib.hid hn'
  clear hn hn' hr e
  cases c1 : decide (-2 ≤ n) <;> cases c2 : decide (n < 2)
  all_goals rw [c1] at f1 hc; rw [c2] at f2 hc; first | (cases hc; done) | skip
  all_goals
    clear hc c1 c2
    go_enter Try.func13, Try.ntmps13
    go_wp2_with (first | (go_at_call 15; refine (nan_any H.out _).mono ?_; rintro e w' ⟨rfl, rfl⟩) | (go_at_call 16; refine (isinf_any H.out _).mono ?_; rintro e w' ⟨rfl, rfl⟩) | (go_at_call 14; refine (floor_any H.out _).mono ?_; rintro e w' ⟨rfl, rfl⟩))
    go_ret
    exact ⟨rfl, rfl⟩

/-- What the package's rounding gives of a number of quarters. -/
def rnd (n : Int) : Nat := if (decide (-2 ≤ n) && decide (n < 2)) = true then zero n else F ((n + 2) / 4) 0

theorem round_any {n : Int} (hn : n.natAbs < 2 ^ 50) (w : World) : Calls Try.prog 13 #[.float .f64 (Q n)] w fun e w' => e = .returned (.float .f64 (rnd n)) ∧ w = w' := by
  unfold rnd
  by_cases hc : (decide (-2 ≤ n) && decide (n < 2)) = true
  · rw [if_pos hc]
    simp only [Bool.and_eq_true, decide_eq_true_eq] at hc
    exact round_in hc.1 hc.2 w
  · rw [if_neg hc]
    by_cases hr : 2 ≤ n % 4
    · exact round_up hn hr (by simpa using hc) w
    · exact round_down hn (by omega) (by simpa using hc) w

theorem impl_any {n : Int} (hn : n.natAbs < 2 ^ 50) (w : World) : Calls Try.prog 7 #[.float .f64 (Q n)] w fun e w' => e = .returned (.float .f64 (rnd n)) ∧ w = w' := by
  have H := Lib.hid hn
  clear hn
  go_enter Try.func7, Try.ntmps7
  go_wp2_with (first | (go_at_call 13; refine (round_any H.out _).mono ?_; rintro e w' ⟨rfl, rfl⟩) | go_in)
  go_ret
  exact ⟨rfl, rfl⟩

theorem half_any {n : Int} (hn : n.natAbs < 2 ^ 50) (w : World) : Calls Try.prog 8 #[.float .f64 (Q n)] w fun e w' => e = .returned (.float .f64 (F ((n + 2) / 4) 0)) ∧ w = w' := by
  have e2 : Ieee.double.add (Q n) 4602678819172646912 = some (Q (n + 2)) := by
    rw [midp]
    exact F_add (by omega) (by decide) (by omega) (by omega)
  have f1 : ∀ w, (binOp .add 22 (.float .f64 (Q n)) (.float .f64 4602678819172646912)).run Try.prog w = .ok (.float .f64 (Q (n + 2))) w :=
    fun w => run_float_arith w .add 22 .f64 _ _ _ e2
  have h2 : (n + 2).natAbs < 2 ^ 53 := by omega
  have H := Lib.hid h2
  clear hn h2 e2
  go_enter Try.func8, Try.ntmps8
  go_wp2_with (first | (go_at_call 14; refine (floor_any H.out _).mono ?_; rintro e w' ⟨rfl, rfl⟩) | go_in)
  go_ret
  exact ⟨rfl, rfl⟩

theorem same {n : Int} (hn : n.natAbs < 2 ^ 50) : (FloatKind.f64.format.order (rnd n) (F ((n + 2) / 4) 0) == some .eq) = true := by
  have h0 : FloatKind.f64.format.order (F ((n + 2) / 4) 0) (F ((n + 2) / 4) 0) = some (compare ((n + 2) / 4) ((n + 2) / 4)) := F_order (by omega) (by omega) (by omega) (by omega)
  unfold rnd
  by_cases hc : (decide (-2 ≤ n) && decide (n < 2)) = true
  · rw [if_pos hc]
    simp only [Bool.and_eq_true, decide_eq_true_eq] at hc
    have e : (n + 2) / 4 = 0 := by omega
    rw [e, F_zero]
    unfold zero
    by_cases h : n < 0
    · rw [if_pos h]; decide +kernel
    · rw [if_neg h]; decide +kernel
  · rw [if_neg hc, h0]
    simp [compare, compareOfLessAndEq]

theorem rnd9 : rnd 9 = 4611686018427387904 := by decide +kernel
theorem q9 : 4612248968380809216 = Q 9 := by decide +kernel

theorem impl_const (w : World) : Calls Try.prog 7 #[.float .f64 4612248968380809216] w fun e w' => e = .returned (.float .f64 4611686018427387904) ∧ w = w' := by
  have := impl_any (n := 9) (by decide) w
  rw [← q9, rnd9] at this
  exact this

theorem two_two : (FloatKind.f64.format.order 4611686018427387904 4611686018427387904 == some .eq) = true := by decide +kernel

theorem within_yes {n : Int} (h1 : -1099511627776 ≤ n) (h2 : n ≤ 1099511627776) (w : World) :
    Calls Try.prog 6 #[.int .i64 n, .int .i64 (-1099511627776), .int .i64 1099511627776] w fun e w' => e = .returned (.bool true) ∧ w = w' := by
  have d1 : decide (-1099511627776 ≤ n) = true := by simpa using h1
  have d2 : decide (n ≤ 1099511627776) = true := by simpa using h2
  go_enter Try.func6, Try.ntmps6
  go_wp2
  all_goals (go_ret; exact ⟨by first | rfl | simp [*], rfl⟩)

theorem within_no {n : Int} (h : n < -1099511627776 ∨ 1099511627776 < n) (w : World) :
    Calls Try.prog 6 #[.int .i64 n, .int .i64 (-1099511627776), .int .i64 1099511627776] w fun e w' => e = .returned (.bool false) ∧ w = w' := by
  by_cases h1 : -1099511627776 ≤ n
  · have d1 : decide (-1099511627776 ≤ n) = true := by simpa using h1
    have d2 : decide (n ≤ 1099511627776) = false := by simp; omega
    clear h h1
    go_enter Try.func6, Try.ntmps6
    go_wp2
    all_goals (go_ret; exact ⟨by first | rfl | simp [*], rfl⟩)
  · have d1 : decide (-1099511627776 ≤ n) = false := by simp; omega
    clear h h1
    go_enter Try.func6, Try.ntmps6
    go_wp2
    all_goals (go_ret; exact ⟨by first | rfl | simp [*], rfl⟩)

theorem law_out (n : Int) (w : World) (h : n < -1099511627776 ∨ 1099511627776 < n) : Calls Try.prog 4 #[.int .i64 n] w fun e w' => e = .returned (.bool true) ∧ w = w' := by
  have t2 := two_two
  have H := Lib.hid h
  clear h
  go_enter Try.func4, Try.ntmps4
  go_wp2_with (first | (go_at_call 7; refine (impl_const _).mono ?_; rintro e w' ⟨rfl, rfl⟩) | (go_at_call 6; refine (within_no H.out _).mono ?_; rintro e w' ⟨rfl, rfl⟩))
  go_ret
  exact ⟨rfl, rfl⟩

theorem q_of {n : Int} (hn : n.natAbs < 2 ^ 50) : Ieee.double.div (floatOfInt .f64 n) 4616189618054758400 = some (Q n) := by
  have e : 4616189618054758400 = F 1 2 := by decide +kernel
  rw [e]
  exact F_div_pow2 (a := n) (p := 0) (q := 2) (by omega) (by omega) (by omega) (by omega) (by omega)

theorem law_in (n : Int) (w : World) (h1 : -1099511627776 ≤ n) (h2 : n ≤ 1099511627776) : Calls Try.prog 4 #[.int .i64 n] w fun e w' => e = .returned (.bool true) ∧ w = w' := by
  have hn : n.natAbs < 2 ^ 50 := by omega
  have t2 := two_two
  have s1 := same hn
  have f1 : ∀ w, (binOp .quo 22 (.float .f64 (floatOfInt .f64 n)) (.float .f64 4616189618054758400)).run Try.prog w = .ok (.float .f64 (Q n)) w :=
    fun w => run_float_arith w .quo 22 .f64 _ _ _ (q_of hn)
  have H := Lib.hid hn
  have G := Lib.hid (And.intro h1 h2)
  clear hn h1 h2
  go_enter Try.func4, Try.ntmps4
  go_wp2_with (first | (go_at_call_of 7 (Value.float .f64 4612248968380809216); refine (impl_const _).mono ?_; rintro e w' ⟨rfl, rfl⟩) | (go_at_call 7; refine (impl_any H.out _).mono ?_; rintro e w' ⟨rfl, rfl⟩) | (go_at_call 8; refine (half_any H.out _).mono ?_; rintro e w' ⟨rfl, rfl⟩) | (go_at_call 6; refine (within_yes G.out.1 G.out.2 _).mono ?_; rintro e w' ⟨rfl, rfl⟩))
  go_ret
  exact ⟨rfl, rfl⟩

theorem law_any (n : Int) (w : World) : Calls Try.prog 4 #[.int .i64 n] w fun e w' => e = .returned (.bool true) ∧ w' = w := by
  by_cases h : -1099511627776 ≤ n ∧ n ≤ 1099511627776
  · exact (law_in n w h.1 h.2).mono fun _ _ ⟨he, hw⟩ => ⟨he, hw.symm⟩
  · exact (law_out n w (by omega)).mono fun _ _ ⟨he, hw⟩ => ⟨he, hw.symm⟩

theorem own : ownKnob Try.prog.godebug = none := by kernel_rfl

set_option maxRecDepth 100000 in
theorem lifted (os : Os) (started : os.Started) (H : Type) (enc : TypeId × Value → H) :
    ReturnsInHanded {} Try.checked os 4 .any (Rows.fnExactRoundSpec.pre6 enc Try.prog Try.f4 Rows.fnExactRoundRow.domain false) (Rows.fnExactRoundSpec.post enc Try.prog Try.f4 false true false false) := by
  refine returnsInHanded_of_change (C := Try.checked) own started (by kernel_rfl) Try.func4
    (ChangeSpec.witness6 (enc := enc) (C := Try.checked) false ⟨#[], #[.int .i64 0], []⟩ 8 (by kernel_rfl) (by kernel_rfl) (by kernel_rfl) (by kernel_rfl)) ?_
  intro W base args ds gs before hval0 hW hcnd _
  have hval : ∀ (j : Nat) t v, Try.f4.params[j]? = some t → args[j]? = some v → Value.okWide Try.prog W .any base t v := hval0
  have hW' := hW
  obtain ⟨p, q, hA0, hV, rfl, hfz, hnd⟩ := hW
  have hA : DataW.TrodAll enc Try.prog W 0 (fun _ => true) true Try.f4.params.toList args.toList ds p := hA0
  rw [Try.params4] at hA hval
  obtain ⟨v0, d0, rfl, rfl, h0⟩ := trodAll_one hA
  obtain ⟨rfl, rfl⟩ := trodVars_none hV
  obtain ⟨n, rfl, rfl, rfl, wn⟩ := open_int Try.underlying3 (hval 0 3 v0 rfl rfl) h0
  clear hA0 hval0
  simp only [List.append_nil] at hW'
  refine (law_any n W).mono fun e W' ⟨he, hw⟩ => ?_
  subst he; subst hw
  exact ⟨_, rfl, post_of_same (pa := []) (pv := []) hW' (fun _ _ _ => trodAll_mk1 (shut_bool Try.underlying4 _)) (fun sp _ => trodAll_mk1 (shut_int Try.underlying3 wn)) (fun _ _ => rfl) rfl
    (World.keptBut_refl _ _) (fun _ => rfl) (ok_one (by kernel_rfl) rfl (okWide_bool_mk Try.underlying4 _))⟩

theorem round_holds : Rows.FnExactRoundSaid :=
  OpenClaim.holds_of_wide 4 Try.f4 rfl rfl rfl rfl rfl rfl rfl ⟨rfl, rfl, rfl, rfl, rfl⟩ rfl rfl rfl rfl rfl (by kernel_rfl) Try.func4 (by kernel_rfl)
    (of_decide_eq_true (by kernel_rfl)) (by unfold Func.isWrapper; first | (rw [if_pos (by decide +kernel)]; kernel_rfl) | (rw [if_neg (by decide +kernel)]; exact ⟨rfl, rfl⟩))
    (fun os started H enc _ => lifted os started H enc)
#print axioms round_holds
end Go.Proofs.Ytjlkoedhgegeoaa.Rnd
