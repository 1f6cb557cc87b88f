/-
  Contracts of the scaling functions of internal/strconv, for exact powers of ten (lower word nought).
-/
import Derived.Test.YtiamghbefallkaaDoorRows
import Derived.Test.YtiamghbefallkaaDoorShelf
import Derived.WalkKit
import Derived.WalkLawsBesides
import Derived.ProofKit
import Derived.OpenShut
import Derived.Lib.Hide
import Derived.Laws.BitsAllLaws
import Derived.Deep.RegionWith
import Derived.Deep.QuietTactic
import Derived.BigQuiet
namespace Go.Proofs.YtiamghbefallkaaDoor.Usc
open Go.ChangeShapes Go.WideShapes Go.ChangeAt Go.RowKit

theorem ret_int {k : IntKind} {a b : Int} (h : a = b) : Ending.returned (.int k a) = .returned (.int k b) := by rw [h]

theorem log10Pow2_any (x : Int) (h1 : -100 ≤ x) (h2 : x ≤ 100) (w : World) : Calls Tryd.prog 27 #[.int .i64 x] w fun e w' => e = .returned (.int .i64 (x * 78913 / 262144)) ∧ w = w' := by
  go_enter Tryd.func27, Tryd.ntmps27
  go_wp2
  go_ret
  exact ⟨rfl, rfl⟩
theorem log2Pow10_any (x : Int) (h1 : -100 ≤ x) (h2 : x ≤ 100) (w : World) : Calls Tryd.prog 38 #[.int .i64 x] w fun e w' => e = .returned (.int .i64 (x * 108853 / 32768)) ∧ w = w' := by
  go_enter Tryd.func38, Tryd.ntmps38
  go_wp2
  go_ret
  exact ⟨rfl, rfl⟩
theorem skewed_any (x : Int) (h1 : -100 ≤ x) (h2 : x ≤ 100) (w : World) : Calls Tryd.prog 36 #[.int .i64 x] w fun e w' => e = .returned (.int .i64 ((x * 631305 - 261663) / 2097152)) ∧ w = w' := by
  go_enter Tryd.func36, Tryd.ntmps36
  go_wp2
  go_ret
  exact ⟨rfl, rfl⟩
theorem nudge_any (u x : Nat) (h1 : x < 2) (h2 : u < 2 ^ 62) (w : World) : Calls Tryd.prog 40 #[.int .u64 u, .int .i64 x] w fun e w' => e = .returned (.int .u64 ((u + x : Nat) : Int)) ∧ w = w' := by
  go_enter Tryd.func40, Tryd.ntmps40
  go_wp2
  go_ret
  exact ⟨ret_int (by simp), rfl⟩
theorem wrap_sub (u x : Nat) (h2 : u < 2 ^ 62) (h3 : x ≤ u) : IntKind.u64.wrap ((u : Int) + IntKind.u64.wrap (-(x : Int))) = ((u - x : Nat) : Int) := by
  simp only [IntKind.wrap, IntKind.signed, IntKind.bits]
  simp
  omega
theorem nudge_neg (u x : Nat) (h2 : u < 2 ^ 62) (h3 : x ≤ u) (w : World) : Calls Tryd.prog 40 #[.int .u64 u, .int .i64 (-(x : Int))] w fun e w' => e = .returned (.int .u64 ((u - x : Nat) : Int)) ∧ w = w' := by
  have H := Lib.hid (wrap_sub u x h2 h3)
  go_enter Tryd.func40, Tryd.ntmps40
  go_wp2
  go_ret
  exact ⟨ret_int H.out, rfl⟩
theorem ceil_any (u : Nat) (h2 : u < 2 ^ 63) (w : World) : Calls Tryd.prog 41 #[.int .u64 u] w fun e w' => e = .returned (.int .u64 (((u + 3) / 4 : Nat) : Int)) ∧ w = w' := by
  go_enter Tryd.func41, Tryd.ntmps41
  go_wp2
  go_ret
  exact ⟨ret_int (by omega), rfl⟩
theorem floor_any (u : Nat) (h2 : u < 2 ^ 63) (w : World) : Calls Tryd.prog 42 #[.int .u64 u] w fun e w' => e = .returned (.int .u64 ((u / 4 : Nat) : Int)) ∧ w = w' := by
  go_enter Tryd.func42, Tryd.ntmps42
  go_wp2
  go_ret
  exact ⟨ret_int (by omega), rfl⟩
theorem bool2_any (b : Bool) (w : World) : Calls Tryd.prog 57 #[.bool b] w fun e w' => e = .returned (.int .u64 (if b then 1 else 0)) ∧ w' = w := by
  cases b
  all_goals
    go_enter Tryd.func57, Tryd.ntmps57
    go_wp2
    go_ret
    exact ⟨rfl, rfl⟩

/-- The high word and the low word of a product. -/
def hw (x h : Nat) : Nat := x * h / 18446744073709551616
def lw (x h : Nat) : Nat := x * h % 18446744073709551616

theorem and63 (s : Nat) (hs : s < 64) : bits .and .i64 (s : Int) 63 = (s : Int) := by
  have : ∀ t : Fin 64, bits .and .i64 (t.val : Int) 63 = (t.val : Int) := by decide +kernel
  exact this ⟨s, hs⟩
theorem hw_lt {x h : Nat} (hx : x < 18446744073709551616) (hh : h < 18446744073709551616) : hw x h < 18446744073709551616 := by
  unfold hw
  have := Nat.mul_lt_mul_of_lt_of_lt hx hh
  omega
theorem lw_lt {x h : Nat} : lw x h < 18446744073709551616 := by unfold lw; omega

theorem cast_pow (a s : Nat) : (a : Int) / 2 ^ s = ((a / 2 ^ s : Nat) : Int) := by simp
theorem wrap_back {a : Nat} (s : Nat) (ha : a < 18446744073709551616) : IntKind.u64.wrap ((a : Int) / 2 ^ s * 2 ^ s) = ((a / 2 ^ s * 2 ^ s : Nat) : Int) := by
  have h1 : a / 2 ^ s * 2 ^ s ≤ a := Nat.div_mul_le_self _ _
  have e : (a : Int) / 2 ^ s * 2 ^ s = ((a / 2 ^ s * 2 ^ s : Nat) : Int) := by simp
  rw [e]
  generalize a / 2 ^ s * 2 ^ s = X at h1
  simp only [IntKind.wrap, IntKind.signed, IntKind.bits]
  simp
  omega

/-- What uscale gives where the lower word of the power is nought. -/
def usc (x h s : Nat) : Nat :=
  if hw x h / 2 ^ s * 2 ^ s ≠ hw x h then hw x h / 2 ^ s ||| 1 else hw x h / 2 ^ s ||| (if 1 < lw x h then 1 else 0)

theorem or_nat (a b : Nat) (ha : a < 18446744073709551616) (hb : b < 18446744073709551616) : bits .or .u64 (a : Int) (b : Int) = ((a ||| b : Nat) : Int) := by
  have := u64_or_nat a b ha hb
  exact this

set_option maxHeartbeats 400000 in
theorem uscale_dirty (x h s b : Nat) (hx : x < 18446744073709551616) (hh : h < 18446744073709551616) (hs : s < 64) (w : World)
    (c0 : w.cell? ⟨b, 0, none⟩ = some (.int .u64 h)) (c2 : w.cell? ⟨b, 2, none⟩ = some (.int .i64 s))
    (hd : hw x h / 2 ^ s * 2 ^ s ≠ hw x h) :
    Calls Tryd.prog 39 #[.int .u64 x, .pointer (some ⟨b, 0, none⟩)] w fun e w' => e = .returned (.int .u64 ((usc x h s : Nat) : Int)) ∧ w' = w := by
  have m1 := fun W => Tryd.bits_Mul64 x h hx hh W
  rw [show (x * h / 18446744073709551616 : Nat) = hw x h from rfl, show (x * h % 18446744073709551616 : Nat) = lw x h from rfl] at m1
  have M1 := Lib.hid m1
  clear m1
  have hand : bits .and .i64 (s : Int) 63 = (s : Int) := and63 s hs
  have ht : (IntKind.u64.wrap ((hw x h : Int) / 2 ^ s * 2 ^ s) != (hw x h : Int)) = true := by
    rw [wrap_back s (hw_lt hx hh)]
    simp only [bne_iff_ne, ne_eq]
    omega
  have hr : bits .or .u64 ((hw x h : Int) / 2 ^ s) 1 = ((usc x h s : Nat) : Int) := by
    have := Nat.div_le_self (hw x h) (2 ^ s)
    rw [cast_pow]
    have h2 := or_nat (hw x h / 2 ^ s) 1 (by have := hw_lt hx hh; omega) (by decide)
    unfold usc
    rw [if_pos hd]
    exact h2
  have HR := Lib.hid hr
  have hb1 := hw_lt hx hh
  clear hr hd
  go_enter Tryd.func39, Tryd.ntmps39
  go_wp2_with (first | (go_at_call 56; ((with_reducible refine (M1.out _).mono ?_); rintro e w' ⟨rfl, rfl⟩)))
  go_ret
  exact ⟨ret_int HR.out, rfl⟩

theorem mul_zero_at (x : Nat) (hx : x < 18446744073709551616) (W : World) :
    Calls Tryd.prog 56 #[.int .u64 x, .int .u64 0] W fun e w' => e = .returned (.tuple #[.int .u64 0, .int .u64 0]) ∧ w' = W := by
  have := Tryd.bits_Mul64 x 0 hx (by decide) W
  simpa using this

set_option maxHeartbeats 400000 in
theorem uscale_clean (x hi s b : Nat) (hx : x < 18446744073709551616) (hh : hi < 18446744073709551616) (hs : s < 64) (w : World)
    (c0 : w.cell? ⟨b, 0, none⟩ = some (.int .u64 hi)) (c1 : w.cell? ⟨b, 1, none⟩ = some (.int .u64 0)) (c2 : w.cell? ⟨b, 2, none⟩ = some (.int .i64 s))
    (hd : hw x hi / 2 ^ s * 2 ^ s = hw x hi) :
    Calls Tryd.prog 39 #[.int .u64 x, .pointer (some ⟨b, 0, none⟩)] w fun e w' => e = .returned (.int .u64 ((usc x hi s : Nat) : Int)) ∧ ∃ n, w' = w.drewN n := by
  have m1 := fun W => Tryd.bits_Mul64 x hi hx hh W
  rw [show (x * hi / 18446744073709551616 : Nat) = hw x hi from rfl, show (x * hi % 18446744073709551616 : Nat) = lw x hi from rfl] at m1
  have M1 := Lib.hid m1
  clear m1
  have M2 := Lib.hid (mul_zero_at x hx)
  have hand : bits .and .i64 (s : Int) 63 = (s : Int) := and63 s hs
  have ht : (IntKind.u64.wrap ((hw x hi : Int) / 2 ^ s * 2 ^ s) != (hw x hi : Int)) = false := by
    rw [wrap_back s (hw_lt hx hh)]
    simp only [bne_eq_false_iff_eq]
    omega
  have hb1 := hw_lt hx hh
  have hb2 : lw x hi < 18446744073709551616 := lw_lt
  have hu : usc x hi s = hw x hi / 2 ^ s ||| (if 1 < lw x hi then 1 else 0) := by
    unfold usc
    simp only [hd, ne_eq, not_true_eq_false, if_false]
  have HR : Hid (bits .or .u64 ((hw x hi : Int) / 2 ^ s) (if 1 < (lw x hi : Int) then 1 else 0) = ((usc x hi s : Nat) : Int)) := by
    refine Lib.hid ?_
    have := Nat.div_le_self (hw x hi) (2 ^ s)
    rw [cast_pow, hu]
    have h2 := or_nat (hw x hi / 2 ^ s) (if 1 < lw x hi then 1 else 0) (by omega) (by split <;> decide)
    rw [← h2]
    congr 1
    by_cases c : 1 < lw x hi
    · have c' : 1 < (lw x hi : Int) := by omega
      rw [if_pos c, if_pos c']; rfl
    · have c' : ¬ 1 < (lw x hi : Int) := by omega
      rw [if_neg c, if_neg c']; rfl
  clear hu
  clear hd
  go_enter Tryd.func39, Tryd.ntmps39
  go_wp2_with (first | (go_at_call 56; ((with_reducible refine (M1.out _).mono ?_); rintro e w' ⟨rfl, rfl⟩)) | (go_at_call 56; ((with_reducible refine (M2.out _).mono ?_); rintro e w' ⟨rfl, rfl⟩)) | (go_at_call 57; ((with_reducible refine (bool2_any _ _).mono ?_); rintro e w' ⟨rfl, rfl⟩)))
  go_quiet ((go_at_call 57; exact Calls.quiet_of_same (bool2_any _ _)))
  go_wp2
  all_goals
    go_ret
    exact ⟨ret_int (by have q := HR.out; first | rwa [if_pos (by assumption)] at q | rwa [if_neg (by omega)] at q), _, rfl⟩

/-- uscale, in short. -/
theorem uscale_any (x hi s b : Nat) (hx : x < 18446744073709551616) (hh : hi < 18446744073709551616) (hs : s < 64) (w : World)
    (c0 : w.cell? ⟨b, 0, none⟩ = some (.int .u64 hi)) (c1 : w.cell? ⟨b, 1, none⟩ = some (.int .u64 0)) (c2 : w.cell? ⟨b, 2, none⟩ = some (.int .i64 s)) :
    Calls Tryd.prog 39 #[.int .u64 x, .pointer (some ⟨b, 0, none⟩)] w fun e w' => e = .returned (.int .u64 ((usc x hi s : Nat) : Int)) ∧ ∃ n, w' = w.drewN n := by
  by_cases hd : hw x hi / 2 ^ s * 2 ^ s = hw x hi
  · exact uscale_clean x hi s b hx hh hs w c0 c1 c2 hd
  · exact (uscale_dirty x hi s b hx hh hs w c0 c2 hd).mono fun e w' ⟨he, hw'⟩ => ⟨he, 0, hw'⟩
end Go.Proofs.YtiamghbefallkaaDoor.Usc
