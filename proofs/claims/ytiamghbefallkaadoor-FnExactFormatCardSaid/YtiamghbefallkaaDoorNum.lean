/-
  The contracts of xpath.formatNumber and of impl.Format at quarters, out of that of strconv.FormatFloat.
-/
import Derived.Test.YtiamghbefallkaaDoorFmt
import Derived.Test.YtiamghbefallkaaDoorFlt
namespace Go.Proofs.YtiamghbefallkaaDoor.Num
open Go.ChangeShapes Go.WideShapes Go.ChangeAt Go.RowKit
open Go.Proofs.YtiamghbefallkaaDoor.Flt

theorem order_max {a : Int} (ha : a.natAbs < 2 ^ 53) : (FloatKind.f64.format.order (Q a) 9218868437227405311 == some .gt) = false := by
  have e : 9218868437227405311 = F (2 ^ 53 - 1) (-2 + (973 : Nat)) := by decide +kernel
  have h := F_order' (a := a) (b := 2 ^ 53 - 1) (p := -2) 973 ha (by decide) (by omega) (by omega) (by omega)
  have h' : FloatKind.f64.format.order (Q a) 9218868437227405311 = some (compare a ((2 ^ 53 - 1) * 2 ^ 973)) := by
    rw [e]; exact h
  rw [h']
  have hb : (2 ^ 53 : Int) ≤ (2 ^ 53 - 1) * 2 ^ 973 := by decide +kernel
  have : compare a ((2 ^ 53 - 1) * 2 ^ 973) = .lt := by
    simp only [compare, compareOfLessAndEq]
    rw [if_pos]
    generalize ((2 ^ 53 - 1) * 2 ^ 973 : Int) = X at hb ⊢
    omega
  rw [this]
  rfl

theorem eq_of {a : Int} (b : Int) {x : Nat} (hx : x = Q b) (ha : a.natAbs < 2 ^ 53) (hb : b.natAbs < 2 ^ 53) : (FloatKind.f64.format.order (Q a) x == some .eq) = decide (a = b) := by
  have h0 : FloatKind.f64.format.order (Q a) (Q b) = some (compare a b) := F_order ha hb (by omega) (by omega)
  rw [hx, h0]
  simp only [compare, compareOfLessAndEq]
  by_cases h : a < b
  · have : ¬ a = b := by omega
    simp [h, this]
  · by_cases h' : a = b
    · simp [h']
    · simp [h, h']

theorem nan_any {n : Int} (hn : n.natAbs < 2 ^ 53) (w : World) : Calls Tryd.prog 9 #[.float .f64 (Q n)] w fun e w' => e = .returned (.bool false) ∧ w = w' := by
  have h1 : (FloatKind.f64.format.order (Q n) (Q n) != some .eq) = false := by
    have := eq_of n (x := Q n) rfl hn hn
    simp only [decide_true] at this
    simp only [bne, this, Bool.not_true]
  go_enter Tryd.func9, Tryd.ntmps9
  go_wp2
  go_ret
  exact ⟨rfl, rfl⟩

theorem isinf_pos {n : Int} (hn : n.natAbs < 2 ^ 53) (w : World) : Calls Tryd.prog 10 #[.float .f64 (Q n), .int .i64 1] w fun e w' => e = .returned (.bool false) ∧ w = w' := by
  have h1 := order_max hn
  clear hn
  go_enter Tryd.func10, Tryd.ntmps10
  go_wp2
  go_ret
  exact ⟨rfl, rfl⟩

theorem neg_run {n : Int} (h0 : n ≠ 0) (w : World) : (Op.unary .neg (.float .f64 (Q n))).run Tryd.prog w = .ok (.float .f64 (Q (-n))) w := by
  have e : Op.negFloat .f64 (Q n) = Q (-n) := F_neg (-2) h0
  show Result.ok (Value.float .f64 (Op.negFloat .f64 (Q n))) w = _
  rw [e]

theorem isinf_neg {n : Int} (hn : n.natAbs < 2 ^ 53) (h0 : n ≠ 0) (w : World) : Calls Tryd.prog 10 #[.float .f64 (Q n), .int .i64 (-1)] w fun e w' => e = .returned (.bool false) ∧ w = w' := by
  have h1 := order_max (a := -n) (by omega)
  have h2 := neg_run h0
  clear hn h0
  go_enter Tryd.func10, Tryd.ntmps10
  go_wp2
  go_ret
  exact ⟨rfl, rfl⟩

theorem format_zero (w : World) : Calls Tryd.prog 5 #[.float .f64 (Q 0)] w fun e w' => e = .returned (.string ⟨#[48]⟩) ∧ Below w.heap.size w w' := by
  have h1 : (FloatKind.f64.format.order (Q 0) (Q 0) != some .eq) = false := by decide +kernel
  have h2 : (FloatKind.f64.format.order (Q 0) 0 == some .eq) = true := by decide +kernel
  have h3 : (FloatKind.f64.format.order (Q 0) 9218868437227405311 == some .gt) = false := by decide +kernel
  have h4 : ∀ w, (Op.unary .neg (.float .f64 (Q 0))).run Tryd.prog w = .ok (.float .f64 9223372036854775808) w := fun w => by kernel_rfl
  have h5 : (FloatKind.f64.format.order 9223372036854775808 9218868437227405311 == some .gt) = false := by decide +kernel
  go_enter Tryd.func5, Tryd.ntmps5
  go_wp2
  go_ret
  exact ⟨rfl, Below.refl _ _⟩

theorem format_any {n : Int} (hn : n.natAbs < 2 ^ 53) (h0 : n ≠ 0) (w : World) (s : ByteArray)
    (HF : Hid (Calls Tryd.prog 13 #[.float .f64 (Q n), .int .u8 102, .int .i64 (-1), .int .i64 64] w fun e w' => e = .returned (.string s) ∧ Below w.heap.size w w')) :
    Calls Tryd.prog 5 #[.float .f64 (Q n)] w fun e w' => e = .returned (.string s) ∧ Below w.heap.size w w' := by
  have h2 : (FloatKind.f64.format.order (Q n) 0 == some .eq) = false := by
    rw [eq_of 0 (show 0 = Q 0 by rw [Q, F_zero]) hn (by decide)]
    simpa using h0
  have HN := Lib.hid hn
  have H0 := Lib.hid h0
  clear hn h0
  go_enter Tryd.func5, Tryd.ntmps5
  go_wp2_with (first
    | (go_at_call 9; refine (nan_any HN.out _).mono ?_; rintro e w1 ⟨rfl, rfl⟩)
    | (go_at_call 10; ((with_reducible refine (isinf_pos HN.out _).mono ?_); rintro e w1 ⟨rfl, rfl⟩))
    | (go_at_call 10; ((with_reducible refine (isinf_neg HN.out H0.out _).mono ?_); rintro e w1 ⟨rfl, rfl⟩))
    | (go_at_call 13; refine HF.out.mono ?_; rintro e w1 ⟨rfl, hb⟩)
    | go_in)
  go_ret
  exact ⟨rfl, by assumption⟩
end Go.Proofs.YtiamghbefallkaaDoor.Num
