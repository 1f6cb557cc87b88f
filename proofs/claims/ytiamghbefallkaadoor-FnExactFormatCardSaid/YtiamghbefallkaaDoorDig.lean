/-
  The contract of spec.Digits at quarters.
-/
import Derived.Test.YtiamghbefallkaaDoorJoi
namespace Go.Proofs.YtiamghbefallkaaDoor.Dig
open Go.ChangeShapes Go.WideShapes Go.ChangeAt Go.RowKit
open Go.Proofs.YtiamghbefallkaaDoor.Flt Go.Proofs.YtiamghbefallkaaDoor.Joi Go.Proofs.YtiamghbefallkaaDoor.Num

theorem mul_four {n : Int} (hn : n.natAbs < 2 ^ 53) : Ieee.double.mul (Q n) 4616189618054758400 = some (F n 0) := by
  have e : 4616189618054758400 = F 1 2 := by decide +kernel
  rw [e]
  have := F_mul (a := n) (b := 1) (p := -2) (q := 2) hn (by decide) (by omega) (by omega) (by omega) (by omega) (by omega) (by omega)
  rw [Int.mul_one] at this
  exact this

theorem div_four {n : Int} (hn : n.natAbs < 2 ^ 53) : Ieee.double.div (F n 0) 4616189618054758400 = some (Q n) := by
  have e : 4616189618054758400 = F 1 2 := by decide +kernel
  rw [e]
  exact F_div_pow2 (a := n) (p := 0) (q := 2) hn (by omega) (by omega) (by omega) (by omega)

theorem to_int {n : Int} (hn : n.natAbs < 2 ^ 50) : floatToIntVal .f64 (F n 0) .i64 = some n := by
  have h := Q_trunc (n := 4 * n) (by omega)
  rw [← F_int] at h
  have h' : (FloatKind.f64.decode (F n 0)).toInt .zero = some n := by
    show (Ieee.double.read (F n 0)).toInt .zero = some n
    rw [h, Int.mul_tdiv_cancel_left _ (by decide)]
  unfold floatToIntVal
  rw [h']
  simp only [IntKind.min, IntKind.max, IntKind.signed, IntKind.bits]
  rw [if_pos]
  simp
  omega

theorem of_int (n : Int) : floatOfInt .f64 n = F n 0 := rfl

theorem lt_of {a : Int} (b : Int) {x : Nat} (hx : x = Q b) (ha : a.natAbs < 2 ^ 53) (hb : b.natAbs < 2 ^ 53) : (FloatKind.f64.format.order (Q a) x == some .lt) = decide (a < b) := by
  have h0 : FloatKind.f64.format.order (Q a) (Q b) = some (compare a b) := F_order ha hb (by omega) (by omega)
  rw [hx, h0]
  simp only [compare, compareOfLessAndEq]
  by_cases h : a < b
  · simp [h]
  · by_cases h' : a = b
    · simp [h']
    · simp [h, h']
theorem gt_of {a : Int} (b : Int) {x : Nat} (hx : x = Q b) (ha : a.natAbs < 2 ^ 53) (hb : b.natAbs < 2 ^ 53) : (FloatKind.f64.format.order (Q a) x == some .gt) = decide (b < a) := by
  have h0 : FloatKind.f64.format.order (Q a) (Q b) = some (compare a b) := F_order ha hb (by omega) (by omega)
  rw [hx, h0]
  simp only [compare, compareOfLessAndEq]
  by_cases h : a < b
  · have : ¬ b < a := by omega
    simp [h, this]
  · by_cases h' : a = b
    · simp [h']
    · have : b < a := by omega
      simp [h, h', this]

/-- The last digit as a byte. -/
def db (q : Nat) : UInt8 := UInt8.ofNat (48 + q % 10)

theorem db_nat (q : Nat) : (db q).toNat = 48 + q % 10 := by
  unfold db
  rw [UInt8.toNat_ofNat']; omega

theorem one_byte (q : Nat) (w : World) : (convert 29 9 (.slice (some ⟨w.heap.size, 0, none⟩) 1 1)).run Tryd.prog (w.alloc (.cells #[.int .u8 (48 + (q : Int) % 10)] 5)) =
    .ok (.string ⟨#[db q]⟩) (w.alloc (.cells #[.int .u8 (48 + (q : Int) % 10)] 5)) := by
  refine run_convert_bytes_back (w.alloc (.cells #[.int .u8 (48 + (q : Int) % 10)] 5)) 29 9 5 ⟨w.heap.size, 0, none⟩ 1 [db q] Tryd.underlying29 Tryd.underlying5 Tryd.underlying9 fun j hj => ?_
  obtain rfl : j = 0 := by simp at hj; exact hj
  simp [Addr.add, db_nat]

theorem dec_big {q : Nat} (h : ¬ q < 10) : Lib.decDigits q = Lib.decDigits (q / 10) ++ [db q] := by
  rw [Lib.decDigits, dif_neg h]
  rfl
theorem dec_small {q : Nat} (h : q < 10) : Lib.decDigits q = [db q] := by
  rw [Lib.decDigits, dif_pos h]
  unfold db
  rw [Nat.mod_eq_of_lt h]

theorem ba_ext {x : ByteArray} {l : List UInt8} (h : x.data.toList = l) : x = ⟨l.toArray⟩ := by
  subst h
  cases x
  simp

theorem ret_str {x y : ByteArray} (h : x = y) : Ending.returned (.tuple #[.string x, .bool true]) = .returned (.tuple #[.string y, .bool true]) := by rw [h]

theorem size_of {q I : Nat} {s : ByteArray} {fr : List UInt8} (hI : I ≤ 2 ^ 40) (hfr : fr.length ≤ 3) (h : Lib.decDigits q ++ s.data.toList = Lib.decDigits I ++ fr) : s.size ≤ 16 := by
  have hl := congrArg List.length h
  simp only [List.length_append, Lib.decDigits_length, Array.length_toList] at hl
  have := Dec.nDigits_le 12 I (by omega)
  have e : s.data.size = s.size := rfl
  omega

theorem frac_len (f : Nat) : (Dec.frac f).length ≤ 3 := by
  unfold Dec.frac
  split
  · decide
  · split
    · decide
    · split <;> decide

theorem frac_data (f : Nat) (b : ByteArray) (h : b.data.toList = Dec.frac f) (I : Nat) : Lib.decDigits I ++ b.data.toList = Lib.decDigits I ++ Dec.frac f := by rw [h]


theorem facts {n : Int} (hn : n.natAbs < 2 ^ 50) (h1 : -2 ^ 40 ≤ n) (h2 : n ≤ 2 ^ 40) :
    (FloatKind.f64.format.order (Q n) (Q n) != some .eq) = false ∧ (FloatKind.f64.format.order (Q n) 4778319204640096256 == some .gt) = false ∧ (FloatKind.f64.format.order (Q n) 14001691241494872064 == some .lt) = false ∧
    (∀ w, (binOp .mul 24 (.float .f64 (Q n)) (.float .f64 4616189618054758400)).run Tryd.prog w = .ok (.float .f64 (F n 0)) w) ∧
    (∀ w, (convert 24 3 (.float .f64 (F n 0))).run Tryd.prog w = .ok (.int .i64 n) w) ∧
    (∀ w, (convert 3 24 (.int .i64 n)).run Tryd.prog w = .ok (.float .f64 (F n 0)) w) ∧
    (∀ w, (binOp .quo 24 (.float .f64 (F n 0)) (.float .f64 4616189618054758400)).run Tryd.prog w = .ok (.float .f64 (Q n)) w) := by
  have hn' : n.natAbs < 2 ^ 53 := by omega
  refine ⟨?_, ?_, ?_, ?_, ?_, ?_, ?_⟩
  · have := eq_of n (x := Q n) rfl hn' hn'
    simp only [decide_true] at this
    simp only [bne, this, Bool.not_true]
  · rw [gt_of (2 ^ 40) (show 4778319204640096256 = Q (2 ^ 40) by decide +kernel) hn' (by decide)]
    simp only [decide_eq_false_iff_not]; omega
  · rw [lt_of (-2 ^ 40) (show 14001691241494872064 = Q (-2 ^ 40) by decide +kernel) hn' (by decide)]
    simp only [decide_eq_false_iff_not]; omega
  · exact fun w => run_float_arith w .mul 24 .f64 _ _ _ (mul_four hn')
  · exact fun w => run_convert_float_int w 24 3 .f64 .i64 _ _ (by rw [Tryd.underlying24]; rfl) Tryd.underlying3 (to_int hn)
  · exact fun w => run_convert_int_float w 3 24 .i64 .f64 _ (by rw [Tryd.underlying3]; rfl) Tryd.underlying24
  · exact fun w => run_float_arith w .quo 24 .f64 _ _ _ (div_four hn')

set_option maxHeartbeats 1000000 in
set_option maxRecDepth 100000 in
theorem digits_pos0 {N : Nat} (hN : N ≤ 2 ^ 40) (hf : (N : Int) % 4 = 0) (w : World) :
    Calls Tryd.prog 6 #[.float .f64 (Q (N : Int))] w fun e w' => e = .returned (.tuple #[.string ⟨(([] : List UInt8) ++ (Lib.decDigits (N / 4) ++ Dec.frac 0)).toArray⟩, .bool true]) ∧ Below w.heap.size w w' := by
  have hn : ((N : Int)).natAbs < 2 ^ 50 := by omega
  obtain ⟨f1, f2, f3, f4, f5, f6, f7⟩ := facts (n := (N : Int)) hn (by omega) (by omega)
  clear hn
  go_enter Tryd.func6, Tryd.ntmps6
  go_wp2
  clear f1 f2 f3 f4 f5 f6 f7 hf
  go_loopw [4, 6] (fun n o wr => ∃ (q : Nat) (s : ByteArray), q ≤ 2 ^ 40 ∧ n = .int .i64 q ∧ o = .string s ∧ Hid (Lib.decDigits q ++ s.data.toList = Lib.decDigits (N / 4) ++ Dec.frac 0) ∧ Below w.heap.size w wr) (fun n _ _ => (intOf n).toNat)
  case atStart => exact ⟨N / 4, ⟨#[]⟩, by omega, by simp, rfl, Lib.hid (frac_data 0 _ rfl _), (Below.refl _ _).alloc (Nat.le_refl _) _⟩
  case round =>
    obtain ⟨q, s, hq, rfl, rfl, hd, hb⟩ := hrel
    have hcv := one_byte q wr
    have hsz := size_of (I := N / 4) (by omega) (frac_len 0) hd.out
    have HB := Lib.hid hb
    clear hb
    by_cases hlt : q < 10
    · go_wp2
      go_ret2
      refine ⟨ret_str (ba_ext ?_), HB.out.alloc HB.out.size _⟩
      have h := hd.out
      rw [dec_small hlt] at h
      rw [← h]
      simp
    · go_wp2
      go_roundw
      case rel =>
        refine ⟨q / 10, _, by omega, by simp, rfl, Lib.hid ?_, HB.out.alloc HB.out.size _⟩
        have h := hd.out
        rw [dec_big hlt] at h
        rw [← h]
        simp
      case measure => simp [intOf]; omega

set_option maxHeartbeats 1000000 in
set_option maxRecDepth 100000 in
theorem digits_pos1 {N : Nat} (hN : N ≤ 2 ^ 40) (hf : (N : Int) % 4 = 1) (w : World) :
    Calls Tryd.prog 6 #[.float .f64 (Q (N : Int))] w fun e w' => e = .returned (.tuple #[.string ⟨(([] : List UInt8) ++ (Lib.decDigits (N / 4) ++ Dec.frac 1)).toArray⟩, .bool true]) ∧ Below w.heap.size w w' := by
  have hn : ((N : Int)).natAbs < 2 ^ 50 := by omega
  obtain ⟨f1, f2, f3, f4, f5, f6, f7⟩ := facts (n := (N : Int)) hn (by omega) (by omega)
  clear hn
  go_enter Tryd.func6, Tryd.ntmps6
  go_wp2
  clear f1 f2 f3 f4 f5 f6 f7 hf
  go_loopw [4, 6] (fun n o wr => ∃ (q : Nat) (s : ByteArray), q ≤ 2 ^ 40 ∧ n = .int .i64 q ∧ o = .string s ∧ Hid (Lib.decDigits q ++ s.data.toList = Lib.decDigits (N / 4) ++ Dec.frac 1) ∧ Below w.heap.size w wr) (fun n _ _ => (intOf n).toNat)
  case atStart => exact ⟨N / 4, ⟨#[46, 50, 53]⟩, by omega, by simp, rfl, Lib.hid (frac_data 1 _ rfl _), (Below.refl _ _).alloc (Nat.le_refl _) _⟩
  case round =>
    obtain ⟨q, s, hq, rfl, rfl, hd, hb⟩ := hrel
    have hcv := one_byte q wr
    have hsz := size_of (I := N / 4) (by omega) (frac_len 1) hd.out
    have HB := Lib.hid hb
    clear hb
    by_cases hlt : q < 10
    · go_wp2
      go_ret2
      refine ⟨ret_str (ba_ext ?_), HB.out.alloc HB.out.size _⟩
      have h := hd.out
      rw [dec_small hlt] at h
      rw [← h]
      simp
    · go_wp2
      go_roundw
      case rel =>
        refine ⟨q / 10, _, by omega, by simp, rfl, Lib.hid ?_, HB.out.alloc HB.out.size _⟩
        have h := hd.out
        rw [dec_big hlt] at h
        rw [← h]
        simp
      case measure => simp [intOf]; omega

set_option maxHeartbeats 1000000 in
set_option maxRecDepth 100000 in
theorem digits_pos2 {N : Nat} (hN : N ≤ 2 ^ 40) (hf : (N : Int) % 4 = 2) (w : World) :
    Calls Tryd.prog 6 #[.float .f64 (Q (N : Int))] w fun e w' => e = .returned (.tuple #[.string ⟨(([] : List UInt8) ++ (Lib.decDigits (N / 4) ++ Dec.frac 2)).toArray⟩, .bool true]) ∧ Below w.heap.size w w' := by
  have hn : ((N : Int)).natAbs < 2 ^ 50 := by omega
  obtain ⟨f1, f2, f3, f4, f5, f6, f7⟩ := facts (n := (N : Int)) hn (by omega) (by omega)
  clear hn
  go_enter Tryd.func6, Tryd.ntmps6
  go_wp2
  clear f1 f2 f3 f4 f5 f6 f7 hf
  go_loopw [4, 6] (fun n o wr => ∃ (q : Nat) (s : ByteArray), q ≤ 2 ^ 40 ∧ n = .int .i64 q ∧ o = .string s ∧ Hid (Lib.decDigits q ++ s.data.toList = Lib.decDigits (N / 4) ++ Dec.frac 2) ∧ Below w.heap.size w wr) (fun n _ _ => (intOf n).toNat)
  case atStart => exact ⟨N / 4, ⟨#[46, 53]⟩, by omega, by simp, rfl, Lib.hid (frac_data 2 _ rfl _), (Below.refl _ _).alloc (Nat.le_refl _) _⟩
  case round =>
    obtain ⟨q, s, hq, rfl, rfl, hd, hb⟩ := hrel
    have hcv := one_byte q wr
    have hsz := size_of (I := N / 4) (by omega) (frac_len 2) hd.out
    have HB := Lib.hid hb
    clear hb
    by_cases hlt : q < 10
    · go_wp2
      go_ret2
      refine ⟨ret_str (ba_ext ?_), HB.out.alloc HB.out.size _⟩
      have h := hd.out
      rw [dec_small hlt] at h
      rw [← h]
      simp
    · go_wp2
      go_roundw
      case rel =>
        refine ⟨q / 10, _, by omega, by simp, rfl, Lib.hid ?_, HB.out.alloc HB.out.size _⟩
        have h := hd.out
        rw [dec_big hlt] at h
        rw [← h]
        simp
      case measure => simp [intOf]; omega

set_option maxHeartbeats 1000000 in
set_option maxRecDepth 100000 in
theorem digits_pos3 {N : Nat} (hN : N ≤ 2 ^ 40) (hf : (N : Int) % 4 = 3) (w : World) :
    Calls Tryd.prog 6 #[.float .f64 (Q (N : Int))] w fun e w' => e = .returned (.tuple #[.string ⟨(([] : List UInt8) ++ (Lib.decDigits (N / 4) ++ Dec.frac 3)).toArray⟩, .bool true]) ∧ Below w.heap.size w w' := by
  have hn : ((N : Int)).natAbs < 2 ^ 50 := by omega
  obtain ⟨f1, f2, f3, f4, f5, f6, f7⟩ := facts (n := (N : Int)) hn (by omega) (by omega)
  clear hn
  go_enter Tryd.func6, Tryd.ntmps6
  go_wp2
  clear f1 f2 f3 f4 f5 f6 f7 hf
  go_loopw [4, 6] (fun n o wr => ∃ (q : Nat) (s : ByteArray), q ≤ 2 ^ 40 ∧ n = .int .i64 q ∧ o = .string s ∧ Hid (Lib.decDigits q ++ s.data.toList = Lib.decDigits (N / 4) ++ Dec.frac 3) ∧ Below w.heap.size w wr) (fun n _ _ => (intOf n).toNat)
  case atStart => exact ⟨N / 4, ⟨#[46, 55, 53]⟩, by omega, by simp, rfl, Lib.hid (frac_data 3 _ rfl _), (Below.refl _ _).alloc (Nat.le_refl _) _⟩
  case round =>
    obtain ⟨q, s, hq, rfl, rfl, hd, hb⟩ := hrel
    have hcv := one_byte q wr
    have hsz := size_of (I := N / 4) (by omega) (frac_len 3) hd.out
    have HB := Lib.hid hb
    clear hb
    by_cases hlt : q < 10
    · go_wp2
      go_ret2
      refine ⟨ret_str (ba_ext ?_), HB.out.alloc HB.out.size _⟩
      have h := hd.out
      rw [dec_small hlt] at h
      rw [← h]
      simp
    · go_wp2
      go_roundw
      case rel =>
        refine ⟨q / 10, _, by omega, by simp, rfl, Lib.hid ?_, HB.out.alloc HB.out.size _⟩
        have h := hd.out
        rw [dec_big hlt] at h
        rw [← h]
        simp
      case measure => simp [intOf]; omega

set_option maxHeartbeats 1000000 in
set_option maxRecDepth 100000 in
theorem digits_neg0 {N : Nat} (hN : N ≤ 2 ^ 40) (h0 : 0 < N) (hf : (N : Int) % 4 = 0) (w : World) :
    Calls Tryd.prog 6 #[.float .f64 (Q (-(N : Int)))] w fun e w' => e = .returned (.tuple #[.string ⟨([45] ++ (Lib.decDigits (N / 4) ++ Dec.frac 0)).toArray⟩, .bool true]) ∧ Below w.heap.size w w' := by
  have hn : ((-(N : Int))).natAbs < 2 ^ 50 := by omega
  obtain ⟨f1, f2, f3, f4, f5, f6, f7⟩ := facts (n := (-(N : Int))) hn (by omega) (by omega)
  clear hn
  go_enter Tryd.func6, Tryd.ntmps6
  go_wp2
  clear f1 f2 f3 f4 f5 f6 f7 hf
  go_loopw [4, 6] (fun n o wr => ∃ (q : Nat) (s : ByteArray), q ≤ 2 ^ 40 ∧ n = .int .i64 q ∧ o = .string s ∧ Hid (Lib.decDigits q ++ s.data.toList = Lib.decDigits (N / 4) ++ Dec.frac 0) ∧ Below w.heap.size w wr) (fun n _ _ => (intOf n).toNat)
  case atStart => exact ⟨N / 4, ⟨#[]⟩, by omega, by simp, rfl, Lib.hid (frac_data 0 _ rfl _), (Below.refl _ _).alloc (Nat.le_refl _) _⟩
  case round =>
    obtain ⟨q, s, hq, rfl, rfl, hd, hb⟩ := hrel
    have hcv := one_byte q wr
    have hsz := size_of (I := N / 4) (by omega) (frac_len 0) hd.out
    have HB := Lib.hid hb
    clear hb
    by_cases hlt : q < 10
    · go_wp2
      go_ret2
      refine ⟨ret_str (ba_ext ?_), HB.out.alloc HB.out.size _⟩
      have h := hd.out
      rw [dec_small hlt] at h
      rw [← h]
      simp
    · go_wp2
      go_roundw
      case rel =>
        refine ⟨q / 10, _, by omega, by simp, rfl, Lib.hid ?_, HB.out.alloc HB.out.size _⟩
        have h := hd.out
        rw [dec_big hlt] at h
        rw [← h]
        simp
      case measure => simp [intOf]; omega

set_option maxHeartbeats 1000000 in
set_option maxRecDepth 100000 in
theorem digits_neg1 {N : Nat} (hN : N ≤ 2 ^ 40) (h0 : 0 < N) (hf : (N : Int) % 4 = 1) (w : World) :
    Calls Tryd.prog 6 #[.float .f64 (Q (-(N : Int)))] w fun e w' => e = .returned (.tuple #[.string ⟨([45] ++ (Lib.decDigits (N / 4) ++ Dec.frac 1)).toArray⟩, .bool true]) ∧ Below w.heap.size w w' := by
  have hn : ((-(N : Int))).natAbs < 2 ^ 50 := by omega
  obtain ⟨f1, f2, f3, f4, f5, f6, f7⟩ := facts (n := (-(N : Int))) hn (by omega) (by omega)
  clear hn
  go_enter Tryd.func6, Tryd.ntmps6
  go_wp2
  clear f1 f2 f3 f4 f5 f6 f7 hf
  go_loopw [4, 6] (fun n o wr => ∃ (q : Nat) (s : ByteArray), q ≤ 2 ^ 40 ∧ n = .int .i64 q ∧ o = .string s ∧ Hid (Lib.decDigits q ++ s.data.toList = Lib.decDigits (N / 4) ++ Dec.frac 1) ∧ Below w.heap.size w wr) (fun n _ _ => (intOf n).toNat)
  case atStart => exact ⟨N / 4, ⟨#[46, 50, 53]⟩, by omega, by simp, rfl, Lib.hid (frac_data 1 _ rfl _), (Below.refl _ _).alloc (Nat.le_refl _) _⟩
  case round =>
    obtain ⟨q, s, hq, rfl, rfl, hd, hb⟩ := hrel
    have hcv := one_byte q wr
    have hsz := size_of (I := N / 4) (by omega) (frac_len 1) hd.out
    have HB := Lib.hid hb
    clear hb
    by_cases hlt : q < 10
    · go_wp2
      go_ret2
      refine ⟨ret_str (ba_ext ?_), HB.out.alloc HB.out.size _⟩
      have h := hd.out
      rw [dec_small hlt] at h
      rw [← h]
      simp
    · go_wp2
      go_roundw
      case rel =>
        refine ⟨q / 10, _, by omega, by simp, rfl, Lib.hid ?_, HB.out.alloc HB.out.size _⟩
        have h := hd.out
        rw [dec_big hlt] at h
        rw [← h]
        simp
      case measure => simp [intOf]; omega

set_option maxHeartbeats 1000000 in
set_option maxRecDepth 100000 in
theorem digits_neg2 {N : Nat} (hN : N ≤ 2 ^ 40) (h0 : 0 < N) (hf : (N : Int) % 4 = 2) (w : World) :
    Calls Tryd.prog 6 #[.float .f64 (Q (-(N : Int)))] w fun e w' => e = .returned (.tuple #[.string ⟨([45] ++ (Lib.decDigits (N / 4) ++ Dec.frac 2)).toArray⟩, .bool true]) ∧ Below w.heap.size w w' := by
  have hn : ((-(N : Int))).natAbs < 2 ^ 50 := by omega
  obtain ⟨f1, f2, f3, f4, f5, f6, f7⟩ := facts (n := (-(N : Int))) hn (by omega) (by omega)
  clear hn
  go_enter Tryd.func6, Tryd.ntmps6
  go_wp2
  clear f1 f2 f3 f4 f5 f6 f7 hf
  go_loopw [4, 6] (fun n o wr => ∃ (q : Nat) (s : ByteArray), q ≤ 2 ^ 40 ∧ n = .int .i64 q ∧ o = .string s ∧ Hid (Lib.decDigits q ++ s.data.toList = Lib.decDigits (N / 4) ++ Dec.frac 2) ∧ Below w.heap.size w wr) (fun n _ _ => (intOf n).toNat)
  case atStart => exact ⟨N / 4, ⟨#[46, 53]⟩, by omega, by simp, rfl, Lib.hid (frac_data 2 _ rfl _), (Below.refl _ _).alloc (Nat.le_refl _) _⟩
  case round =>
    obtain ⟨q, s, hq, rfl, rfl, hd, hb⟩ := hrel
    have hcv := one_byte q wr
    have hsz := size_of (I := N / 4) (by omega) (frac_len 2) hd.out
    have HB := Lib.hid hb
    clear hb
    by_cases hlt : q < 10
    · go_wp2
      go_ret2
      refine ⟨ret_str (ba_ext ?_), HB.out.alloc HB.out.size _⟩
      have h := hd.out
      rw [dec_small hlt] at h
      rw [← h]
      simp
    · go_wp2
      go_roundw
      case rel =>
        refine ⟨q / 10, _, by omega, by simp, rfl, Lib.hid ?_, HB.out.alloc HB.out.size _⟩
        have h := hd.out
        rw [dec_big hlt] at h
        rw [← h]
        simp
      case measure => simp [intOf]; omega

set_option maxHeartbeats 1000000 in
set_option maxRecDepth 100000 in
theorem digits_neg3 {N : Nat} (hN : N ≤ 2 ^ 40) (h0 : 0 < N) (hf : (N : Int) % 4 = 3) (w : World) :
    Calls Tryd.prog 6 #[.float .f64 (Q (-(N : Int)))] w fun e w' => e = .returned (.tuple #[.string ⟨([45] ++ (Lib.decDigits (N / 4) ++ Dec.frac 3)).toArray⟩, .bool true]) ∧ Below w.heap.size w w' := by
  have hn : ((-(N : Int))).natAbs < 2 ^ 50 := by omega
  obtain ⟨f1, f2, f3, f4, f5, f6, f7⟩ := facts (n := (-(N : Int))) hn (by omega) (by omega)
  clear hn
  go_enter Tryd.func6, Tryd.ntmps6
  go_wp2
  clear f1 f2 f3 f4 f5 f6 f7 hf
  go_loopw [4, 6] (fun n o wr => ∃ (q : Nat) (s : ByteArray), q ≤ 2 ^ 40 ∧ n = .int .i64 q ∧ o = .string s ∧ Hid (Lib.decDigits q ++ s.data.toList = Lib.decDigits (N / 4) ++ Dec.frac 3) ∧ Below w.heap.size w wr) (fun n _ _ => (intOf n).toNat)
  case atStart => exact ⟨N / 4, ⟨#[46, 55, 53]⟩, by omega, by simp, rfl, Lib.hid (frac_data 3 _ rfl _), (Below.refl _ _).alloc (Nat.le_refl _) _⟩
  case round =>
    obtain ⟨q, s, hq, rfl, rfl, hd, hb⟩ := hrel
    have hcv := one_byte q wr
    have hsz := size_of (I := N / 4) (by omega) (frac_len 3) hd.out
    have HB := Lib.hid hb
    clear hb
    by_cases hlt : q < 10
    · go_wp2
      go_ret2
      refine ⟨ret_str (ba_ext ?_), HB.out.alloc HB.out.size _⟩
      have h := hd.out
      rw [dec_small hlt] at h
      rw [← h]
      simp
    · go_wp2
      go_roundw
      case rel =>
        refine ⟨q / 10, _, by omega, by simp, rfl, Lib.hid ?_, HB.out.alloc HB.out.size _⟩
        have h := hd.out
        rw [dec_big hlt] at h
        rw [← h]
        simp
      case measure => simp [intOf]; omega

theorem digits_any {n : Int} (hn : n.natAbs ≤ 2 ^ 40) (w : World) : Calls Tryd.prog 6 #[.float .f64 (Q n)] w fun e w' => e = .returned (.tuple #[.string ⟨(dec n).toArray⟩, .bool true]) ∧ Below w.heap.size w w' := by
  have hf : n.natAbs % 4 = 0 ∨ n.natAbs % 4 = 1 ∨ n.natAbs % 4 = 2 ∨ n.natAbs % 4 = 3 := by omega
  unfold dec
  by_cases h : n < 0
  · rw [if_pos h]
    have e : Q n = Q (-((n.natAbs : Nat) : Int)) := by congr 1; omega
    rw [e]
    rcases hf with f | f | f | f <;> rw [f]
    · exact digits_neg0 hn (by omega) (by omega) w
    · exact digits_neg1 hn (by omega) (by omega) w
    · exact digits_neg2 hn (by omega) (by omega) w
    · exact digits_neg3 hn (by omega) (by omega) w
  · rw [if_neg h]
    have e : Q n = Q ((n.natAbs : Nat) : Int) := by congr 1; omega
    rw [e]
    rcases hf with f | f | f | f <;> rw [f]
    · exact digits_pos0 hn (by omega) w
    · exact digits_pos1 hn (by omega) w
    · exact digits_pos2 hn (by omega) w
    · exact digits_pos3 hn (by omega) w
end Go.Proofs.YtiamghbefallkaaDoor.Dig
