/-
  The contract of internal/strconv.atof64 at texts of digits, points and letters that are none of a number's, where the library's tables are laid.
-/
import Derived.Test.YtabjmoaijepdjaaDoorSpd
import Derived.Test.YtabjmoaijepdjaaDoorRdf
import Derived.Test.YtabjmoaijepdjaaDoorExa
namespace Go.Proofs.YtabjmoaijepdjaaDoor.Ato
open Go.ChangeShapes Go.WideShapes Go.ChangeAt Go.RowKit Go.Sort
open Go.Proofs.YtabjmoaijepdjaaDoor.Flt Go.Proofs.YtabjmoaijepdjaaDoor.Wor Go.Proofs.YtabjmoaijepdjaaDoor.Scn Go.Proofs.YtabjmoaijepdjaaDoor.Spn Go.Proofs.YtabjmoaijepdjaaDoor.Spc Go.Proofs.YtabjmoaijepdjaaDoor.Spd Go.Proofs.YtabjmoaijepdjaaDoor.Rdf Go.Proofs.YtabjmoaijepdjaaDoor.Exa

/-- A byte that opens none of the special numbers. -/
def fair (c : UInt8) : Prop := clean c ∧ c.toNat ≠ 105 ∧ c.toNat ≠ 73 ∧ c.toNat ≠ 110 ∧ c.toNat ≠ 78

theorem special_any (w : World) (t : List UInt8) (hs : t.length ≤ 9223372036854775800) (h : ∀ c ∈ t, fair c) :
    Calls Tryd.prog 43 #[.string ⟨t.toArray⟩] w fun e w' => e = .returned (.tuple #[.float .f64 0, .int .i64 0, .bool false]) ∧ w' = w := by
  match t, hs, h with
  | [], _, _ => exact special_nil w
  | c :: r, hs, h =>
    have hc := h c (List.mem_cons_self ..)
    by_cases h45 : c.toNat = 45
    · obtain rfl : c = 45 := UInt8.toNat_inj.1 h45
      refine special_dash w r (by simp only [List.length_cons] at hs; omega) fun h0 => ?_
      have := h r[0] (List.mem_cons_of_mem _ (List.getElem_mem h0))
      exact ⟨this.2.1, this.2.2.1⟩
    · exact special_plain w c r ⟨hc.1.2.2.2.2.2, h45, hc.2.1, hc.2.2.1, hc.2.2.2.1, hc.2.2.2.2⟩

/-- What comes back of readFloat, by cases. -/
def Rf3 (t : List UInt8) (mi : Bool) (w : World) (e : Ending) (w' : World) : Prop :=
  (∃ i : Nat, e = .returned (.tuple #[.int .u64 0, .int .i64 0, .bool mi, .bool false, .bool false, .int .i64 i, .bool true]) ∧ Hid ((i = t.length → told t = some (sgn mi 0)) ∧ (i ≠ t.length → told t = none)) ∧ w' = w) ∨
  (∃ m a i : Nat, e = .returned (.tuple #[.int .u64 m, .int .i64 (-(a : Int)), .bool mi, .bool false, .bool false, .int .i64 i, .bool true]) ∧ Hid (m < 10 ^ 15 ∧ 0 < m) ∧ a ≤ 15 ∧ Hid ((i = t.length → told t = some (val mi m a)) ∧ (i ≠ t.length → told t = none)) ∧ (((m : Int) == 0) = false) ∧ w' = w) ∨
  (∃ (m i : Nat) (x : Int), e = .returned (.tuple #[.int .u64 m, .int .i64 x, .bool mi, .bool false, .bool false, .int .i64 i, .bool false]) ∧ told t = none ∧ w' = w)
theorem rf3_of {t : List UInt8} {mi : Bool} (hmi : minusOf t = mi) {w : World} {e : Ending} {w' : World} (h : RfPost t w e w') : Rf3 t mi w e w' := by
  subst hmi
  obtain ⟨m, a, i, ok, rfl, hm, ha, _, hA, hB, hC, rfl⟩ := h
  cases ok
  · exact Or.inr (Or.inr ⟨m, i, _, rfl, hC rfl, rfl⟩)
  · by_cases h0 : m = 0
    · subst h0
      exact Or.inl ⟨i, rfl, Lib.hid ⟨fun e => by rw [hA rfl e, val_zero _ ha], fun e => hB rfl e⟩, rfl⟩
    · exact Or.inr (Or.inl ⟨m, a, i, by rw [if_neg h0], Lib.hid ⟨hm, by omega⟩, ha, Lib.hid ⟨hA rfl, hB rfl⟩, by rw [beq_eq_false_iff_ne]; omega, rfl⟩)

/-- What comes back of atof64. -/
def AtPost (t : List UInt8) (w : World) (e : Ending) (w' : World) : Prop :=
  (∃ x : Nat, told t = some x ∧ e = .returned (.tuple #[.float .f64 x, .int .i64 t.length, .nilIface]) ∧ w' = w) ∨
  (told t = none ∧ ∃ (v n : Nat), e = .returned (.tuple #[.float .f64 v, .int .i64 n, .iface 50 (.int .i64 2)]) ∧ w' = w) ∨
  (told t = none ∧ ∃ (v n : Nat), e = .returned (.tuple #[.float .f64 v, .int .i64 n, .nilIface]) ∧ n ≠ t.length ∧ w' = w)
theorem at_of {t : List UInt8} {w : World} {x i : Nat} (h : (i = t.length → told t = some x) ∧ (i ≠ t.length → told t = none)) : AtPost t w (.returned (.tuple #[.float .f64 x, .int .i64 i, .nilIface])) w := by
  by_cases e : i = t.length
  · exact Or.inl ⟨x, h.1 e, by rw [e], rfl⟩
  · exact Or.inr (Or.inr ⟨h.2 e, x, i, rfl, e, rfl⟩)

theorem run_from53 (b : Nat) (w : World) : (callFunc 53 #[.int .u64 (b : Int)]).run Tryd.prog w = .ok (.value (.float .f64 b)) w := by
  rw [run_callFunc_extern (fn := Tryd.f53) (e := Extern.MathFloatBits.float64frombits) Tryd.func53 (by kernel_rfl) (by kernel_rfl) (by kernel_rfl) (by kernel_rfl)]
  rfl
theorem zeros : sgn false 0 = 0 ∧ sgn true 0 = 9223372036854775808 := ⟨by decide +kernel, by decide +kernel⟩

set_option maxHeartbeats 4000000 in
set_option maxRecDepth 100000 in
theorem atof_any (w : World) (t : List UInt8) (ht : Tabs w) (hs : t.length ≤ 9223372036854775800) (hf : figs t ≤ 15) (hc : ∀ c ∈ t, fair c) :
    Calls Tryd.prog 38 #[.string ⟨t.toArray⟩] w fun e w' => AtPost t w e w' := by
  have h1 := Lib.hid (special_any w t hs hc)
  have h2 := Lib.hid ((readfloat_any w t hs hf (Lib.hid fun c h => (hc c h).1)).mono fun e w' h => rf3_of rfl h)
  have h8 := ht.opt
  have HT := Lib.hid ht
  have b0 := Lib.hid (bool2_any w (minusOf t))
  have f0 : ∀ w, (callFunc 53 #[.int .u64 (bits .or .u64 0 0)]).run Tryd.prog w = .ok (.value (.float .f64 0)) w := fun w => by
    rw [show bits .or .u64 0 0 = ((0 : Nat) : Int) by decide +kernel]
    exact run_from53 0 w
  have f1 : ∀ w, (callFunc 53 #[.int .u64 (bits .or .u64 9223372036854775808 0)]).run Tryd.prog w = .ok (.value (.float .f64 9223372036854775808)) w := fun w => by
    rw [show bits .or .u64 9223372036854775808 0 = ((9223372036854775808 : Nat) : Int) by decide +kernel]
    exact run_from53 9223372036854775808 w
  have hex : Hid (∀ m a : Nat, m < 10 ^ 15 ∧ 0 < m → a ≤ 15 → Calls Tryd.prog 54 #[.int .u64 m, .int .i64 (-(a : Int)), .bool (minusOf t)] w fun e w' => e = .returned (.tuple #[.float .f64 (val (minusOf t) m a), .bool true]) ∧ w' = w) :=
    Lib.hid fun m a h ha => exact_any w m a (minusOf t) ht h.1 h.2 ha
  clear ht hc hf
  generalize minusOf t = mi at h2 b0 hex
  cases mi
  · go_enter Tryd.func38, Tryd.ntmps38
    go_wp2_with (first
      | (go_at_call 43; ((with_reducible refine h1.out.mono ?_); rintro e w' ⟨rfl, hww⟩; rw [hww]; clear hww))
      | (go_at_call 44; ((with_reducible refine h2.out.mono ?_); rintro e w' (⟨i, rfl, HX, hww⟩ | ⟨m, a, i, rfl, HM, ha, HX, hmb, hww⟩ | ⟨m, i, x, rfl, HX, hww⟩) <;> (rw [hww]; clear hww)))
      | (go_at_call 52; ((with_reducible refine b0.out.mono ?_); rintro e w' ⟨rfl, hww⟩; rw [hww]; clear hww))
      | (go_at_call 54; ((with_reducible refine (hex.out _ _ HM.out ha).mono ?_); rintro e w' ⟨rfl, hww⟩; rw [hww]; clear hww)))
    · go_ret3
      exact at_of (by have h := HX.out; rw [zeros.1] at h; exact h)
    · go_ret3
      exact at_of HX.out
    · go_ret3
      exact Or.inr (Or.inl ⟨HX, 0, i, rfl, rfl⟩)
  · go_enter Tryd.func38, Tryd.ntmps38
    go_wp2_with (first
      | (go_at_call 43; ((with_reducible refine h1.out.mono ?_); rintro e w' ⟨rfl, hww⟩; rw [hww]; clear hww))
      | (go_at_call 44; ((with_reducible refine h2.out.mono ?_); rintro e w' (⟨i, rfl, HX, hww⟩ | ⟨m, a, i, rfl, HM, ha, HX, hmb, hww⟩ | ⟨m, i, x, rfl, HX, hww⟩) <;> (rw [hww]; clear hww)))
      | (go_at_call 52; ((with_reducible refine b0.out.mono ?_); rintro e w' ⟨rfl, hww⟩; rw [hww]; clear hww))
      | (go_at_call 54; ((with_reducible refine (hex.out _ _ HM.out ha).mono ?_); rintro e w' ⟨rfl, hww⟩; rw [hww]; clear hww)))
    · go_ret3
      exact at_of (by have h := HX.out; rw [zeros.2] at h; exact h)
    · go_ret3
      exact at_of HX.out
    · go_ret3
      exact Or.inr (Or.inl ⟨HX, 0, i, rfl, rfl⟩)
end Go.Proofs.YtabjmoaijepdjaaDoor.Ato
