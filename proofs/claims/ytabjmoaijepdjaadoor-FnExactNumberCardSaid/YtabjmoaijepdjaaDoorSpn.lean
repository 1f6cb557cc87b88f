/-
  The contracts of spec.white, math.NaN and spec.Number.
-/
import Derived.Test.YtabjmoaijepdjaaDoorScn
import Derived.WalkSpells
namespace Go.Proofs.YtabjmoaijepdjaaDoor.Spn
open Go.ChangeShapes Go.WideShapes Go.ChangeAt Go.RowKit Go.Sort
open Go.Proofs.YtabjmoaijepdjaaDoor.Flt Go.Proofs.YtabjmoaijepdjaaDoor.Wor Go.Proofs.YtabjmoaijepdjaaDoor.Scn

theorem run_bits (b : Nat) (w : World) : (callFunc 11 #[.float .f64 b]).run Tryd.prog w = .ok (.value (.int .u64 b)) w := by
  rw [run_callFunc_extern (fn := Tryd.f11) (e := Extern.MathFloatBits.float64bits) Tryd.func11 (by kernel_rfl) (by kernel_rfl) (by kernel_rfl) (by kernel_rfl)]
  rfl
theorem run_frombits (b : Nat) (w : World) : (callFunc 15 #[.int .u64 (b : Int)]).run Tryd.prog w = .ok (.value (.float .f64 b)) w := by
  rw [run_callFunc_extern (fn := Tryd.f15) (e := Extern.MathFloatBits.float64frombits) Tryd.func15 (by kernel_rfl) (by kernel_rfl) (by kernel_rfl) (by kernel_rfl)]
  rfl

theorem nan_any (w : World) : Calls Tryd.prog 12 #[] w fun e w' => e = .returned (.float .f64 nan) ∧ w' = w := by
  have h : ∀ w, (callFunc 15 #[.int .u64 9221120237041090561]).run Tryd.prog w = .ok (.value (.float .f64 nan)) w := fun w => run_frombits nan w
  go_enter Tryd.func12, Tryd.ntmps12
  go_wp2
  go_ret
  exact ⟨rfl, rfl⟩

theorem white_any (w : World) (c : UInt8) : Calls Tryd.prog 13 #[.int .u8 c.toNat] w fun e w' => e = .returned (.bool (wh c)) ∧ w' = w := by
  go_enter Tryd.func13, Tryd.ntmps13
  go_wp2
  all_goals go_ret
  all_goals
    refine ⟨congrArg (fun b => Ending.returned (.bool b)) (Bool.eq_iff_iff.2 ?_), rfl⟩
    simp only [wh, Bool.or_eq_true, beq_iff_eq, true_iff]
    omega

theorem size_mk (l : List UInt8) : (⟨l.toArray⟩ : ByteArray).size = l.length := rfl

theorem ba_ext {x : ByteArray} {l : List UInt8} (h : x.data.toList = l) : x = ⟨l.toArray⟩ := by
  subst h
  cases x
  simp
theorem cut_head (c : UInt8) (r : List UInt8) : (⟨(c :: r).toArray⟩ : ByteArray).extract 1 (r.length + 1) = ⟨r.toArray⟩ := ba_ext (by simp)
theorem cut_last (c : UInt8) (r : List UInt8) : (⟨(c :: r).toArray⟩ : ByteArray).extract 0 r.length = ⟨((c :: r).dropLast).toArray⟩ := ba_ext (by
  rw [ByteArray.data_extract, Array.toList_extract, List.dropLast_eq_take]
  simp only [List.extract_eq_take_drop, List.drop_zero, Nat.sub_zero, List.length_cons, Nat.add_sub_cancel])

theorem of_byte {x : Nat} (h : 48 ≤ x) : floatOfInt .f64 ((x : Int) - 48) = W (x - 48) := by
  rw [show ((x : Int) - 48) = ((x - 48 : Nat) : Int) by omega]
  rfl
theorem neg_run (m : Nat) (w : World) : (Op.unary .neg (.float .f64 (W m))).run Tryd.prog w = .ok (.float .f64 (sgn true m)) w := by
  have e : Op.negFloat .f64 (W m) = sgn true m := (sgn_true m).symm
  show Result.ok (Value.float .f64 (Op.negFloat .f64 (W m))) w = _
  rw [e]

/-- What comes back of Number. -/
def SpecPost (v : Nat) (w : World) (e : Ending) (w' : World) : Prop := e = .returned (.float .f64 v) ∧ Below w.heap.size w w'

set_option maxHeartbeats 1000000 in
set_option maxRecDepth 100000 in
theorem spec_any (w : World) (l : List UInt8) (hs : l.length ≤ 9223372036854775807) (hf : figs l ≤ 15) :
    Calls Tryd.prog 9 #[.string ⟨l.toArray⟩] w fun e w' => SpecPost ((told (trimR (l.dropWhile wh))).getD nan) w e w' := by
  go_enter Tryd.func9, Tryd.ntmps9
  go_wp2
  go_loopw [0] (fun x wr => ∃ r : List UInt8, x = .string ⟨r.toArray⟩ ∧ r.length ≤ l.length ∧ Hid (r.dropWhile wh = l.dropWhile wh) ∧ wr = w) (fun x _ => match x with | .string b => b.size | _ => 0)
  case atStart => exact ⟨l, rfl, Nat.le_refl _, Lib.hid rfl, rfl⟩
  case round =>
    obtain ⟨r, rfl, hr, hz, rfl⟩ := hrel
    match r, hr, hz with
    | [], hr, hz =>
      have hn := nan_any wr
      go_wp2
      refine wp_loop_rounds 1 ?_
      rw [rounds_succ]
      go_wp2
      refine wp_loop_rounds 1 ?_
      rw [rounds_succ]
      go_wp2_with (go_at_call 12; ((with_reducible refine hn.mono ?_); rintro e w' ⟨rfl, hww⟩; rw [hww]; clear hww))
      go_ret
      refine ⟨?_, Below.refl _ _⟩
      rw [← hz.out]
      rfl
    | c :: r, hr, hz =>
      have hw := white_any wr ((⟨(c :: r).toArray⟩ : ByteArray)[0]'(Nat.succ_pos _))
      rw [show wh ((⟨(c :: r).toArray⟩ : ByteArray)[0]'(Nat.succ_pos _)) = wh c from rfl] at hw
      by_cases hc : wh c = true
      · rw [hc] at hw
        go_wp2_with (go_at_call 13; ((with_reducible refine hw.mono ?_); rintro e w' ⟨rfl, hww⟩; rw [hww]; clear hww))
        refine ⟨⟨r, by rw [cut_head], by simp only [List.length_cons] at hr; omega, Lib.hid ?_, trivial⟩, by rw [cut_head]; exact Nat.lt_succ_self _⟩
        rw [← hz.out, List.dropWhile_cons, if_pos hc]
      · have hc' := Bool.eq_false_iff.2 hc
        rw [hc'] at hw
        go_wp2_with (go_at_call 13; ((with_reducible refine hw.mono ?_); rintro e w' ⟨rfl, hww⟩; rw [hww]; clear hww))
        clear hw
        have hl := hz.out
        rw [List.dropWhile_cons, if_neg hc] at hl
        have HL := Lib.hid hl
        clear hz hl
        have hfr : figs (c :: r) ≤ 15 := by rw [HL.out]; exact Nat.le_trans (figs_drop l wh) hf
        go_loopw [0] (fun x wr' => ∃ q : List UInt8, x = .string ⟨(c :: q).toArray⟩ ∧ q.length + 1 ≤ l.length ∧ figs (c :: q) ≤ 15 ∧ Hid (trimR (c :: q) = trimR (c :: r)) ∧ wr' = wr) (fun x _ => match x with | .string b => b.size | _ => 0)
        case atStart => exact ⟨r, rfl, by simp only [List.length_cons] at hr; omega, hfr, Lib.hid rfl, rfl⟩
        case round =>
          obtain ⟨q, rfl, hq, hfq, hz, rfl⟩ := hrel
          have hw := white_any wr ((⟨(c :: q).toArray⟩ : ByteArray)[q.length]'(Nat.lt_succ_self _))
          rw [show wh ((⟨(c :: q).toArray⟩ : ByteArray)[q.length]'(Nat.lt_succ_self _)) = wh ((c :: q)[q.length]'(Nat.lt_succ_self _)) from rfl] at hw
          by_cases hx : wh ((c :: q)[q.length]'(Nat.lt_succ_self _)) = true
          · rw [hx] at hw
            have hq0 : q ≠ [] := fun e => by subst e; exact hc hx
            have hf2 : figs (c :: q.dropLast) ≤ 15 := by rw [← List.dropLast_cons_of_ne_nil hq0]; exact Nat.le_trans (figs_last (c :: q)) hfq
            have ht2 : trimR (c :: q.dropLast) = trimR (c :: q) := by rw [trimR_white hx, List.dropLast_cons_of_ne_nil hq0]
            have hlt2 : (match Value.string ((⟨(c :: q).toArray⟩ : ByteArray).extract 0 q.length) with | .string b => b.size | _ => 0) < (match Value.string (⟨(c :: q).toArray⟩ : ByteArray) with | .string b => b.size | _ => 0) := by
              rw [cut_last]
              show ((c :: q).dropLast).length < (c :: q).length
              rw [List.length_dropLast]; exact Nat.lt_succ_self _
            go_wp2_with (go_at_call 13; ((with_reducible refine hw.mono ?_); rintro e w' ⟨rfl, hww⟩; rw [hww]; clear hww))
            refine ⟨⟨q.dropLast, by rw [cut_last, List.dropLast_cons_of_ne_nil hq0], by rw [List.length_dropLast]; omega, hf2, Lib.hid (ht2.trans hz.out), trivial⟩, hlt2⟩
          · have hx' := Bool.eq_false_iff.2 hx
            rw [hx'] at hw
            have hn := nan_any wr
            have HT : Hid (trimR (l.dropWhile wh) = c :: q) := Lib.hid (by rw [← HL.out, ← hz.out]; exact trimR_black hx)
            clear hz HL hx hc
            by_cases hm : c.toNat = 45
            · have hm' : ((⟨(c :: q).toArray⟩ : ByteArray)[0]'(Nat.succ_pos _)).toNat = 45 := hm
              have FG : 0 + figs (List.drop 0 q) ≤ 15 := by rw [List.drop_zero, Nat.zero_add]; rw [figs_cons] at hfq; omega
              go_wp2_with (go_at_call 13; ((with_reducible refine hw.mono ?_); rintro e w' ⟨rfl, hww⟩; rw [hww]; clear hww))
              rw [cut_head]
              clear hw
              have BB2 := Lib.hid (body_minus (q := q) hm)
              clear hfq hx'
              go_loopw [4, 5, 6, 7, 8] (fun x1 x2 x3 x4 x5 wr' => ∃ (m a d K : Nat) (p : Bool), x1 = .float .f64 (W m) ∧ x2 = .float .f64 (T a) ∧ x3 = .int .i64 d ∧ x4 = .bool p ∧ x5 = .int .i64 K ∧ K ≤ (q).length ∧ m < 10 ^ d ∧ a ≤ d ∧ d + figs ((q).drop K) ≤ 15 ∧ Hid (scan ((q).drop K) m a d p = scan (q) 0 0 0 false) ∧ wr' = wr) (fun _ _ _ _ x5 _ => (q).length - (intOf x5).toNat)
              case atStart => exact ⟨0, 0, 0, 0, false, by rw [W_zero], by rw [T_zero], rfl, rfl, rfl, Nat.zero_le _, by decide, Nat.le_refl _, FG, Lib.hid rfl, rfl⟩
              case round =>
                obtain ⟨m, a, d, K, p, rfl, rfl, rfl, rfl, rfl, hK, hm10, ha, hfd, hsc, rfl⟩ := hrel
                clear hm'
                by_cases hlt : K < (q).length
                · have hx : (q).drop K = (q)[K] :: (q).drop (K + 1) := List.drop_eq_getElem_cons hlt
                  have hs2 := hsc.out
                  rw [hx] at hs2 hfd
                  rw [figs_cons] at hfd
                  have HS := Lib.hid hs2
                  clear hsc hs2 hx
                  cases p
                  · by_cases h46 : (q)[K].toNat = 46
                    · have h46' : ((⟨(q).toArray⟩ : ByteArray)[K]'hlt).toNat = 46 := h46
                      have hss := HS.out
                      rw [scan_dot h46] at hss
                      have HSS := Lib.hid hss
                      clear hss HS
                      go_wp2
                      first
                        | exact ⟨⟨m, a, d, K + 1, true, rfl, rfl, rfl, rfl, by go_num, hlt, hm10, ha, by omega, Lib.hid HSS.out, trivial⟩, by simp only [intOf]; omega⟩
                        | (refine ⟨?_, ?_⟩
                           · repeat apply Exists.intro
                             exact ⟨⟨m, a, d, K + 1, true, rfl, rfl, rfl, rfl, by go_num, hlt, hm10, ha, by omega, Lib.hid HSS.out, trivial⟩, rfl⟩
                           · simp [intOf]; omega)
                    · have h46' : ¬ ((⟨(q).toArray⟩ : ByteArray)[K]'hlt).toNat = 46 := h46
                      by_cases hd : 48 ≤ (q)[K].toNat ∧ (q)[K].toNat ≤ 57
                      · have d1 : 48 ≤ ((⟨(q).toArray⟩ : ByteArray)[K]'hlt).toNat := hd.1
                        have d2 : ((⟨(q).toArray⟩ : ByteArray)[K]'hlt).toNat ≤ 57 := hd.2
                        have d3 : ((⟨(q).toArray⟩ : ByteArray)[K]'hlt).toNat ≠ 46 := by omega
                        have hd14 : d ≤ 14 := by have := figs_digit (c := (q)[K]) hd.1 hd.2; omega
                        have e10 := ten_le hd14
                        have hcv : ∀ w, (convert 5 27 (.int .u8 ((((⟨(q).toArray⟩ : ByteArray)[K]'hlt).toNat : Int) - 48))).run Tryd.prog w = .ok (.float .f64 (W (((⟨(q).toArray⟩ : ByteArray)[K]'hlt).toNat - 48))) w := fun w => by
                          rw [show ((((⟨(q).toArray⟩ : ByteArray)[K]'hlt).toNat : Int) - 48) = ((((⟨(q).toArray⟩ : ByteArray)[K]'hlt).toNat - 48 : Nat) : Int) by omega]
                          exact run_convert_int_float w 5 27 .u8 .f64 _ (by rw [Tryd.underlying5]; rfl) Tryd.underlying27
                        have hmul : ∀ w, (binOp .mul 27 (.float .f64 (W m)) (.float .f64 4621819117588971520)).run Tryd.prog w = .ok (.float .f64 (W (m * 10))) w := fun w => run_float_arith w .mul 27 .f64 _ _ _ (W_mul (by omega))
                        have hfo : floatOfInt .f64 ((((⟨(q).toArray⟩ : ByteArray)[K]'hlt).toNat : Int) - 48) = W (((⟨(q).toArray⟩ : ByteArray)[K]'hlt).toNat - 48) := of_byte d1
                        have hadd : ∀ w, (binOp .add 27 (.float .f64 (W (m * 10))) (.float .f64 (floatOfInt .f64 ((((⟨(q).toArray⟩ : ByteArray)[K]'hlt).toNat : Int) - 48)))).run Tryd.prog w = .ok (.float .f64 (W (m * 10 + (((⟨(q).toArray⟩ : ByteArray)[K]'hlt).toNat - 48)))) w := fun w => by
                          rw [hfo]
                          exact run_float_arith w .add 27 .f64 _ _ _ (W_add (by omega) (by omega))
                        have hpa : ∀ w, (binOp .mul 27 (.float .f64 (T a)) (.float .f64 4621819117588971520)).run Tryd.prog w = .ok (.float .f64 (T (a + 1))) w := fun w => run_float_arith w .mul 27 .f64 _ _ _ (T_mul (by omega))
                        have hml := next_lt (c := ((⟨(q).toArray⟩ : ByteArray)[K]'hlt).toNat - 48) hm10 (by omega)
                        have hff : d + 1 + figs ((q).drop (K + 1)) ≤ 15 := by have := figs_digit (c := (q)[K]) hd.1 hd.2; omega
                        have hss := HS.out
                        rw [scan_digit hd.1 hd.2] at hss
                        have HSS := Lib.hid hss
                        clear hss HS e10 hm10 hfo hcv
                        go_wp2
                        first
                          | exact ⟨⟨m * 10 + (((⟨(q).toArray⟩ : ByteArray)[K]'hlt).toNat - 48), a, d + 1, K + 1, false, rfl, rfl, by go_num, rfl, by go_num, hlt, hml, by omega, hff, Lib.hid HSS.out, trivial⟩, by simp only [intOf]; omega⟩
                          | (refine ⟨?_, ?_⟩
                             · repeat apply Exists.intro
                               exact ⟨⟨m * 10 + (((⟨(q).toArray⟩ : ByteArray)[K]'hlt).toNat - 48), a, d + 1, K + 1, false, rfl, rfl, by go_num, rfl, by go_num, hlt, hml, by omega, hff, Lib.hid HSS.out, trivial⟩, rfl⟩
                             · simp [intOf]; omega)
                      · have hnd : ((⟨(q).toArray⟩ : ByteArray)[K]'hlt).toNat < 48 ∨ 57 < ((⟨(q).toArray⟩ : ByteArray)[K]'hlt).toNat := by
                          have : ¬ (48 ≤ ((⟨(q).toArray⟩ : ByteArray)[K]'hlt).toNat ∧ ((⟨(q).toArray⟩ : ByteArray)[K]'hlt).toNat ≤ 57) := hd
                          omega
                        have hss := HS.out
                        rw [scan_other hd (by exact fun h => absurd h h46)] at hss
                        have HSS := Lib.hid hss
                        clear hss HS
                        rcases hnd with hnd | hnd
                        · go_wp2_with (go_at_call 12; ((with_reducible refine hn.mono ?_); rintro e w' ⟨rfl, hww⟩; rw [hww]; clear hww))
                          all_goals
                            go_ret
                            exact ⟨by rw [HT.out, told_none BB2.out.1 HSS.out]; rfl, Below.refl _ _⟩
                        · go_wp2_with (go_at_call 12; ((with_reducible refine hn.mono ?_); rintro e w' ⟨rfl, hww⟩; rw [hww]; clear hww))
                          all_goals
                            go_ret
                            exact ⟨by rw [HT.out, told_none BB2.out.1 HSS.out]; rfl, Below.refl _ _⟩
                  · by_cases hd : 48 ≤ (q)[K].toNat ∧ (q)[K].toNat ≤ 57
                    · have d1 : 48 ≤ ((⟨(q).toArray⟩ : ByteArray)[K]'hlt).toNat := hd.1
                      have d2 : ((⟨(q).toArray⟩ : ByteArray)[K]'hlt).toNat ≤ 57 := hd.2
                      have d3 : ((⟨(q).toArray⟩ : ByteArray)[K]'hlt).toNat ≠ 46 := by omega
                      have hd14 : d ≤ 14 := by have := figs_digit (c := (q)[K]) hd.1 hd.2; omega
                      have e10 := ten_le hd14
                      have hcv : ∀ w, (convert 5 27 (.int .u8 ((((⟨(q).toArray⟩ : ByteArray)[K]'hlt).toNat : Int) - 48))).run Tryd.prog w = .ok (.float .f64 (W (((⟨(q).toArray⟩ : ByteArray)[K]'hlt).toNat - 48))) w := fun w => by
                        rw [show ((((⟨(q).toArray⟩ : ByteArray)[K]'hlt).toNat : Int) - 48) = ((((⟨(q).toArray⟩ : ByteArray)[K]'hlt).toNat - 48 : Nat) : Int) by omega]
                        exact run_convert_int_float w 5 27 .u8 .f64 _ (by rw [Tryd.underlying5]; rfl) Tryd.underlying27
                      have hmul : ∀ w, (binOp .mul 27 (.float .f64 (W m)) (.float .f64 4621819117588971520)).run Tryd.prog w = .ok (.float .f64 (W (m * 10))) w := fun w => run_float_arith w .mul 27 .f64 _ _ _ (W_mul (by omega))
                      have hfo : floatOfInt .f64 ((((⟨(q).toArray⟩ : ByteArray)[K]'hlt).toNat : Int) - 48) = W (((⟨(q).toArray⟩ : ByteArray)[K]'hlt).toNat - 48) := of_byte d1
                      have hadd : ∀ w, (binOp .add 27 (.float .f64 (W (m * 10))) (.float .f64 (floatOfInt .f64 ((((⟨(q).toArray⟩ : ByteArray)[K]'hlt).toNat : Int) - 48)))).run Tryd.prog w = .ok (.float .f64 (W (m * 10 + (((⟨(q).toArray⟩ : ByteArray)[K]'hlt).toNat - 48)))) w := fun w => by
                        rw [hfo]
                        exact run_float_arith w .add 27 .f64 _ _ _ (W_add (by omega) (by omega))
                      have hpa : ∀ w, (binOp .mul 27 (.float .f64 (T a)) (.float .f64 4621819117588971520)).run Tryd.prog w = .ok (.float .f64 (T (a + 1))) w := fun w => run_float_arith w .mul 27 .f64 _ _ _ (T_mul (by omega))
                      have hml := next_lt (c := ((⟨(q).toArray⟩ : ByteArray)[K]'hlt).toNat - 48) hm10 (by omega)
                      have hff : d + 1 + figs ((q).drop (K + 1)) ≤ 15 := by have := figs_digit (c := (q)[K]) hd.1 hd.2; omega
                      have hss := HS.out
                      rw [scan_digit hd.1 hd.2] at hss
                      have HSS := Lib.hid hss
                      clear hss HS e10 hm10 hfo hcv
                      go_wp2
                      first
                        | exact ⟨⟨m * 10 + (((⟨(q).toArray⟩ : ByteArray)[K]'hlt).toNat - 48), a + 1, d + 1, K + 1, true, rfl, rfl, by go_num, rfl, by go_num, hlt, hml, by omega, hff, Lib.hid HSS.out, trivial⟩, by simp only [intOf]; omega⟩
                        | (refine ⟨?_, ?_⟩
                           · repeat apply Exists.intro
                             exact ⟨⟨m * 10 + (((⟨(q).toArray⟩ : ByteArray)[K]'hlt).toNat - 48), a + 1, d + 1, K + 1, true, rfl, rfl, by go_num, rfl, by go_num, hlt, hml, by omega, hff, Lib.hid HSS.out, trivial⟩, rfl⟩
                           · simp [intOf]; omega)
                    · have hnd : ((⟨(q).toArray⟩ : ByteArray)[K]'hlt).toNat < 48 ∨ 57 < ((⟨(q).toArray⟩ : ByteArray)[K]'hlt).toNat := by
                        have : ¬ (48 ≤ ((⟨(q).toArray⟩ : ByteArray)[K]'hlt).toNat ∧ ((⟨(q).toArray⟩ : ByteArray)[K]'hlt).toNat ≤ 57) := hd
                        omega
                      have hss := HS.out
                      rw [scan_other hd (by exact fun _ => rfl)] at hss
                      have HSS := Lib.hid hss
                      clear hss HS
                      rcases hnd with hnd | hnd
                      · go_wp2_with (go_at_call 12; ((with_reducible refine hn.mono ?_); rintro e w' ⟨rfl, hww⟩; rw [hww]; clear hww))
                        all_goals
                          go_ret
                          exact ⟨by rw [HT.out, told_none BB2.out.1 HSS.out]; rfl, Below.refl _ _⟩
                      · go_wp2_with (go_at_call 12; ((with_reducible refine hn.mono ?_); rintro e w' ⟨rfl, hww⟩; rw [hww]; clear hww))
                        all_goals
                          go_ret
                          exact ⟨by rw [HT.out, told_none BB2.out.1 HSS.out]; rfl, Below.refl _ _⟩
                · have eK : K = (q).length := by omega
                  have hss := hsc.out
                  rw [eK, List.drop_length] at hss
                  have HSS := Lib.hid hss
                  clear hss hsc
                  have hd15 : d ≤ 15 := by omega
                  have hdiv : ∀ w, (binOp .quo 27 (.float .f64 (sgn true m)) (.float .f64 (T a))).run Tryd.prog w = .ok (.float .f64 (val true m a)) w := fun w => run_float_arith w .quo 27 .f64 _ _ _ (div_val true (Nat.lt_trans hm10 (pow_lt hd15)) (Nat.le_trans ha hd15))
                  have hneg : ∀ w, (Op.unary .neg (.float .f64 (W m))).run Tryd.prog w = .ok (.float .f64 (sgn true m)) w := fun w => neg_run m w
                  by_cases hd0 : d = 0
                  · have hd0' : (d : Int) = 0 := by omega
                    go_wp2_with (go_at_call 12; ((with_reducible refine hn.mono ?_); rintro e w' ⟨rfl, hww⟩; rw [hww]; clear hww))
                    go_ret
                    exact ⟨by rw [HT.out, told_zero BB2.out.1 HSS.out hd0]; rfl, Below.refl _ _⟩
                  · have hd0' : ¬ (d : Int) = 0 := by omega
                    go_wp2
                    go_ret
                    exact ⟨by rw [HT.out, told_some BB2.out.1 BB2.out.2 HSS.out hd0]; rfl, Below.refl _ _⟩
            · have hm' : ¬ ((⟨(c :: q).toArray⟩ : ByteArray)[0]'(Nat.succ_pos _)).toNat = 45 := hm
              go_wp2_with (go_at_call 13; ((with_reducible refine hw.mono ?_); rintro e w' ⟨rfl, hww⟩; rw [hww]; clear hww))
              clear hw
              have BB := Lib.hid (body_plain (q := q) hm)
              obtain ⟨b, hb⟩ : ∃ b, b = c :: q := ⟨_, rfl⟩
              have FG : 0 + figs (List.drop 0 b) ≤ 15 := by rw [List.drop_zero, Nat.zero_add, hb]; exact hfq
              have BB2 : Hid (bodyOf (c :: q) = b ∧ minusOf (c :: q) = false) := Lib.hid (by rw [hb]; exact BB.out)
              have hbl : b.length ≤ l.length := by rw [hb]; exact hq
              generalize (Value.int .u8 (((⟨(c :: q).toArray⟩ : ByteArray)[0]'(Nat.succ_pos _)).toNat : Int)) = v0
              generalize (Value.int .u8 (((⟨(c :: q).toArray⟩ : ByteArray)[q.length]'(Nat.lt_succ_self _)).toNat : Int)) = v1
              have he : ((((⟨(c :: q).toArray⟩ : ByteArray)[0]'(Nat.succ_pos _)).toNat : Int) == 45) = false := beq_eq_false_iff_ne.2 (by omega)
              rw [he]
              rw [← hb]
              clear BB hb hfq hx' hm' he
              go_loopw [4, 5, 6, 7, 8] (fun x1 x2 x3 x4 x5 wr' => ∃ (m a d K : Nat) (p : Bool), x1 = .float .f64 (W m) ∧ x2 = .float .f64 (T a) ∧ x3 = .int .i64 d ∧ x4 = .bool p ∧ x5 = .int .i64 K ∧ K ≤ (b).length ∧ m < 10 ^ d ∧ a ≤ d ∧ d + figs ((b).drop K) ≤ 15 ∧ Hid (scan ((b).drop K) m a d p = scan (b) 0 0 0 false) ∧ wr' = wr) (fun _ _ _ _ x5 _ => (b).length - (intOf x5).toNat)
              case atStart => exact ⟨0, 0, 0, 0, false, by rw [W_zero], by rw [T_zero], rfl, rfl, rfl, Nat.zero_le _, by decide, Nat.le_refl _, FG, Lib.hid rfl, rfl⟩
              case round =>
                obtain ⟨m, a, d, K, p, rfl, rfl, rfl, rfl, rfl, hK, hm10, ha, hfd, hsc, rfl⟩ := hrel
                by_cases hlt : K < (b).length
                · have hx : (b).drop K = (b)[K] :: (b).drop (K + 1) := List.drop_eq_getElem_cons hlt
                  have hs2 := hsc.out
                  rw [hx] at hs2 hfd
                  rw [figs_cons] at hfd
                  have HS := Lib.hid hs2
                  clear hsc hs2 hx
                  cases p
                  · by_cases h46 : (b)[K].toNat = 46
                    · have h46' : ((⟨(b).toArray⟩ : ByteArray)[K]'hlt).toNat = 46 := h46
                      have hss := HS.out
                      rw [scan_dot h46] at hss
                      have HSS := Lib.hid hss
                      clear hss HS
                      go_wp2
                      first
                        | exact ⟨⟨m, a, d, K + 1, true, rfl, rfl, rfl, rfl, by go_num, hlt, hm10, ha, by omega, Lib.hid HSS.out, trivial⟩, by simp only [intOf]; omega⟩
                        | (refine ⟨?_, ?_⟩
                           · repeat apply Exists.intro
                             exact ⟨⟨m, a, d, K + 1, true, rfl, rfl, rfl, rfl, by go_num, hlt, hm10, ha, by omega, Lib.hid HSS.out, trivial⟩, rfl⟩
                           · simp [intOf]; omega)
                    · have h46' : ¬ ((⟨(b).toArray⟩ : ByteArray)[K]'hlt).toNat = 46 := h46
                      by_cases hd : 48 ≤ (b)[K].toNat ∧ (b)[K].toNat ≤ 57
                      · have d1 : 48 ≤ ((⟨(b).toArray⟩ : ByteArray)[K]'hlt).toNat := hd.1
                        have d2 : ((⟨(b).toArray⟩ : ByteArray)[K]'hlt).toNat ≤ 57 := hd.2
                        have d3 : ((⟨(b).toArray⟩ : ByteArray)[K]'hlt).toNat ≠ 46 := by omega
                        have hd14 : d ≤ 14 := by have := figs_digit (c := (b)[K]) hd.1 hd.2; omega
                        have e10 := ten_le hd14
                        have hcv : ∀ w, (convert 5 27 (.int .u8 ((((⟨(b).toArray⟩ : ByteArray)[K]'hlt).toNat : Int) - 48))).run Tryd.prog w = .ok (.float .f64 (W (((⟨(b).toArray⟩ : ByteArray)[K]'hlt).toNat - 48))) w := fun w => by
                          rw [show ((((⟨(b).toArray⟩ : ByteArray)[K]'hlt).toNat : Int) - 48) = ((((⟨(b).toArray⟩ : ByteArray)[K]'hlt).toNat - 48 : Nat) : Int) by omega]
                          exact run_convert_int_float w 5 27 .u8 .f64 _ (by rw [Tryd.underlying5]; rfl) Tryd.underlying27
                        have hmul : ∀ w, (binOp .mul 27 (.float .f64 (W m)) (.float .f64 4621819117588971520)).run Tryd.prog w = .ok (.float .f64 (W (m * 10))) w := fun w => run_float_arith w .mul 27 .f64 _ _ _ (W_mul (by omega))
                        have hfo : floatOfInt .f64 ((((⟨(b).toArray⟩ : ByteArray)[K]'hlt).toNat : Int) - 48) = W (((⟨(b).toArray⟩ : ByteArray)[K]'hlt).toNat - 48) := of_byte d1
                        have hadd : ∀ w, (binOp .add 27 (.float .f64 (W (m * 10))) (.float .f64 (floatOfInt .f64 ((((⟨(b).toArray⟩ : ByteArray)[K]'hlt).toNat : Int) - 48)))).run Tryd.prog w = .ok (.float .f64 (W (m * 10 + (((⟨(b).toArray⟩ : ByteArray)[K]'hlt).toNat - 48)))) w := fun w => by
                          rw [hfo]
                          exact run_float_arith w .add 27 .f64 _ _ _ (W_add (by omega) (by omega))
                        have hpa : ∀ w, (binOp .mul 27 (.float .f64 (T a)) (.float .f64 4621819117588971520)).run Tryd.prog w = .ok (.float .f64 (T (a + 1))) w := fun w => run_float_arith w .mul 27 .f64 _ _ _ (T_mul (by omega))
                        have hml := next_lt (c := ((⟨(b).toArray⟩ : ByteArray)[K]'hlt).toNat - 48) hm10 (by omega)
                        have hff : d + 1 + figs ((b).drop (K + 1)) ≤ 15 := by have := figs_digit (c := (b)[K]) hd.1 hd.2; omega
                        have hss := HS.out
                        rw [scan_digit hd.1 hd.2] at hss
                        have HSS := Lib.hid hss
                        clear hss HS e10 hm10 hfo hcv
                        go_wp2
                        first
                          | exact ⟨⟨m * 10 + (((⟨(b).toArray⟩ : ByteArray)[K]'hlt).toNat - 48), a, d + 1, K + 1, false, rfl, rfl, by go_num, rfl, by go_num, hlt, hml, by omega, hff, Lib.hid HSS.out, trivial⟩, by simp only [intOf]; omega⟩
                          | (refine ⟨?_, ?_⟩
                             · repeat apply Exists.intro
                               exact ⟨⟨m * 10 + (((⟨(b).toArray⟩ : ByteArray)[K]'hlt).toNat - 48), a, d + 1, K + 1, false, rfl, rfl, by go_num, rfl, by go_num, hlt, hml, by omega, hff, Lib.hid HSS.out, trivial⟩, rfl⟩
                             · simp [intOf]; omega)
                      · have hnd : ((⟨(b).toArray⟩ : ByteArray)[K]'hlt).toNat < 48 ∨ 57 < ((⟨(b).toArray⟩ : ByteArray)[K]'hlt).toNat := by
                          have : ¬ (48 ≤ ((⟨(b).toArray⟩ : ByteArray)[K]'hlt).toNat ∧ ((⟨(b).toArray⟩ : ByteArray)[K]'hlt).toNat ≤ 57) := hd
                          omega
                        have hss := HS.out
                        rw [scan_other hd (by exact fun h => absurd h h46)] at hss
                        have HSS := Lib.hid hss
                        clear hss HS
                        rcases hnd with hnd | hnd
                        · go_wp2_with (go_at_call 12; ((with_reducible refine hn.mono ?_); rintro e w' ⟨rfl, hww⟩; rw [hww]; clear hww))
                          all_goals
                            go_ret
                            exact ⟨by rw [HT.out, told_none BB2.out.1 HSS.out]; rfl, Below.refl _ _⟩
                        · go_wp2_with (go_at_call 12; ((with_reducible refine hn.mono ?_); rintro e w' ⟨rfl, hww⟩; rw [hww]; clear hww))
                          all_goals
                            go_ret
                            exact ⟨by rw [HT.out, told_none BB2.out.1 HSS.out]; rfl, Below.refl _ _⟩
                  · by_cases hd : 48 ≤ (b)[K].toNat ∧ (b)[K].toNat ≤ 57
                    · have d1 : 48 ≤ ((⟨(b).toArray⟩ : ByteArray)[K]'hlt).toNat := hd.1
                      have d2 : ((⟨(b).toArray⟩ : ByteArray)[K]'hlt).toNat ≤ 57 := hd.2
                      have d3 : ((⟨(b).toArray⟩ : ByteArray)[K]'hlt).toNat ≠ 46 := by omega
                      have hd14 : d ≤ 14 := by have := figs_digit (c := (b)[K]) hd.1 hd.2; omega
                      have e10 := ten_le hd14
                      have hcv : ∀ w, (convert 5 27 (.int .u8 ((((⟨(b).toArray⟩ : ByteArray)[K]'hlt).toNat : Int) - 48))).run Tryd.prog w = .ok (.float .f64 (W (((⟨(b).toArray⟩ : ByteArray)[K]'hlt).toNat - 48))) w := fun w => by
                        rw [show ((((⟨(b).toArray⟩ : ByteArray)[K]'hlt).toNat : Int) - 48) = ((((⟨(b).toArray⟩ : ByteArray)[K]'hlt).toNat - 48 : Nat) : Int) by omega]
                        exact run_convert_int_float w 5 27 .u8 .f64 _ (by rw [Tryd.underlying5]; rfl) Tryd.underlying27
                      have hmul : ∀ w, (binOp .mul 27 (.float .f64 (W m)) (.float .f64 4621819117588971520)).run Tryd.prog w = .ok (.float .f64 (W (m * 10))) w := fun w => run_float_arith w .mul 27 .f64 _ _ _ (W_mul (by omega))
                      have hfo : floatOfInt .f64 ((((⟨(b).toArray⟩ : ByteArray)[K]'hlt).toNat : Int) - 48) = W (((⟨(b).toArray⟩ : ByteArray)[K]'hlt).toNat - 48) := of_byte d1
                      have hadd : ∀ w, (binOp .add 27 (.float .f64 (W (m * 10))) (.float .f64 (floatOfInt .f64 ((((⟨(b).toArray⟩ : ByteArray)[K]'hlt).toNat : Int) - 48)))).run Tryd.prog w = .ok (.float .f64 (W (m * 10 + (((⟨(b).toArray⟩ : ByteArray)[K]'hlt).toNat - 48)))) w := fun w => by
                        rw [hfo]
                        exact run_float_arith w .add 27 .f64 _ _ _ (W_add (by omega) (by omega))
                      have hpa : ∀ w, (binOp .mul 27 (.float .f64 (T a)) (.float .f64 4621819117588971520)).run Tryd.prog w = .ok (.float .f64 (T (a + 1))) w := fun w => run_float_arith w .mul 27 .f64 _ _ _ (T_mul (by omega))
                      have hml := next_lt (c := ((⟨(b).toArray⟩ : ByteArray)[K]'hlt).toNat - 48) hm10 (by omega)
                      have hff : d + 1 + figs ((b).drop (K + 1)) ≤ 15 := by have := figs_digit (c := (b)[K]) hd.1 hd.2; omega
                      have hss := HS.out
                      rw [scan_digit hd.1 hd.2] at hss
                      have HSS := Lib.hid hss
                      clear hss HS e10 hm10 hfo hcv
                      go_wp2
                      first
                        | exact ⟨⟨m * 10 + (((⟨(b).toArray⟩ : ByteArray)[K]'hlt).toNat - 48), a + 1, d + 1, K + 1, true, rfl, rfl, by go_num, rfl, by go_num, hlt, hml, by omega, hff, Lib.hid HSS.out, trivial⟩, by simp only [intOf]; omega⟩
                        | (refine ⟨?_, ?_⟩
                           · repeat apply Exists.intro
                             exact ⟨⟨m * 10 + (((⟨(b).toArray⟩ : ByteArray)[K]'hlt).toNat - 48), a + 1, d + 1, K + 1, true, rfl, rfl, by go_num, rfl, by go_num, hlt, hml, by omega, hff, Lib.hid HSS.out, trivial⟩, rfl⟩
                           · simp [intOf]; omega)
                    · have hnd : ((⟨(b).toArray⟩ : ByteArray)[K]'hlt).toNat < 48 ∨ 57 < ((⟨(b).toArray⟩ : ByteArray)[K]'hlt).toNat := by
                        have : ¬ (48 ≤ ((⟨(b).toArray⟩ : ByteArray)[K]'hlt).toNat ∧ ((⟨(b).toArray⟩ : ByteArray)[K]'hlt).toNat ≤ 57) := hd
                        omega
                      have hss := HS.out
                      rw [scan_other hd (by exact fun _ => rfl)] at hss
                      have HSS := Lib.hid hss
                      clear hss HS
                      rcases hnd with hnd | hnd
                      · go_wp2_with (go_at_call 12; ((with_reducible refine hn.mono ?_); rintro e w' ⟨rfl, hww⟩; rw [hww]; clear hww))
                        all_goals
                          go_ret
                          exact ⟨by rw [HT.out, told_none BB2.out.1 HSS.out]; rfl, Below.refl _ _⟩
                      · go_wp2_with (go_at_call 12; ((with_reducible refine hn.mono ?_); rintro e w' ⟨rfl, hww⟩; rw [hww]; clear hww))
                        all_goals
                          go_ret
                          exact ⟨by rw [HT.out, told_none BB2.out.1 HSS.out]; rfl, Below.refl _ _⟩
                · have eK : K = (b).length := by omega
                  have hss := hsc.out
                  rw [eK, List.drop_length] at hss
                  have HSS := Lib.hid hss
                  clear hss hsc
                  have hd15 : d ≤ 15 := by omega
                  have hdiv : ∀ w, (binOp .quo 27 (.float .f64 (W m)) (.float .f64 (T a))).run Tryd.prog w = .ok (.float .f64 (val false m a)) w := fun w => run_float_arith w .quo 27 .f64 _ _ _ (by rw [← sgn_W]; exact div_val false (Nat.lt_trans hm10 (pow_lt hd15)) (Nat.le_trans ha hd15))
                  by_cases hd0 : d = 0
                  · have hd0' : (d : Int) = 0 := by omega
                    go_wp2_with (go_at_call 12; ((with_reducible refine hn.mono ?_); rintro e w' ⟨rfl, hww⟩; rw [hww]; clear hww))
                    go_ret
                    exact ⟨by rw [HT.out, told_zero BB2.out.1 HSS.out hd0]; rfl, Below.refl _ _⟩
                  · have hd0' : ¬ (d : Int) = 0 := by omega
                    go_wp2
                    go_ret
                    exact ⟨by rw [HT.out, told_some BB2.out.1 BB2.out.2 HSS.out hd0]; rfl, Below.refl _ _⟩
end Go.Proofs.YtabjmoaijepdjaaDoor.Spn
