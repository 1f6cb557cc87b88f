/-
  For every number of quarters the package writes the decimals that the reference writes: the contract of the law's function. Its row's list of variables is tied to the program's text by the given tie; no condition beyond the statement's own.
-/
import Derived.Test.YtiamghbefallkaaDoorDig
import Derived.Test.YtiamghbefallkaaDoorCards
import Derived.Test.YtiamghbefallkaaDoorTie
import Derived.Deep.RegionWith
import Derived.Deep.DeepHandedRow
import Derived.Deep.DeepWitnessRowRef
import Derived.Lib.LaidTab
import Derived.Lib.LaidU8
namespace Go.Proofs.YtiamghbefallkaaDoor.Law
open Go.ChangeShapes Go.WideShapes Go.ChangeAt Go.RowKit
open Go.Proofs.YtiamghbefallkaaDoor.Flt Go.Proofs.YtiamghbefallkaaDoor.Joi Go.Proofs.YtiamghbefallkaaDoor.Num Go.Proofs.YtiamghbefallkaaDoor.Dig

theorem dec_ne (n : Int) : dec n ≠ [] := by
  intro h
  have h1 := congrArg List.length h
  unfold dec at h1
  simp only [List.length_append, Lib.decDigits_length, List.length_nil] at h1
  have := Lib.nDigits_pos (n.natAbs / 4)
  omega

theorem impl_any {n : Int} (hn : n.natAbs ≤ 2 ^ 40) (w : World) (ht : Tabs w) : Calls Tryd.prog 5 #[.float .f64 (Q n)] w fun e w' => e = .returned (.string ⟨(dec n).toArray⟩) ∧ Below w.heap.size w w' := by
  by_cases h0 : n = 0
  · subst h0
    have e : (⟨(dec 0).toArray⟩ : ByteArray) = ⟨#[48]⟩ := by
      have : dec 0 = [48] := by
        unfold dec
        rw [show (0 : Int).natAbs / 4 = 0 from rfl, show (0 : Int).natAbs % 4 = 0 from rfl, Lib.decDigits_one (by decide)]
        rfl
      rw [this]
    rw [e]
    exact format_zero w
  · exact format_any (by omega) h0 w _ (Lib.hid (Fmt.float_any w (Q n) (dec n) (dec_ne n) (Lib.hid fun W v hb hv => ftoa_Q h0 hn w W v ht hb hv)))

theorem dec10 : dec 10 = [50, 46, 53] := by
  unfold dec
  rw [show (10 : Int).natAbs / 4 = 2 from rfl, show (10 : Int).natAbs % 4 = 2 from rfl, Lib.decDigits_one (by decide)]
  rfl
theorem q10 : 4612811918334230528 = Q 10 := by decide +kernel

theorem impl_const (w : World) (ht : Tabs w) : Calls Tryd.prog 5 #[.float .f64 4612811918334230528] w fun e w' => e = .returned (.string ⟨#[50, 46, 53]⟩) ∧ Below w.heap.size w w' := by
  have := impl_any (n := 10) (by decide) w ht
  rw [dec10, ← q10] at this
  exact this

theorem within_yes {n : Int} (h1 : -1099511627776 ≤ n) (h2 : n ≤ 1099511627776) (w : World) :
    Calls Tryd.prog 4 #[.int .i64 n, .int .i64 (-1099511627776), .int .i64 1099511627776] w fun e w' => e = .returned (.bool true) ∧ w = w' := by
  have d1 : decide (-1099511627776 ≤ n) = true := by simpa using h1
  have d2 : decide (n ≤ 1099511627776) = true := by simpa using h2
  go_enter Tryd.func4, Tryd.ntmps4
  go_wp2
  all_goals (go_ret; exact ⟨by first | rfl | simp [*], rfl⟩)

theorem within_no {n : Int} (h : n < -1099511627776 ∨ 1099511627776 < n) (w : World) :
    Calls Tryd.prog 4 #[.int .i64 n, .int .i64 (-1099511627776), .int .i64 1099511627776] w fun e w' => e = .returned (.bool false) ∧ w = w' := by
  by_cases h1 : -1099511627776 ≤ n
  · have d1 : decide (-1099511627776 ≤ n) = true := by simpa using h1
    have d2 : decide (n ≤ 1099511627776) = false := by simp; omega
    clear h h1
    go_enter Tryd.func4, Tryd.ntmps4
    go_wp2
    all_goals (go_ret; exact ⟨by first | rfl | simp [*], rfl⟩)
  · have d1 : decide (-1099511627776 ≤ n) = false := by simp; omega
    clear h h1
    go_enter Tryd.func4, Tryd.ntmps4
    go_wp2
    all_goals (go_ret; exact ⟨by first | rfl | simp [*], rfl⟩)

theorem law_out (n : Int) (w : World) (ht : Tabs w) (h : n < -1099511627776 ∨ 1099511627776 < n) : Calls Tryd.prog 3 #[.int .i64 n] w fun e w' => e = .returned (.bool true) ∧ Below w.heap.size w w' := by
  have H := Lib.hid h
  have HT := Lib.hid ht
  clear h ht
  go_enter Tryd.func3, Tryd.ntmps3
  go_wp2_with (first | (go_at_call 5; refine (impl_const _ HT.out).mono ?_; rintro e w' ⟨rfl, hb⟩) | (go_at_call 4; refine (within_no H.out _).mono ?_; rintro e w' ⟨rfl, rfl⟩))
  go_ret
  exact ⟨rfl, by assumption⟩

theorem law_in (n : Int) (w : World) (ht : Tabs w) (h1 : -1099511627776 ≤ n) (h2 : n ≤ 1099511627776) : Calls Tryd.prog 3 #[.int .i64 n] w fun e w' => e = .returned (.bool true) ∧ Below w.heap.size w w' := by
  have hn : n.natAbs ≤ 2 ^ 40 := by omega
  have f1 : ∀ w, (binOp .quo 24 (.float .f64 (floatOfInt .f64 n)) (.float .f64 4616189618054758400)).run Tryd.prog w = .ok (.float .f64 (Q n)) w :=
    fun w => run_float_arith w .quo 24 .f64 _ _ _ (div_four (by omega))
  have HN := Lib.hid hn
  have G := Lib.hid (And.intro h1 h2)
  have HT := Lib.hid ht
  clear ht hn h1 h2
  go_enter Tryd.func3, Tryd.ntmps3
  go_wp2_with (first
    | (go_at_call 4; refine (within_yes G.out.1 G.out.2 _).mono ?_; rintro e w' ⟨rfl, rfl⟩)
    | (go_at_call 6; refine (digits_any HN.out _).mono ?_; rintro e w1 ⟨rfl, hb1⟩; have HT1 := Lib.hid (HT.out.on hb1); have HB1 := Lib.hid hb1; clear hb1)
    | (go_at_call_of 5 (Value.float .f64 4612811918334230528); refine (impl_const _ HT2.out).mono ?_; rintro e w3 ⟨rfl, hb3⟩)
    | (go_at_call 5; refine (impl_any HN.out _ HT1.out).mono ?_; rintro e w2 ⟨rfl, hb2⟩; have HT2 := Lib.hid (HT1.out.on hb2); have HB2 := Lib.hid hb2; clear hb2))
  go_ret
  exact ⟨rfl, HB1.out.trans ((HB2.out.mono HB1.out.size).trans (Below.mono (by assumption) (Nat.le_trans HB1.out.size HB2.out.size)))⟩

theorem law_any (n : Int) (w : World) (ht : Tabs w) : Calls Tryd.prog 3 #[.int .i64 n] w fun e w' => e = .returned (.bool true) ∧ Below w.heap.size w w' := by
  by_cases h : -1099511627776 ≤ n ∧ n ≤ 1099511627776
  · exact law_in n w ht h.1 h.2
  · exact law_out n w ht (by omega)

/-! ### The tables, out of the row's list -/

theorem gLow : Tryd.prog.globalNamed "internal/strconv.uint64pow10" = some 2 := by kernel_rfl
theorem gTen : Tryd.prog.globalNamed "internal/strconv.pow10Tab" = some 3 := by kernel_rfl
theorem tLow : (Tryd.prog.globals[2]?).map (·.type) = some 74 := by kernel_rfl
theorem tTen : (Tryd.prog.globals[3]?).map (·.type) = some 84 := by kernel_rfl
theorem u84 : Tryd.prog.underlying 84 = some (.array 696 83) := by kernel_rfl
theorem c84 : Tryd.prog.cellsOf 84 = 1392 := by kernel_rfl
theorem c83 : Tryd.prog.cellsOf 83 = 2 := by kernel_rfl
theorem c35 : Tryd.prog.cellsOf 35 = 1 := by kernel_rfl
theorem low_data : (Rows.laid_internal_strconv_uint64pow10 : DataW Unit) = Lib.tabData .u64 Lib.pow10Tab := by kernel_rfl

theorem low_of {W : World} (h : laidMetH Tryd.prog Rows.fnExactFormatRow.laid W) : Lib.TabIs Tryd.prog W "internal/strconv.uint64pow10" .u64 Lib.pow10Tab := by
  have h' : laidMet Tryd.prog Rows.fnExactFormatRow.laid W := h
  obtain ⟨g, t, cs, fuel, p, h1, h2, h3, h4⟩ := Lib.laidMet.reads h' (n := "internal/strconv.uint64pow10") (d := Rows.laid_internal_strconv_uint64pow10) (by simp [Rows.fnExactFormatRow])
  obtain rfl := Option.some.inj (gLow.symm.trans h1)
  obtain rfl := Option.some.inj (tLow.symm.trans h2)
  rw [low_data] at h4
  unfold Lib.TabIs
  rw [h3, ← Lib.cells_of_tab Tryd.underlying74 Tryd.underlying35 c35 (by kernel_rfl) h4]


/-- AN ARRAY OF PAIRS THAT READS AS THE TABLE HOLDS ITS NUMBERS, CELL FOR CELL. -/
theorem cells_of_pairs {W : World} {fuel : Nat} {cs : List Value} {p : List MemPlace} {rows : List (Nat × Nat)}
    (h : DataW.trod (fun _ => ()) Tryd.prog W 0 (fun _ => true) false fuel 84 cs = some (.agg (rows.map fun x => DataW.agg [.lit (.int .u64 (x.1 : Int)), .lit (.int .u64 (x.2 : Int))]), p)) :
    ∀ i x, rows[i]? = some x → cs[2 * i]? = some (.int .u64 (x.1 : Int)) ∧ cs[2 * i + 1]? = some (.int .u64 (x.2 : Int)) := by
  cases fuel with
  | zero => simp [DataW.trod] at h
  | succ fuel =>
    simp only [DataW.trod, u84, c83, c84] at h
    split at h
    · obtain ⟨xs, hm, hx⟩ := Option.map_eq_some_iff.1 h
      have hxs : xs.map (·.1) = rows.map fun x => (DataW.agg [.lit (.int .u64 (x.1 : Int)), .lit (.int .u64 (x.2 : Int))] : DataW Unit) := by
        have := congrArg Prod.fst hx
        simpa using this
      have hxl : xs.length = 696 := by simpa using Lib.mapM_length hm
      intro i x hi
      have hil : i < rows.length := (List.getElem?_eq_some_iff.1 hi).1
      have hrl : rows.length = 696 := by
        have := congrArg List.length hxs
        simp at this
        omega
      obtain ⟨b, hb, hf⟩ := Lib.mapM_at hm i i (by simp [← hrl, hil])
      have h1 : b.1 = DataW.agg [.lit (.int .u64 (x.1 : Int)), .lit (.int .u64 (x.2 : Int))] := by
        have := congrArg (·[i]?) hxs
        simpa [hb, hi] using this
      have hcs := Lib.ints_of_struct (zs := [(x.1 : Int), (x.2 : Int)]) (p := b.2) Tryd.underlying83 (fun q f hq => by
        match q, hq with
        | 0, hq => simp at hq; subst hq; exact ⟨Tryd.underlying35, rfl, c35⟩
        | 1, hq => simp at hq; subst hq; exact ⟨Tryd.underlying35, rfl, c35⟩
        | q + 2, hq => simp at hq) c83 (by
          rw [hf]
          simp only [List.map_cons, List.map_nil]
          rw [← h1])
      have k0 := congrArg (·[0]?) hcs
      have k1 := congrArg (·[1]?) hcs
      simp only [List.getElem?_take, List.getElem?_drop, List.map_cons, List.map_nil, List.getElem?_cons_zero, List.getElem?_cons_succ] at k0 k1
      refine ⟨?_, ?_⟩
      · rw [Nat.mul_comm]; simpa using k0
      · rw [Nat.mul_comm]; simpa using k1
    · cases h

theorem rows_len : Pinned.pow10Rows.length = 696 := by decide +kernel

theorem ten_of {W : World} (h : laidMetH Tryd.prog Rows.fnExactFormatRow.laid W) (P : Nat) (hP : P ≤ 20) :
    W.cell? ⟨3, (P + 348) * 2, none⟩ = some (.int .u64 (Pln.hiOf P : Int)) ∧ W.cell? ⟨3, (P + 348) * 2 + 1, none⟩ = some (.int .u64 (Pln.loOf P : Int)) := by
  have h' : laidMet Tryd.prog Rows.fnExactFormatRow.laid W := h
  obtain ⟨g, t, cs, fuel, p, h1, h2, h3, h4⟩ := Lib.laidMet.reads h' (n := "internal/strconv.pow10Tab") (d := Rows.laid_internal_strconv_pow10Tab) (by simp [Rows.fnExactFormatRow])
  obtain rfl := Option.some.inj (gTen.symm.trans h1)
  obtain rfl := Option.some.inj (tTen.symm.trans h2)
  have hlt : P + 348 < Pinned.pow10Rows.length := by rw [rows_len]; omega
  have hr : Pinned.pow10Rows[P + 348]? = some (Pinned.pow10Rows.getD (P + 348) (0, 0)) := by
    rw [List.getD_eq_getElem?_getD, List.getElem?_eq_getElem hlt]
    rfl
  obtain ⟨k0, k1⟩ := cells_of_pairs (rows := Pinned.pow10Rows) h4 (P + 348) _ hr
  have e0 := World.var?_cell gTen h3 ((P + 348) * 2)
  have e1 := World.var?_cell gTen h3 ((P + 348) * 2 + 1)
  rw [e0, e1]
  rw [Nat.mul_comm] at k0 k1
  exact ⟨by simpa [Pln.hiOf] using k0, by simpa [Pln.loOf] using k1⟩

theorem tabs_of {W : World} (h : laidMetH Tryd.prog Rows.fnExactFormatRow.laid W) : Tabs W := ⟨ten_of h, low_of h⟩

/-- WHAT THE WALK GIVES, FOR EVERY ARGUMENT AND EVERY WORLD THAT HOLDS THE TABLES. -/
theorem contract (H : Type) (enc : TypeId × Value → H) (W : World) (base : Nat) (args : Array Value) (ds gs : List (DataW H)) (before : List MemPlace)
    (hval : ∀ (j : Nat) t v, Tryd.f3.params[j]? = some t → args[j]? = some v → Value.okWide Tryd.prog W .any base t v)
    (hW : DataW.Whole enc Tryd.prog Tryd.f3.params.toList Rows.fnExactFormatSpec.vars false W args.toList ds gs before) (hL : laidMetH Tryd.prog Rows.fnExactFormatRow.laid W) :
    Calls Tryd.prog 3 args W fun e W' => ∃ v, e = .returned v ∧ Rows.fnExactFormatSpec.post enc Tryd.prog Tryd.f3 false true false false W args v W' := by
  have hW' := hW
  obtain ⟨p, q, hA0, hV, rfl, hfz, hnd⟩ := hW
  have hA : DataW.TrodAll enc Tryd.prog W 0 (fun _ => true) true Tryd.f3.params.toList args.toList ds p := hA0
  rw [Tryd.params3] at hA hval
  obtain ⟨v0, vs0, d0, ds0, p0, q0, hargs, rfl, rfl, h0, r0⟩ := trodAll_cons hA
  obtain ⟨rfl, rfl, rfl⟩ := trodAll_nil r0
  obtain rfl : args = #[v0] := by cases args; simp_all
  obtain ⟨rfl, rfl⟩ := trodVars_none hV
  obtain ⟨n, rfl, rfl, rfl, wn⟩ := open_int Tryd.underlying3 (hval 0 3 v0 rfl rfl) h0
  clear hA0
  simp only [List.append_nil] at hW'
  refine (law_any n W (tabs_of hL)).mono fun e W' ⟨he, hb⟩ => ?_
  subst he
  exact ⟨_, rfl, _, _, _, [], [], [], hW', trodAll_cons_mk (shut_bool Tryd.underlying4 _) trodAll_mk0, trodAll_cons_mk (shut_int Tryd.underlying3 wn) trodAll_mk0, rfl, hb.frame _, fun h => by cases h⟩

end Go.Proofs.YtiamghbefallkaaDoor.Law
