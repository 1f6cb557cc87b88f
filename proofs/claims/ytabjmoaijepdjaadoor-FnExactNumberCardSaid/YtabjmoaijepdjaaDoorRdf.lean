/-
  The contract of internal/strconv.readFloat at texts of digits, points and letters that are none of a number's.
-/
import Derived.Test.YtabjmoaijepdjaaDoorSpn
import Derived.Test.YtabjmoaijepdjaaDoorShelf
import Derived.Deep.CutBlock
import Derived.Deep.DeepCutAuto
import Derived.WalkMore
namespace Go.Proofs.YtabjmoaijepdjaaDoor.Rdf
open Go.ChangeShapes Go.WideShapes Go.ChangeAt Go.RowKit Go.Sort
open Go.Proofs.YtabjmoaijepdjaaDoor.Flt Go.Proofs.YtabjmoaijepdjaaDoor.Wor Go.Proofs.YtabjmoaijepdjaaDoor.Scn Go.Proofs.YtabjmoaijepdjaaDoor.Spn

/-- A byte that is no underscore, e, x or plus. -/
def clean (c : UInt8) : Prop := c.toNat ≠ 95 ∧ c.toNat ≠ 101 ∧ c.toNat ≠ 69 ∧ c.toNat ≠ 120 ∧ c.toNat ≠ 88 ∧ c.toNat ≠ 43
theorem lo_all : ∀ n : Fin 256, (n.val ≠ 120 → n.val ≠ 88 → bits .or .u8 (n.val : Int) 32 ≠ 120) ∧ (n.val ≠ 101 → n.val ≠ 69 → bits .or .u8 (n.val : Int) 32 ≠ 101) := by decide +kernel
theorem lower_any (c : UInt8) (h : clean c) : ∃ X : Int, X ≠ 120 ∧ X ≠ 101 ∧ ∀ w, Calls Tryd.prog 60 #[.int .u8 c.toNat] w fun e w' => e = .returned (.int .u8 X) ∧ w' = w := by
  have hl := lo_all ⟨c.toNat, c.toNat_lt⟩
  exact ⟨_, hl.1 h.2.2.2.1 h.2.2.2.2.1, hl.2 h.2.1 h.2.2.1, fun w => Tryd.internal_strconv_lower _ w⟩

/-- What comes back of readFloat. -/
def RfPost (t : List UInt8) (w : World) (e : Ending) (w' : World) : Prop :=
  ∃ (m a i : Nat) (ok : Bool), e = .returned (.tuple #[.int .u64 m, .int .i64 (if m = 0 then 0 else -(a : Int)), .bool (minusOf t), .bool false, .bool false, .int .i64 i, .bool ok]) ∧
    m < 10 ^ 15 ∧ a ≤ 15 ∧ i ≤ t.length ∧ (ok = true → i = t.length → told t = some (val (minusOf t) m a)) ∧ (ok = true → i ≠ t.length → told t = none) ∧ (ok = false → told t = none) ∧ w' = w
theorem results_tmp7 {fn : Func} {t1 t2 t3 t4 t5 t6 t7 : Tmp} (h : fn.results = #[.tmp t1, .tmp t2, .tmp t3, .tmp t4, .tmp t5, .tmp t6, .tmp t7]) (tmps : Array Value) (P : Program) (w : World) :
    (results fn tmps).run P w = .ok (.tuple #[tmps.getD t1 undef, tmps.getD t2 undef, tmps.getD t3 undef, tmps.getD t4 undef, tmps.getD t5 undef, tmps.getD t6 undef, tmps.getD t7 undef]) w := by
  simp [results, h]
theorem minus_get {t : List UInt8} (h0 : 0 < t.length) : minusOf t = (t[0].toNat == 45) := by
  match t, h0 with
  | c :: r, _ => rfl
theorem body_drop {t : List UInt8} {mi : Bool} (h : minusOf t = mi) : bodyOf t = t.drop (if mi then 1 else 0) := by
  subst h
  unfold bodyOf
  split <;> simp

set_option maxHeartbeats 8000000 in
set_option maxRecDepth 100000 in
theorem readfloat_any (w : World) (t : List UInt8) (hs : t.length ≤ 9223372036854775800) (hf : figs t ≤ 15) (hc : Hid (∀ c ∈ t, clean c)) :
    Calls Tryd.prog 44 #[.string ⟨t.toArray⟩] w fun e w' => RfPost t w e w' := by
  by_cases h0 : 0 < t.length
  · have HM : Hid (minusOf t = (t[0].toNat == 45)) := Lib.hid (minus_get h0)
    have c0 := hc.out t[0] (List.getElem_mem h0)
    have p0 : ((⟨t.toArray⟩ : ByteArray)[0]'h0).toNat ≠ 43 := c0.2.2.2.2.2
    have hN : ¬ t = [] := List.ne_nil_of_length_pos h0
    clear c0
    go_enter Tryd.func44, Tryd.ntmps44
    go_upto_block 0 with fail
    go_step3
    go_upto_block 0 with fail
    go_cut [4, 7, 27] (fun s4 s7 _ wx => ∃ (mi : Bool) (K0 : Nat), s4 = .bool mi ∧ s7 = .int .i64 K0 ∧ K0 ≤ 1 ∧ Hid (minusOf t = mi ∧ bodyOf t = t.drop K0) ∧ wx = w)
    case first =>
      by_cases hm : t[0].toNat = 45
      · have hm' : ((⟨t.toArray⟩ : ByteArray)[0]'h0).toNat = 45 := hm
        have e1 : minusOf t = true := HM.out.trans (beq_iff_eq.2 hm)
        have HE := Lib.hid (And.intro e1 (body_drop e1))
        clear e1
        go_wp2
        go_meet
        case rel => exact ⟨true, 1, rfl, rfl, Nat.le_refl _, HE.out, rfl⟩
      · have hm' : ¬ ((⟨t.toArray⟩ : ByteArray)[0]'h0).toNat = 45 := hm
        have e1 : minusOf t = false := HM.out.trans (beq_eq_false_iff_ne.2 hm)
        have HE := Lib.hid (And.intro e1 (body_drop e1))
        clear e1
        go_wp2
        go_meet
        case rel => exact ⟨false, 0, rfl, rfl, Nat.zero_le _, HE.out, rfl⟩
    case rest =>
      obtain ⟨mi, K0, rfl, rfl, hK0, HE, rfl⟩ := hcut
      clear HM p0
      go_upto_region 12 with fail
      go_cut [54] (fun s54 wx => s54 = .bool false ∧ wx = wc)
      case first =>
        as_aux_lemma =>
          by_cases h2 : K0 + 2 < t.length
          · have hk0 : K0 < t.length := by omega
            have hk1 : K0 + 1 < t.length := by omega
            by_cases h48 : ((⟨t.toArray⟩ : ByteArray)[K0]'hk0).toNat = 48
            · obtain ⟨X, hX, _, hl⟩ := lower_any ((⟨t.toArray⟩ : ByteArray)[K0 + 1]'hk1) (hc.out _ (List.getElem_mem hk1))
              have hl' := hl wc
              clear hl
              go_wp2_with (go_at_call 60; ((with_reducible refine hl'.mono ?_); rintro e w' ⟨rfl, hww⟩; rw [hww]; clear hww))
              go_meet
              case rel => exact ⟨congrArg Value.bool (beq_eq_false_iff_ne.2 hX), rfl⟩
            · go_wp2
              go_meet
              case rel => exact ⟨rfl, rfl⟩
          · go_wp2
            go_meet
            case rel => exact ⟨rfl, rfl⟩
      case rest =>
        obtain ⟨rfl, rfl⟩ := hcut
        go_upto_block 1 with fail
        go_step3
        go_upto_block 1 with fail
        go_cut [2, 5, 7, 9, 13, 14, 15, 16, 17] (fun s2 s5 s7 s9 s13 s14 s15 s16 s17 wx => ∃ (m a d n K : Nat) (p g : Bool) (dp : Int), s2 = .int .u64 m ∧ s5 = .bool false ∧ s7 = .int .i64 K ∧ s9 = .bool false ∧ s13 = .bool p ∧ s14 = .bool g ∧ s15 = .int .i64 n ∧ s16 = .int .i64 n ∧ s17 = .int .i64 dp ∧ K ≤ t.length ∧ m < 10 ^ 15 ∧ a ≤ 15 ∧ n ≤ 15 ∧ -15 ≤ dp ∧ dp ≤ 15 ∧ (p = true → dp = n - a) ∧ (p = false → a = 0) ∧ (g = true ↔ 0 < d) ∧ (d = 0 → m = 0) ∧ Hid ((K = t.length → some (m, a, d) = scan (bodyOf t) 0 0 0 false) ∧ (K ≠ t.length → none = scan (bodyOf t) 0 0 0 false)) ∧ wx = wc)
        case first =>
          as_aux_lemma =>
            have FG : 0 + figs (t.drop K0) ≤ 15 := by rw [Nat.zero_add]; exact Nat.le_trans (List.Sublist.countP_le (List.drop_sublist K0 t)) hf
            go_wp2_with fail
            go_loopw [2, 5, 7, 9, 13, 14, 15, 16, 17] (fun x2 x5 x7 x9 x13 x14 x15 x16 x17 wr => ∃ (m a d n K : Nat) (p g : Bool) (dp : Int), x2 = .int .u64 m ∧ x5 = .bool false ∧ x7 = .int .i64 K ∧ x9 = .bool false ∧ x13 = .bool p ∧ x14 = .bool g ∧ x15 = .int .i64 n ∧ x16 = .int .i64 n ∧ x17 = .int .i64 dp ∧ K ≤ t.length ∧ m < 10 ^ d ∧ a ≤ d ∧ n ≤ d ∧ -d ≤ dp ∧ dp ≤ d ∧ Hid (p = true → dp = n - a) ∧ Hid (p = false → a = 0) ∧ Hid (g = true ↔ 0 < d) ∧ Hid (m = 0 ↔ n = 0) ∧ d + figs (t.drop K) ≤ 15 ∧ Hid (scan (t.drop K) m a d p = scan (bodyOf t) 0 0 0 false) ∧ wr = wc) (fun _ _ x7 _ _ _ _ _ _ _ => t.length - (intOf x7).toNat)
            case atStart => exact ⟨0, 0, 0, 0, K0, false, false, 0, rfl, rfl, rfl, rfl, rfl, rfl, rfl, rfl, rfl, by omega, by decide, Nat.le_refl _, Nat.le_refl _, by decide, by decide, Lib.hid (fun e => by cases e), Lib.hid (fun _ => rfl), Lib.hid (by decide), Lib.hid (by decide), FG, Lib.hid (by rw [HE.out.2]), rfl⟩
            case round =>
              obtain ⟨m, a, d, n, K, p, g, dp, rfl, rfl, rfl, rfl, rfl, rfl, rfl, rfl, rfl, hK, hm10, ha, hn, hdp1, hdp2, HP, HA, HG, HZ, hfd, hsc, rfl⟩ := hrel
              by_cases hlt : K < t.length
              · have hx : t.drop K = t[K] :: t.drop (K + 1) := List.drop_eq_getElem_cons hlt
                have hs2 := hsc.out
                rw [hx] at hs2 hfd
                rw [figs_cons] at hfd
                have HS := Lib.hid hs2
                have hcl := hc.out t[K] (List.getElem_mem hlt)
                have h95 : ((⟨t.toArray⟩ : ByteArray)[K]'hlt).toNat ≠ 95 := hcl.1
                clear hsc hs2 hx hcl
                by_cases h46 : t[K].toNat = 46
                · have h46' : ((⟨t.toArray⟩ : ByteArray)[K]'hlt).toNat = 46 := h46
                  have hd15 : d ≤ 15 := by omega
                  cases p
                  · have hss := HS.out
                    rw [scan_dot h46] at hss
                    have HSS := Lib.hid hss
                    clear hss HS
                    have ha0 : a = 0 := HA.out rfl
                    go_wp2
                    exact ⟨⟨m, a, d, n, K + 1, true, g, n, rfl, rfl, by go_num, rfl, rfl, rfl, rfl, rfl, rfl, hlt, hm10, ha, hn, by omega, by omega, Lib.hid (fun _ => by omega), Lib.hid (fun e => by cases e), HG, HZ, by omega, Lib.hid HSS.out, trivial⟩, by simp only [intOf]; omega⟩
                  · have hss := HS.out
                    rw [scan_other (by omega) (fun _ => rfl)] at hss
                    have HSS := Lib.hid hss
                    clear hss HS
                    have hm15 : m < 10 ^ 15 := Nat.lt_of_lt_of_le hm10 (Nat.pow_le_pow_right (by decide) hd15)
                    have hdm : d = 0 → m = 0 := fun e => by subst e; omega
                    go_wp2
                    go_meet
                    case rel => exact ⟨m, a, d, n, K, true, g, dp, rfl, rfl, rfl, rfl, rfl, rfl, rfl, rfl, rfl, by omega, hm15, by omega, by omega, by omega, by omega, fun _ => HP.out (by trivial), fun e => (by cases e), HG.out, hdm, Lib.hid ⟨fun e => absurd e (by omega), fun _ => HSS.out⟩, rfl⟩
                · have h46' : ¬ ((⟨t.toArray⟩ : ByteArray)[K]'hlt).toNat = 46 := h46
                  by_cases hd : 48 ≤ t[K].toNat ∧ t[K].toNat ≤ 57
                  · have d1 : 48 ≤ ((⟨t.toArray⟩ : ByteArray)[K]'hlt).toNat := hd.1
                    have d2 : ((⟨t.toArray⟩ : ByteArray)[K]'hlt).toNat ≤ 57 := hd.2
                    have hd14 : d ≤ 14 := by have := figs_digit (c := t[K]) hd.1 hd.2; omega
                    have e10 := ten_le hd14
                    have hml := next_lt (c := ((⟨t.toArray⟩ : ByteArray)[K]'hlt).toNat - 48) hm10 (by omega)
                    have hff : d + 1 + figs (t.drop (K + 1)) ≤ 15 := by have := figs_digit (c := t[K]) hd.1 hd.2; omega
                    have hss := HS.out
                    rw [scan_digit hd.1 hd.2] at hss
                    have HSS := Lib.hid hss
                    have ha2 : (if p = true then a + 1 else a) ≤ d + 1 := by split <;> omega
                    have HA2 : Hid (p = false → (if p = true then a + 1 else a) = 0) := Lib.hid (fun e => by subst e; exact HA.out rfl)
                    have HG2 : Hid (true = true ↔ 0 < d + 1) := Lib.hid ⟨fun _ => Nat.succ_pos _, fun _ => rfl⟩
                    clear hss HS
                    by_cases hn0 : n = 0
                    · subst hn0
                      have hm0 : m = 0 := HZ.out.2 rfl
                      subst hm0
                      by_cases h48 : ((⟨t.toArray⟩ : ByteArray)[K]'hlt).toNat = 48
                      · have HP2 : Hid (p = true → dp - 1 = (0 : Nat) - ((if p = true then a + 1 else a : Nat) : Int)) := Lib.hid (fun e => by have := HP.out e; subst e; simp only [if_true]; omega)
                        have HSS2 : Hid (scan (t.drop (K + 1)) 0 (if p = true then a + 1 else a) (d + 1) p = scan (bodyOf t) 0 0 0 false) := Lib.hid (by
                          have h := HSS.out
                          have e : t[K].toNat = 48 := h48
                          rw [e] at h
                          exact h)
                        clear HSS hml
                        go_wp2
                        exact ⟨⟨0, (if p = true then a + 1 else a), d + 1, 0, K + 1, p, true, dp - 1, rfl, rfl, by go_num, rfl, rfl, rfl, rfl, rfl, rfl, hlt, Nat.pow_pos (by decide), ha2, by omega, by omega, by omega, HP2, HA2, HG2, HZ, hff, HSS2, trivial⟩, by simp only [intOf]; omega⟩
                      · have hmp : 0 * 10 + (((⟨t.toArray⟩ : ByteArray)[K]'hlt).toNat - 48) ≠ 0 := by omega
                        have HZ2 : Hid (0 * 10 + (((⟨t.toArray⟩ : ByteArray)[K]'hlt).toNat - 48) = 0 ↔ 0 + 1 = 0) := Lib.hid ⟨fun e => absurd e hmp, fun e => absurd e (by omega)⟩
                        have HP2 : Hid (p = true → dp = (0 + 1 : Nat) - ((if p = true then a + 1 else a : Nat) : Int)) := Lib.hid (fun e => by have := HP.out e; subst e; simp only [if_true]; omega)
                        clear hmp
                        go_wp2
                        exact ⟨⟨0 * 10 + (((⟨t.toArray⟩ : ByteArray)[K]'hlt).toNat - 48), (if p = true then a + 1 else a), d + 1, 0 + 1, K + 1, p, true, dp, by go_num, rfl, by go_num, rfl, rfl, rfl, by go_num, by go_num, rfl, hlt, hml, ha2, by omega, by omega, by omega, HP2, HA2, HG2, HZ2, hff, Lib.hid HSS.out, trivial⟩, by simp only [intOf]; omega⟩
                    · have hm0 : m ≠ 0 := fun e => hn0 (HZ.out.1 e)
                      have HZ2 : Hid (m * 10 + (((⟨t.toArray⟩ : ByteArray)[K]'hlt).toNat - 48) = 0 ↔ n + 1 = 0) := Lib.hid ⟨fun e => absurd e (by omega), fun e => absurd e (by omega)⟩
                      have HP2 : Hid (p = true → dp = (n + 1 : Nat) - ((if p = true then a + 1 else a : Nat) : Int)) := Lib.hid (fun e => by have := HP.out e; subst e; simp only [if_true]; omega)
                      have hn0' : ¬ (n : Int) = 0 := by omega
                      clear hm0
                      go_wp2
                      all_goals
                        exact ⟨⟨m * 10 + (((⟨t.toArray⟩ : ByteArray)[K]'hlt).toNat - 48), (if p = true then a + 1 else a), d + 1, n + 1, K + 1, p, true, dp, by go_num, rfl, by go_num, rfl, rfl, rfl, by go_num, by go_num, rfl, hlt, hml, ha2, by omega, by omega, by omega, HP2, HA2, HG2, HZ2, hff, Lib.hid HSS.out, trivial⟩, by simp only [intOf]; omega⟩
                  · have hnd : ((⟨t.toArray⟩ : ByteArray)[K]'hlt).toNat < 48 ∨ 57 < ((⟨t.toArray⟩ : ByteArray)[K]'hlt).toNat := by
                      have : ¬ (48 ≤ ((⟨t.toArray⟩ : ByteArray)[K]'hlt).toNat ∧ ((⟨t.toArray⟩ : ByteArray)[K]'hlt).toNat ≤ 57) := hd
                      omega
                    have hd15 : d ≤ 15 := by omega
                    have hss := HS.out
                    rw [scan_other hd (by exact fun h => absurd h h46)] at hss
                    have HSS := Lib.hid hss
                    clear hss HS
                    have hm15 : m < 10 ^ 15 := Nat.lt_of_lt_of_le hm10 (Nat.pow_le_pow_right (by decide) hd15)
                    have hdm : Hid (d = 0 → m = 0) := Lib.hid fun e => by subst e; omega
                    rcases hnd with hnd | hnd
                    · go_wp2
                      all_goals
                        go_meet
                        case rel => exact ⟨m, a, d, n, K, p, g, dp, rfl, rfl, rfl, rfl, rfl, rfl, rfl, rfl, rfl, by omega, hm15, by omega, by omega, by omega, by omega, HP.out, HA.out, HG.out, hdm.out, Lib.hid ⟨fun e => absurd e (by omega), fun _ => HSS.out⟩, rfl⟩
                    · go_wp2
                      all_goals
                        go_meet
                        case rel => exact ⟨m, a, d, n, K, p, g, dp, rfl, rfl, rfl, rfl, rfl, rfl, rfl, rfl, rfl, by omega, hm15, by omega, by omega, by omega, by omega, HP.out, HA.out, HG.out, hdm.out, Lib.hid ⟨fun e => absurd e (by omega), fun _ => HSS.out⟩, rfl⟩
              · have eK : K = t.length := by omega
                have hss := hsc.out
                rw [eK, List.drop_length] at hss
                have HSS := Lib.hid hss
                clear hss hsc
                have hd15 : d ≤ 15 := by omega
                have hm15 : m < 10 ^ 15 := Nat.lt_of_lt_of_le hm10 (Nat.pow_le_pow_right (by decide) hd15)
                have hdm : Hid (d = 0 → m = 0) := Lib.hid fun e => by subst e; omega
                go_wp2
                all_goals
                  go_meet
                  case rel => exact ⟨m, a, d, n, K, p, g, dp, rfl, rfl, rfl, rfl, rfl, rfl, rfl, rfl, rfl, by omega, hm15, by omega, by omega, by omega, by omega, HP.out, HA.out, HG.out, hdm.out, Lib.hid ⟨fun _ => HSS.out, fun e => absurd eK e⟩, rfl⟩
        case rest =>
          as_aux_lemma =>
            obtain ⟨m, a, d, n, K, p, g, dp, rfl, rfl, rfl, rfl, rfl, rfl, rfl, rfl, rfl, hK, hm15, ha, hn, hdp1, hdp2, HP, HA, HG, hdm, HT, rfl⟩ := hcut
            cases g
            · have hd0 : d = 0 := by
                have := HG.2
                by_cases h : 0 < d
                · exact absurd (this h) (by decide)
                · omega
              have hm0 := hdm hd0
              subst hm0
              have HN : Hid (told t = none) := Lib.hid (by
                by_cases e : K = t.length
                · exact told_zero rfl (HT.out.1 e) hd0
                · exact told_none rfl (HT.out.2 e))
              clear HP HA HG hdm hdp1 hdp2 HT
              go_wp2
              rw [Exit.noGoto_ret]
              refine bodyPost_ret (results_tmp7 rfl _ _ _) rfl ?_
              exact ⟨0, 0, K, false, by rw [← HE.out.1]; rfl, by decide, by decide, hK, fun e => (by cases e), fun e => (by cases e), fun _ => HN.out, rfl⟩
            · have hd0 : d ≠ 0 := by
                have := HG.1 rfl
                omega
              have HN : Hid ((K = t.length → told t = some (val (minusOf t) m a)) ∧ (K ≠ t.length → told t = none)) :=
                Lib.hid ⟨fun e => told_some rfl rfl (HT.out.1 e) hd0, fun e => told_none rfl (HT.out.2 e)⟩
              have HX : Hid (∀ dp' : Int, (p = true → dp' = dp) → (p = false → dp' = n) → dp' - n = -(a : Int)) := Lib.hid (fun dp' h1 h2 => by
                cases p
                · have := HA rfl; have := h2 rfl; omega
                · have := HP rfl; have := h1 rfl; omega)
              clear HP HA HG hdm HT
              by_cases hlt : K < t.length
              · obtain ⟨X, _, hX, hl⟩ := lower_any ((⟨t.toArray⟩ : ByteArray)[K]'hlt) (hc.out _ (List.getElem_mem hlt))
                have hl' := hl wc
                clear hl
                cases p
                · have hx := HX.out n (fun e => by cases e) (fun e => by rfl)
                  clear HX
                  by_cases hm : m = 0
                  · have hm' : ((m : Int) != 0) = false := by rw [bne_eq_false_iff_eq]; omega
                    go_wp2_with (go_at_call 60; ((with_reducible refine hl'.mono ?_); rintro e w' ⟨rfl, hww⟩; rw [hww]; clear hww))
                    rw [Exit.noGoto_ret]
                    refine bodyPost_ret (results_tmp7 rfl _ _ _) rfl ?_
                    exact ⟨m, a, K, true, by rw [HE.out.1, if_pos hm, hm]; rfl, hm15, ha, hK, fun _ e => HN.out.1 e, fun _ e => HN.out.2 e, fun e => (by cases e), rfl⟩
                  · have hm' : ((m : Int) != 0) = true := by rw [bne_iff_ne]; omega
                    go_wp2_with (go_at_call 60; ((with_reducible refine hl'.mono ?_); rintro e w' ⟨rfl, hww⟩; rw [hww]; clear hww))
                    rw [Exit.noGoto_ret]
                    refine bodyPost_ret (results_tmp7 rfl _ _ _) rfl ?_
                    exact ⟨m, a, K, true, by rw [HE.out.1, if_neg hm, ← hx]; rfl, hm15, ha, hK, fun _ e => HN.out.1 e, fun _ e => HN.out.2 e, fun e => (by cases e), rfl⟩
                · have hx := HX.out dp (fun e => by rfl) (fun e => by cases e)
                  clear HX
                  by_cases hm : m = 0
                  · have hm' : ((m : Int) != 0) = false := by rw [bne_eq_false_iff_eq]; omega
                    go_wp2_with (go_at_call 60; ((with_reducible refine hl'.mono ?_); rintro e w' ⟨rfl, hww⟩; rw [hww]; clear hww))
                    rw [Exit.noGoto_ret]
                    refine bodyPost_ret (results_tmp7 rfl _ _ _) rfl ?_
                    exact ⟨m, a, K, true, by rw [HE.out.1, if_pos hm, hm]; rfl, hm15, ha, hK, fun _ e => HN.out.1 e, fun _ e => HN.out.2 e, fun e => (by cases e), rfl⟩
                  · have hm' : ((m : Int) != 0) = true := by rw [bne_iff_ne]; omega
                    go_wp2_with (go_at_call 60; ((with_reducible refine hl'.mono ?_); rintro e w' ⟨rfl, hww⟩; rw [hww]; clear hww))
                    rw [Exit.noGoto_ret]
                    refine bodyPost_ret (results_tmp7 rfl _ _ _) rfl ?_
                    exact ⟨m, a, K, true, by rw [HE.out.1, if_neg hm, ← hx]; rfl, hm15, ha, hK, fun _ e => HN.out.1 e, fun _ e => HN.out.2 e, fun e => (by cases e), rfl⟩
              · have eK : K = t.length := by omega
                cases p
                · have hx := HX.out n (fun e => by cases e) (fun e => by rfl)
                  clear HX
                  by_cases hm : m = 0
                  · have hm' : ((m : Int) != 0) = false := by rw [bne_eq_false_iff_eq]; omega
                    go_wp2
                    rw [Exit.noGoto_ret]
                    refine bodyPost_ret (results_tmp7 rfl _ _ _) rfl ?_
                    exact ⟨m, a, K, true, by rw [HE.out.1, if_pos hm, hm]; rfl, hm15, ha, hK, fun _ e => HN.out.1 e, fun _ e => HN.out.2 e, fun e => (by cases e), rfl⟩
                  · have hm' : ((m : Int) != 0) = true := by rw [bne_iff_ne]; omega
                    go_wp2
                    rw [Exit.noGoto_ret]
                    refine bodyPost_ret (results_tmp7 rfl _ _ _) rfl ?_
                    exact ⟨m, a, K, true, by rw [HE.out.1, if_neg hm, ← hx]; rfl, hm15, ha, hK, fun _ e => HN.out.1 e, fun _ e => HN.out.2 e, fun e => (by cases e), rfl⟩
                · have hx := HX.out dp (fun e => by rfl) (fun e => by cases e)
                  clear HX
                  by_cases hm : m = 0
                  · have hm' : ((m : Int) != 0) = false := by rw [bne_eq_false_iff_eq]; omega
                    go_wp2
                    rw [Exit.noGoto_ret]
                    refine bodyPost_ret (results_tmp7 rfl _ _ _) rfl ?_
                    exact ⟨m, a, K, true, by rw [HE.out.1, if_pos hm, hm]; rfl, hm15, ha, hK, fun _ e => HN.out.1 e, fun _ e => HN.out.2 e, fun e => (by cases e), rfl⟩
                  · have hm' : ((m : Int) != 0) = true := by rw [bne_iff_ne]; omega
                    go_wp2
                    rw [Exit.noGoto_ret]
                    refine bodyPost_ret (results_tmp7 rfl _ _ _) rfl ?_
                    exact ⟨m, a, K, true, by rw [HE.out.1, if_neg hm, ← hx]; rfl, hm15, ha, hK, fun _ e => HN.out.1 e, fun _ e => HN.out.2 e, fun e => (by cases e), rfl⟩
  · have e : t = [] := List.length_eq_zero_iff.1 (by omega)
    subst e
    go_enter Tryd.func44, Tryd.ntmps44
    go_wp2
    go_step3
    go_wp2
    rw [Exit.noGoto_ret]
    refine bodyPost_ret (results_tmp7 rfl _ _ _) rfl ?_
    exact ⟨0, 0, 0, false, rfl, by decide, by decide, Nat.zero_le _, fun e => (by cases e), fun e => (by cases e), fun _ => told_zero rfl rfl rfl, rfl⟩
end Go.Proofs.YtabjmoaijepdjaaDoor.Rdf
