/-
  The contracts of ParseFloat (internal/strconv's and strconv's), xpath.stringToNumber and ZZNumber at trimmed texts of digits, points and letters that are none of a number's, where the library's tables are laid.
-/
import Derived.Test.YtabjmoaijepdjaaDoorAto
import Derived.Test.YtabjmoaijepdjaaDoorTrm
import Derived.Test.YtabjmoaijepdjaaDoorOdd
import Derived.Lib.AtoiErrMem
namespace Go.Proofs.YtabjmoaijepdjaaDoor.Prs
open Go.ChangeShapes Go.WideShapes Go.ChangeAt Go.RowKit Go.Sort
open Go.Proofs.YtabjmoaijepdjaaDoor.Flt Go.Proofs.YtabjmoaijepdjaaDoor.Wor Go.Proofs.YtabjmoaijepdjaaDoor.Scn Go.Proofs.YtabjmoaijepdjaaDoor.Spn Go.Proofs.YtabjmoaijepdjaaDoor.Exa Go.Proofs.YtabjmoaijepdjaaDoor.Ato Go.Proofs.YtabjmoaijepdjaaDoor.Trm Go.Proofs.YtabjmoaijepdjaaDoor.Odd

theorem prefix_any (w : World) (t : List UInt8) (ha : Hid (Calls Tryd.prog 38 #[.string ⟨t.toArray⟩] w fun e w' => AtPost t w e w')) :
    Calls Tryd.prog 27 #[.string ⟨t.toArray⟩, .int .i64 64] w fun e w' => AtPost t w e w' := by
  go_enter Tryd.func27, Tryd.ntmps27
  go_wp2_with (go_at_call 38; ((with_reducible refine ha.out.mono ?_); rintro e w' (⟨x, hx, rfl, hww⟩ | ⟨hx, v, n, rfl, hww⟩ | ⟨hx, v, n, rfl, hn, hww⟩) <;> (rw [hww]; clear hww)))
  · go_ret3
    exact Or.inl ⟨x, hx, rfl, rfl⟩
  · go_ret3
    exact Or.inr (Or.inl ⟨hx, v, n, rfl, rfl⟩)
  · go_ret3
    exact Or.inr (Or.inr ⟨hx, v, n, rfl, hn, rfl⟩)

/-- What comes back of internal/strconv.ParseFloat. -/
def PfPost (t : List UInt8) (w : World) (e : Ending) (w' : World) : Prop :=
  (∃ x : Nat, told t = some x ∧ e = .returned (.tuple #[.float .f64 x, .nilIface]) ∧ w' = w) ∨
  (told t = none ∧ ∃ v : Nat, e = .returned (.tuple #[.float .f64 v, .iface 50 (.int .i64 2)]) ∧ w' = w)

theorem inner_any (w : World) (t : List UInt8) (ha : Hid (Calls Tryd.prog 27 #[.string ⟨t.toArray⟩, .int .i64 64] w fun e w' => AtPost t w e w')) :
    Calls Tryd.prog 21 #[.string ⟨t.toArray⟩, .int .i64 64] w fun e w' => PfPost t w e w' := by
  go_enter Tryd.func21, Tryd.ntmps21
  go_wp2_with (go_at_call 27; ((with_reducible refine ha.out.mono ?_); rintro e w' (⟨x, hx, rfl, hww⟩ | ⟨hx, v, n, rfl, hww⟩ | ⟨hx, v, n, rfl, hn, hww⟩) <;> (rw [hww]; clear hww)))
  all_goals first
    | (go_ret2; exact Or.inl ⟨x, hx, rfl, rfl⟩)
    | (go_ret2; exact Or.inr ⟨hx, _, rfl, rfl⟩)
    | (exfalso; rename_i hq; rw [bne_eq_false_iff_eq] at hq; omega)
    | go_outline

/-- What comes back of strconv.ParseFloat. -/
def SpPost (t : List UInt8) (w : World) (e : Ending) (w' : World) : Prop :=
  (∃ x : Nat, told t = some x ∧ e = .returned (.tuple #[.float .f64 x, .nilIface]) ∧ Below w.heap.size w w') ∨
  (told t = none ∧ ∃ (v : Nat) (p : Value), e = .returned (.tuple #[.float .f64 v, .iface 51 p]) ∧ Below w.heap.size w w')

theorem parse_any (w : World) (t : List UInt8) (ht : Tabs w) (hs : t.length ≤ 281474976710656) (ha : Hid (Calls Tryd.prog 21 #[.string ⟨t.toArray⟩, .int .i64 64] w fun e w' => PfPost t w e w')) :
    Calls Tryd.prog 17 #[.string ⟨t.toArray⟩, .int .i64 64] w fun e w' => SpPost t w e w' := by
  obtain ⟨ev, h1, h2⟩ := ht.ev
  have he := Lib.hid (Tryd.strconv_toError_syntax ⟨#[80, 97, 114, 115, 101, 70, 108, 111, 97, 116]⟩ ⟨t.toArray⟩ 0 64 ev w hs h1 h2)
  clear h1 h2 ht hs
  go_enter Tryd.func17, Tryd.ntmps17
  go_wp2_with (first
    | (go_at_call 21; ((with_reducible refine ha.out.mono ?_); rintro e w' (⟨x, hx, rfl, hww⟩ | ⟨hx, v, rfl, hww⟩) <;> (rw [hww]; clear hww)))
    | (go_at_call 22; ((with_reducible refine he.out.mono ?_); rintro e w1 ⟨N, rfl, _, _, hb⟩; have HB := Lib.hid hb; clear hb)))
  all_goals first
    | (go_ret2; exact Or.inl ⟨x, hx, rfl, Below.refl _ _⟩)
    | (go_ret2; exact Or.inr ⟨hx, _, _, rfl, HB.out⟩)
    | go_outline

/-! ### Trimmed texts -/

theorem trim_sub (l : List UInt8) : (trimR (l.dropWhile wh)).Sublist l := by
  have h : (trimR (l.dropWhile wh)).Sublist (l.dropWhile wh) := by
    unfold trimR
    have := (List.dropWhile_sublist wh (l := (l.dropWhile wh).reverse)).reverse
    rw [List.reverse_reverse] at this
    exact this
  exact h.trans (List.dropWhile_sublist wh)
theorem odd_ne {c k : UInt8} (h : c ∉ odds) (hk : k ∈ odds) : c.toNat ≠ k.toNat := fun e => h (by rw [UInt8.toNat_inj.1 e]; exact hk)
theorem fair_of {c : UInt8} (h1 : okc c = true) (h2 : c ∉ odds) : fair c := by
  refine ⟨⟨odd_ne (k := 95) h2 (by decide), odd_ne (k := 101) h2 (by decide), odd_ne (k := 69) h2 (by decide), odd_ne (k := 120) h2 (by decide), odd_ne (k := 88) h2 (by decide), ?_⟩, odd_ne (k := 105) h2 (by decide), odd_ne (k := 73) h2 (by decide), odd_ne (k := 110) h2 (by decide), odd_ne (k := 78) h2 (by decide)⟩
  intro e
  simp only [okc, Bool.or_eq_true, Bool.and_eq_true, decide_eq_true_eq, beq_iff_eq] at h1
  omega
theorem okc_low {c : UInt8} (h1 : okc c = true) : c.toNat < 128 := by
  simp only [okc, Bool.or_eq_true, Bool.and_eq_true, decide_eq_true_eq, beq_iff_eq] at h1
  omega

/-- What comes back of ZZNumber. -/
def NumPost (v : Nat) (w : World) (e : Ending) (w' : World) : Prop := e = .returned (.float .f64 v) ∧ Below w.heap.size w w'

set_option maxRecDepth 100000 in
theorem number_any (w : World) (l : List UInt8) (ht : Tabs w) (hs : l.length ≤ 281474976710656) (hf : figs l ≤ 15) (hg : ∀ c ∈ l, okc c = true ∧ c ∉ odds) :
    Calls Tryd.prog 14 #[.string ⟨l.toArray⟩] w fun e w' => NumPost ((told (trimR (l.dropWhile wh))).getD nan) w e w' := by
  have hsub := trim_sub l
  have e1 : Lib.trimSpace (⟨l.toArray⟩ : ByteArray).data.toList = trimR (l.dropWhile wh) := trim_same fun x hx => okc_space (hg x hx).1
  have htrim := Tryd.strings_TrimSpace ⟨l.toArray⟩ w (show l.length ≤ 9223372036854775807 by omega) (fun j b hj => okc_low (hg b (List.mem_of_getElem? hj)).1) ht.white
  rw [e1] at htrim
  have hlen := hsub.length_le
  have hfig : figs (trimR (l.dropWhile wh)) ≤ 15 := Nat.le_trans hsub.countP_le hf
  have hfair : ∀ c ∈ trimR (l.dropWhile wh), fair c := fun c hc => fair_of (hg c (hsub.subset hc)).1 (hg c (hsub.subset hc)).2
  have HB0 := Lib.hid (Lib.bytesWorld_below w 5 ⟨l.toArray⟩)
  generalize trimR (l.dropWhile wh) = t at htrim hlen hfig hfair
  generalize Lib.bytesWorld w 5 ⟨l.toArray⟩ = W1 at htrim HB0
  have ht1 := ht.on HB0.out
  have hp := Lib.hid (parse_any W1 t ht1 (by omega) (Lib.hid (inner_any W1 t (Lib.hid (prefix_any W1 t (Lib.hid (atof_any W1 t ht1 (by omega) hfig hfair)))))))
  have HT := Lib.hid htrim
  clear hsub e1 htrim hlen hfig hfair ht ht1 hf hg hs
  go_enter Tryd.func14, Tryd.ntmps14
  go_wp2_with (first
    | (go_at_call 16; ((with_reducible refine HT.out.mono ?_); rintro e w' ⟨rfl, hww⟩; rw [hww]; clear hww))
    | (go_at_call 17; ((with_reducible refine hp.out.mono ?_); rintro e w2 (⟨x, hx, rfl, hb⟩ | ⟨hx, v, p, rfl, hb⟩) <;> (have HB := Lib.hid hb; clear hb)))
    | (go_at_call 12; ((with_reducible refine (nan_any _).mono ?_); rintro e w' ⟨rfl, hww⟩; rw [hww]; clear hww)))
  all_goals
    go_ret
    exact ⟨by rw [hx]; rfl, HB0.out.trans (HB.out.mono HB0.out.size)⟩

theorem zz_any (w : World) (l : List UInt8) (ht : Tabs w) (hs : l.length ≤ 281474976710656) (hf : figs l ≤ 15) (hg : ∀ c ∈ l, okc c = true ∧ c ∉ odds) :
    Calls Tryd.prog 10 #[.string ⟨l.toArray⟩] w fun e w' => NumPost ((told (trimR (l.dropWhile wh))).getD nan) w e w' := by
  have hn := Lib.hid (number_any w l ht hs hf hg)
  clear ht hs hf hg
  go_enter Tryd.func10, Tryd.ntmps10
  go_wp2_with (go_at_call 14; ((with_reducible refine hn.out.mono ?_); rintro e w1 ⟨rfl, hb⟩; have HB := Lib.hid hb; clear hb))
  go_ret
  exact ⟨rfl, HB.out⟩

end Go.Proofs.YtabjmoaijepdjaaDoor.Prs
