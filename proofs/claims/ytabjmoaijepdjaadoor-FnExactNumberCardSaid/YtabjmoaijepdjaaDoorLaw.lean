/-
  For every text that the statement lets in the package reads the number that the reference reads: the contract of the law's function. Its row's list of variables is tied to the program's text by the given tie; no condition beyond the statement's own.
-/
import Derived.Test.YtabjmoaijepdjaaDoorPrs
import Derived.Test.YtabjmoaijepdjaaDoorBit
namespace Go.Proofs.YtabjmoaijepdjaaDoor.Law
open Go.ChangeShapes Go.WideShapes Go.ChangeAt Go.RowKit Go.Sort
open Go.Proofs.YtabjmoaijepdjaaDoor.Flt Go.Proofs.YtabjmoaijepdjaaDoor.Wor Go.Proofs.YtabjmoaijepdjaaDoor.Odd Go.Proofs.YtabjmoaijepdjaaDoor.Scn Go.Proofs.YtabjmoaijepdjaaDoor.Spn Go.Proofs.YtabjmoaijepdjaaDoor.Exa Go.Proofs.YtabjmoaijepdjaaDoor.Prs Go.Proofs.YtabjmoaijepdjaaDoor.Bit

/-- What a text is read as. -/
def toldOf (l : List UInt8) : Nat := (told (trimR (l.dropWhile wh))).getD nan
theorem seven_told : toldOf [55] = 4619567317775286272 := by decide +kernel
theorem grow {a b c : World} (h : Below a.heap.size a b) (k : Below b.heap.size b c) : Below a.heap.size a c := h.trans (k.mono h.size)
theorem get_of {l : List UInt8} {p : UInt8 → Prop} (h : ∀ k, k < (⟨l.toArray⟩ : ByteArray).size → p ((⟨l.toArray⟩ : ByteArray).get! k)) : ∀ c ∈ l, p c := by
  intro c hc
  obtain ⟨k, hk, rfl⟩ := List.getElem_of_mem hc
  have := h k hk
  rw [← get_eq (show k < (⟨l.toArray⟩ : ByteArray).size from hk)] at this
  exact this

/-- What comes back of impl.Number. -/
def ImPost (v : Nat) (w : World) (e : Ending) (w' : World) : Prop := e = .returned (.int .u64 v) ∧ Below w.heap.size w w'
theorem text_any (w : World) (l : List UInt8) (ht : Tabs w) (hs : l.length ≤ 281474976710656) (hf : figs l ≤ 15) (hg : ∀ c ∈ l, okc c = true ∧ c ∉ odds) :
    Calls Tryd.prog 7 #[.string ⟨l.toArray⟩] w fun e w' => ImPost (bitsOf (toldOf l)) w e w' :=
  impl_any w ⟨l.toArray⟩ (toldOf l) (Lib.hid (zz_any w l ht hs hf hg))
theorem seven_any (w : World) (ht : Tabs w) : Calls Tryd.prog 7 #[.string ⟨#[55]⟩] w fun e w' => ImPost (bitsOf 4619567317775286272) w e w' := by
  have h := text_any w [55] ht (by decide) (by decide) (by decide)
  rw [seven_told] at h
  exact h
theorem spec_told (w : World) (l : List UInt8) (hs : l.length ≤ 281474976710656) (hf : figs l ≤ 15) :
    Calls Tryd.prog 9 #[.string ⟨l.toArray⟩] w fun e w' => SpecPost (toldOf l) w e w' := spec_any w l (by omega) hf

theorem law_large (w : World) (s : ByteArray) (h : 2147483647 < s.size) : Calls Tryd.prog 3 #[.string s] w fun e w' => e = .returned (.bool true) ∧ Below w.heap.size w w' := by
  go_enter Tryd.func3, Tryd.ntmps3
  go_wp2
  go_ret
  exact ⟨rfl, Below.refl _ _⟩

set_option maxHeartbeats 1000000 in
set_option maxRecDepth 100000 in
theorem law_small (w : World) (l : List UInt8) (ht : Tabs w) (hs : l.length ≤ 2147483647) : Calls Tryd.prog 3 #[.string ⟨l.toArray⟩] w fun e w' => e = .returned (.bool true) ∧ Below w.heap.size w w' := by
  have HT := Lib.hid ht
  have h4 := fun w => worded_any w ⟨l.toArray⟩ (show l.length ≤ 9223372036854775807 by omega)
  have h5 := fun w => odd_any w ⟨l.toArray⟩ (show l.length ≤ 9223372036854775807 by omega)
  have h6 : ∀ w : World, Calls Tryd.prog 6 #[.string ⟨l.toArray⟩] w fun e w' => e = .returned (.int .i64 (figs l)) ∧ Below w.heap.size w w' := fun w => figures_any w ⟨l.toArray⟩ (show l.length ≤ 9223372036854775807 by omega)
  have H4 := Lib.hid h4
  have H5 := Lib.hid h5
  have H6 := Lib.hid h6
  clear ht h4 h5 h6
  have hsz : ¬ 2147483647 < l.length := by omega
  go_enter Tryd.func3, Tryd.ntmps3
  go_wp2_with (first
    | (go_at_call 4; (with_reducible refine (H4.out _).mono ?_); rintro e w1 ⟨(_ | _), rfl, hw, hb⟩ <;> (have HW := Lib.hid hw; have HB := Lib.hid hb; have HTN := Lib.hid (HT.out.on hb); clear hw hb))
    | (go_at_call 5; (with_reducible refine (H5.out _).mono ?_); rintro e w2 ⟨(_ | _), rfl, ho, hb⟩ <;> (have HO := Lib.hid ho; have HB2 := Lib.hid (grow HB.out hb); have HTO := Lib.hid (HTN.out.on hb); clear ho hb; clear HB HTN; have HB := HB2; have HTN := HTO; clear HB2 HTO))
    | (go_at_call 6; (with_reducible refine (H6.out _).mono ?_); rintro e w3 ⟨rfl, hb⟩; have HB2 := Lib.hid (grow HB.out hb); have HTO := Lib.hid (HTN.out.on hb); clear hb; clear HB HTN; have HB := HB2; have HTN := HTO; clear HB2 HTO)
    | (go_at_call_of 7 (Value.string ⟨#[55]⟩); (with_reducible refine (seven_any _ HTN.out).mono ?_); rintro e w4 ⟨rfl, hb⟩; have HB2 := Lib.hid (grow HB.out hb); clear hb; clear HB; have HB := HB2; clear HB2)
    | (go_at_call 7; (with_reducible refine (text_any _ l HTN.out (by omega) (by omega) fun c hc => ⟨get_of (p := fun c => okc c = true) (HW.out (by trivial)).2 c hc, get_of (p := fun c => c ∉ odds) (HO.out (by trivial)) c hc⟩).mono ?_); rintro e w4 ⟨rfl, hb⟩; have HB2 := Lib.hid (grow HB.out hb); have HTO := Lib.hid (HTN.out.on hb); clear hb; clear HB HTN; have HB := HB2; have HTN := HTO; clear HB2 HTO)
    | (go_at_call 9; (with_reducible refine (spec_told _ l (by omega) (by omega)).mono ?_); rintro e w5 ⟨rfl, hb⟩; have HB2 := Lib.hid (grow HB.out hb); have HTO := Lib.hid (HTN.out.on hb); clear hb; clear HB HTN; have HB := HB2; have HTN := HTO; clear HB2 HTO)
    | (go_at_call 8; (with_reducible refine (bits_any _ _).mono ?_); rintro e w' ⟨rfl, hww⟩; rw [hww]; clear hww))
  all_goals
    go_ret
    exact ⟨by first | rfl | simp, HB.out⟩

theorem law_any (w : World) (s : ByteArray) (ht : Tabs w) : Calls Tryd.prog 3 #[.string s] w fun e w' => e = .returned (.bool true) ∧ Below w.heap.size w w' := by
  by_cases h : 2147483647 < s.size
  · exact law_large w s h
  · have e : s = ⟨s.data.toList.toArray⟩ := ba_ext rfl
    rw [e]
    exact law_small w s.data.toList ht (by have : s.data.toList.length = s.size := rfl; omega)
end Go.Proofs.YtabjmoaijepdjaaDoor.Law
