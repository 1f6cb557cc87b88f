/-
  The statement FnExactCompareNumbersSaid is proved: for every operator text and every two numbers the law returns true. No condition beyond the statement's own.
-/
import Derived.Test.YtjlkoedhgegeoaaRows
import Derived.WalkKit
import Derived.WalkLawsBesides
import Derived.ProofKit
import Derived.OpenShut
namespace Go.Proofs.Ytjlkoedhgegeoaa.Cmp
open Go.ChangeShapes Go.WideShapes Go.ChangeAt Go.RowKit
open Go.ChangeMaps (open_string shut_string)

theorem own : ownKnob Try.prog.godebug = none := by kernel_rfl

theorem one_two : (FloatKind.f64.format.order 4607182418800017408 4611686018427387904 == some .lt) = true := by kernel_rfl

theorem of_toList {s : ByteArray} {l : List UInt8} (h : (s.toList == l) = true) : s = ⟨⟨l⟩⟩ := by
  have h1 : s.toList = l := by simpa using h
  rw [ByteArray.toList_eq] at h1
  cases s with
  | mk d => cases d with
    | mk m => simp at h1; rw [h1]

theorem law_eq (a b : Nat) (w : World) : Calls Try.prog 3 #[.string ⟨#[61]⟩, .float .f64 a, .float .f64 b] w fun e w' => e = .returned (.bool true) ∧ w' = w := by
  have h12 := one_two
  go_enter Try.func3, Try.ntmps3
  go_wp2
  go_ret
  exact ⟨rfl, rfl⟩
theorem law_neq (a b : Nat) (w : World) : Calls Try.prog 3 #[.string ⟨#[33, 61]⟩, .float .f64 a, .float .f64 b] w fun e w' => e = .returned (.bool true) ∧ w' = w := by
  have h12 := one_two
  go_enter Try.func3, Try.ntmps3
  go_wp2
  go_ret
  exact ⟨rfl, rfl⟩
theorem law_lss (a b : Nat) (w : World) : Calls Try.prog 3 #[.string ⟨#[60]⟩, .float .f64 a, .float .f64 b] w fun e w' => e = .returned (.bool true) ∧ w' = w := by
  have h12 := one_two
  go_enter Try.func3, Try.ntmps3
  go_wp2
  go_ret
  exact ⟨rfl, rfl⟩
theorem law_leq (a b : Nat) (w : World) : Calls Try.prog 3 #[.string ⟨#[60, 61]⟩, .float .f64 a, .float .f64 b] w fun e w' => e = .returned (.bool true) ∧ w' = w := by
  have h12 := one_two
  go_enter Try.func3, Try.ntmps3
  go_wp2
  go_ret
  exact ⟨rfl, rfl⟩
theorem law_gtr (a b : Nat) (w : World) : Calls Try.prog 3 #[.string ⟨#[62]⟩, .float .f64 a, .float .f64 b] w fun e w' => e = .returned (.bool true) ∧ w' = w := by
  have h12 := one_two
  go_enter Try.func3, Try.ntmps3
  go_wp2
  go_ret
  exact ⟨rfl, rfl⟩
theorem law_geq (a b : Nat) (w : World) : Calls Try.prog 3 #[.string ⟨#[62, 61]⟩, .float .f64 a, .float .f64 b] w fun e w' => e = .returned (.bool true) ∧ w' = w := by
  have h12 := one_two
  go_enter Try.func3, Try.ntmps3
  go_wp2
  go_ret
  exact ⟨rfl, rfl⟩
theorem law_else (s : ByteArray) (a b : Nat) (w : World)
    (h1 : (s.toList == [61]) = false) (h2 : (s.toList == [33, 61]) = false) (h3 : (s.toList == [60]) = false)
    (h4 : (s.toList == [60, 61]) = false) (h5 : (s.toList == [62]) = false) (h6 : (s.toList == [62, 61]) = false) :
    Calls Try.prog 3 #[.string s, .float .f64 a, .float .f64 b] w fun e w' => e = .returned (.bool true) ∧ w' = w := by
  have h12 := one_two

  go_enter Try.func3, Try.ntmps3
  go_wp2
  all_goals (go_ret; exact ⟨by first | rfl | simp [h12], rfl⟩)

theorem law_any (s : ByteArray) (a b : Nat) (w : World) : Calls Try.prog 3 #[.string s, .float .f64 a, .float .f64 b] w fun e w' => e = .returned (.bool true) ∧ w' = w := by
  cases h1 : (s.toList == [61])
  · cases h2 : (s.toList == [33, 61])
    · cases h3 : (s.toList == [60])
      · cases h4 : (s.toList == [60, 61])
        · cases h5 : (s.toList == [62])
          · cases h6 : (s.toList == [62, 61])
            · exact law_else s a b w h1 h2 h3 h4 h5 h6
            · rw [of_toList h6]; exact law_geq a b w
          · rw [of_toList h5]; exact law_gtr a b w
        · rw [of_toList h4]; exact law_leq a b w
      · rw [of_toList h3]; exact law_lss a b w
    · rw [of_toList h2]; exact law_neq a b w
  · rw [of_toList h1]; exact law_eq a b w

set_option maxRecDepth 100000 in
theorem lifted (os : Os) (started : os.Started) (H : Type) (enc : TypeId × Value → H) :
    ReturnsInHanded {} Try.checked os 3 .any (Rows.fnExactCompareNumbersSpec.pre6 enc Try.prog Try.f3 Rows.fnExactCompareNumbersRow.domain false) (Rows.fnExactCompareNumbersSpec.post enc Try.prog Try.f3 false true false false) := by
  refine returnsInHanded_of_change (C := Try.checked) own started (by kernel_rfl) Try.func3
    (ChangeSpec.witness6 (enc := enc) (C := Try.checked) false ⟨#[], #[.string ⟨#[]⟩, .float .f64 0, .float .f64 0], []⟩ 8 (by kernel_rfl) (by kernel_rfl) (by kernel_rfl) (by kernel_rfl)) ?_
  intro W base args ds gs before hval0 hW hcnd _
  have hval : ∀ (j : Nat) t v, Try.f3.params[j]? = some t → args[j]? = some v → Value.okWide Try.prog W .any base t v := hval0
  have hW' := hW
  obtain ⟨p, q, hA0, hV, rfl, hfz, hnd⟩ := hW
  have hA : DataW.TrodAll enc Try.prog W 0 (fun _ => true) true Try.f3.params.toList args.toList ds p := hA0
  rw [Try.params3] at hA hval
  obtain ⟨v0, v1, v2, d0, d1, d2, p0, p1, p2, rfl, rfl, rfl, h0, h1, h2⟩ := trodAll_three hA
  obtain ⟨rfl, rfl⟩ := trodVars_none hV
  obtain ⟨s, rfl, rfl, rfl, hs⟩ := open_string Try.underlying9 (hval 0 9 v0 rfl rfl) h0
  obtain ⟨a, rfl, rfl, rfl, wa⟩ := open_float Try.underlying22 (hval 1 22 v1 rfl rfl) h1
  obtain ⟨b, rfl, rfl, rfl, wb⟩ := open_float Try.underlying22 (hval 2 22 v2 rfl rfl) h2
  clear hA0 hval0
  simp only [List.append_nil] at hW'
  refine (law_any s a b W).mono fun e W' ⟨he, hw⟩ => ?_
  subst he; subst hw
  exact ⟨_, rfl, post_of_same (pa := []) (pv := []) hW' (fun _ _ _ => trodAll_mk1 (shut_bool Try.underlying4 _)) (fun sp _ => trodAll_mk3 (shut_string Try.underlying9 hs) (shut_float Try.underlying22 wa) (shut_float Try.underlying22 wb)) (fun _ _ => rfl) rfl
    (World.keptBut_refl _ _) (fun _ => rfl) (ok_one (by kernel_rfl) rfl (okWide_bool_mk Try.underlying4 _))⟩

theorem cmp_holds : Rows.FnExactCompareNumbersSaid :=
  OpenClaim.holds_of_wide 3 Try.f3 rfl rfl rfl rfl rfl rfl rfl ⟨rfl, rfl, rfl, rfl, rfl⟩ rfl rfl rfl rfl rfl (by kernel_rfl) Try.func3 (by kernel_rfl)
    (of_decide_eq_true (by kernel_rfl)) (by unfold Func.isWrapper; first | (rw [if_pos (by decide +kernel)]; kernel_rfl) | (rw [if_neg (by decide +kernel)]; exact ⟨rfl, rfl⟩))
    (fun os started H enc _ => lifted os started H enc)
#print axioms cmp_holds
end Go.Proofs.Ytjlkoedhgegeoaa.Cmp
