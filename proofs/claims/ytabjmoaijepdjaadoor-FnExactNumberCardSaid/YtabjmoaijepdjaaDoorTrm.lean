/-
  The plain law of trimming: the library's and the reference's agree on texts that Worded lets in.
-/
import Derived.Test.YtabjmoaijepdjaaDoorScn
import Derived.Lib.Space
namespace Go.Proofs.YtabjmoaijepdjaaDoor.Trm
open Go.Proofs.YtabjmoaijepdjaaDoor.Wor Go.Proofs.YtabjmoaijepdjaaDoor.Scn

theorem dropWhile_same {p q : UInt8 → Bool} : ∀ {l : List UInt8}, (∀ x ∈ l, p x = q x) → l.dropWhile p = l.dropWhile q
  | [], _ => rfl
  | x :: l, h => by
    rw [List.dropWhile_cons, List.dropWhile_cons, h x (List.mem_cons_self ..), dropWhile_same fun y hy => h y (List.mem_cons_of_mem _ hy)]

theorem trim_same {l : List UInt8} (h : ∀ x ∈ l, Lib.isSp x = wh x) : Lib.trimSpace l = trimR (l.dropWhile wh) := by
  unfold Lib.trimSpace trimR
  rw [dropWhile_same h]
  rw [dropWhile_same fun x hx => h x ((List.dropWhile_sublist wh).subset (List.mem_reverse.1 hx))]

theorem okc_space {c : UInt8} (h : okc c = true) : Lib.isSp c = wh c := by
  have hc : ∀ n : UInt8, (c == n) = (c.toNat == n.toNat) := fun n => by
    rw [Bool.eq_iff_iff, beq_iff_eq, beq_iff_eq]
    exact ⟨fun e => by rw [e], fun e => UInt8.toNat_inj.1 e⟩
  have e1 : (9 : UInt8).toNat = 9 := rfl
  have e2 : (10 : UInt8).toNat = 10 := rfl
  have e3 : (11 : UInt8).toNat = 11 := rfl
  have e4 : (12 : UInt8).toNat = 12 := rfl
  have e5 : (13 : UInt8).toNat = 13 := rfl
  have e6 : (32 : UInt8).toNat = 32 := rfl
  unfold Lib.isSp wh
  rw [hc, hc, hc, hc, hc, hc, e1, e2, e3, e4, e5, e6]
  simp only [okc, Bool.or_eq_true, Bool.and_eq_true, decide_eq_true_eq, beq_iff_eq] at h
  rw [Bool.eq_iff_iff]
  simp only [Bool.or_eq_true, beq_iff_eq]
  omega
end Go.Proofs.YtabjmoaijepdjaaDoor.Trm
