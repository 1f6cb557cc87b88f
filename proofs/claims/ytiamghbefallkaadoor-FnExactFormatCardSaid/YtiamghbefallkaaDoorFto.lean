/-
  The contract of internal/strconv.ftoa64 at quarters.
-/
import Derived.Test.YtiamghbefallkaaDoorSho
import Derived.Test.YtiamghbefallkaaDoorSet
import Derived.Test.YtiamghbefallkaaDoorEfg
import Derived.Laws.Externs
import Derived.WalkSpells
namespace Go.Proofs.YtiamghbefallkaaDoor.Fto
open Go.ChangeShapes Go.WideShapes Go.ChangeAt Go.RowKit
open Go.Proofs.YtiamghbefallkaaDoor.Usc

theorem run_bits (b : Nat) (w : World) : (callFunc 19 #[.float .f64 b]).run Tryd.prog w = .ok (.value (.int .u64 b)) w := by
  rw [run_callFunc_extern (fn := Tryd.f19) (e := Extern.MathFloatBits.float64bits) Tryd.func19 (by kernel_rfl) (by kernel_rfl) (by kernel_rfl) (by kernel_rfl)]
  rfl

theorem len53 {x : Nat} (h1 : 4503599627370496 ≤ x) (h2 : x < 9007199254740992) : Lib.bitLen x = 53 := by
  obtain ⟨a, b, c⟩ := Lib.bitLenAux_bounds 64 x (by omega) (by omega)
  unfold Lib.bitLen
  generalize Lib.bitLenAux 64 x = L at a b c
  have e1 : (2 : Nat) ^ 52 = 4503599627370496 := by decide
  have e2 : (2 : Nat) ^ 53 = 9007199254740992 := by decide
  by_cases h : L ≤ 52
  · have := Nat.pow_le_pow_right (n := 2) (by decide) h
    omega
  · by_cases h' : 54 ≤ L
    · have := Nat.pow_le_pow_right (n := 2) (by decide) (show 53 ≤ L - 1 by omega)
      omega
    · omega

open Go.Proofs.YtiamghbefallkaaDoor.Set Go.Proofs.YtiamghbefallkaaDoor.Efg

theorem own_below {B S : Nat} {w w' : World} {v : Value} {n : Nat} {xs : List Value} (h : w.ownsRow B 5 1 v n xs) (hb : Below S w w') (hs : w.heap.size ≤ S) : w'.ownsRow B 5 1 v n xs := by
  obtain ⟨h1, h2 | ⟨g, cap, cur, hv, hg, hh, r⟩⟩ := h
  · exact ⟨h1, Or.inl h2⟩
  · refine ⟨h1, Or.inr ⟨g, cap, cur, hv, hg, ?_, r⟩⟩
    have hlt : g < w.heap.size := by
      rcases Nat.lt_or_ge g w.heap.size with h' | h'
      · exact h'
      · rw [Array.getElem?_eq_none h'] at hh; cases hh
    rw [hb.block g (by omega)]
    exact hh

/-- Behind the scaling: the digits' block is as it was laid. -/
theorem behind {w w2 : World} {nq : Nat} (h : Below ((w.drewN nq).alloc (.cells zeros32 45)).heap.size ((w.drewN nq).alloc (.cells zeros32 45)) w2) :
    Below w.heap.size w w2 ∧ w2.heap[w.heap.size]? = some (.cells zeros32 45 (0, 0)) := by
  have hs : ((w.drewN nq).alloc (.cells zeros32 45)).heap.size = w.heap.size + 1 := by simp
  rw [hs] at h
  refine ⟨((below_drewN (Below.refl _ _) nq).alloc (by simp) _).trans (h.mono (by omega)), ?_⟩
  rw [h.block w.heap.size (by omega)]
  show (w.heap.push _)[w.heap.size]? = _
  rw [Array.getElem?_push, if_pos rfl]

set_option maxHeartbeats 2000000 in
set_option maxRecDepth 100000 in
theorem ftoa_any (w : World) (B b EE R M53 d nd DP NZ PR : Nat) (p : Int) (neg : Bool) (hb : b < 18446744073709551616) (hn : ((b : Int) / 9223372036854775808 != 0) = neg)
    (hE : bits .and .i64 ((b : Int) / 4503599627370496) 2047 = (EE : Int)) (hE1 : 1021 ≤ EE) (hE2 : EE ≤ 1061)
    (hR : bits .and .u64 (b : Int) 4503599627370495 = (R : Int)) (hM : bits .or .u64 (R : Int) 4503599627370496 = (M53 : Int)) (hM1 : 4503599627370496 ≤ M53) (hM2 : M53 < 9007199254740992)
    (HSH : Hid (∀ W : World, Below w.heap.size w W → Calls Tryd.prog 32 #[.int .u64 ((M53 : Int) * 2048), .int .i64 ((EE : Int) + -1023 - 11 - 52)] W fun e w' => e = .returned (.tuple #[.int .u64 d, .int .i64 p]) ∧ Below W.heap.size W w'))
    (HND : Hid (∀ W : World, Below w.heap.size w W → Calls Tryd.prog 26 #[.int .u64 d] W fun e w' => e = .returned (.int .i64 nd) ∧ w' = W))
    (HSD : Hid (∀ (W : World) (bk : Nat), W.heap[bk]? = some (.cells zeros32 45 (0, 0)) → Calls Tryd.prog 25 #[.slice (some ⟨bk, 0, none⟩) 32 32, .int .u64 d, .int .i64 p, .int .i64 nd] W fun e w' =>
      e = .returned (.tuple #[.int .i64 DP, .int .i64 NZ]) ∧ ∃ cs, w'.heap[bk]? = some (.cells cs 45 (0, 0)) ∧ (∀ t, t < 32 → cs[t]? = some (.int .u8 (dig d nd t : Int))) ∧ W.grownBy w' (some bk)))
    {v : Value} (hPR : max ((NZ : Int) - (DP : Int)) 0 = (PR : Int)) (OUT : List Value)
    (HEF : Hid (∀ (W : World) (bk : Nat) (cs : Array Value), (∀ t, t < 32 → cs[t]? = some (.int .u8 (dig d nd t : Int))) → Inv W B bk cs v [] W →
      Calls Tryd.prog 22 #[v, .bool neg, .slice (some ⟨bk, 0, none⟩) 32 32, .int .i64 DP, .int .i64 NZ, .int .i64 PR, .int .u8 102, .bool true] W fun e w' => ∃ v', e = .returned v' ∧ Inv W B bk cs v' OUT w'))
    (hNZ : NZ ≤ 32) (hDP : DP ≤ 32) (hB : B ≤ w.heap.size) (hv : w.ownsRow B 5 1 v 0 []) :
    Calls Tryd.prog 17 #[v, .float .f64 b, .int .u8 102, .int .i64 (-1)] w fun e w' => ∃ v', e = .returned v' ∧ w'.ownsRow B 5 1 v' OUT.length OUT ∧ Below B w w' := by
  have hvb : v.ownBlock ≠ some w.heap.size := fun e => by have := (hv.lt _ e).2; omega
  have HVB := Lib.hid hvb
  clear hvb
  have rb := run_bits b
  have CL : Hid (∀ W : World, Calls Tryd.prog 23 #[.int .u64 (M53 : Int)] W fun e w' => e = .returned (.int .i64 53) ∧ w' = W) := Lib.hid fun W => by
    have := Tryd.bits_Len64 (M53 : Int) W (by omega) (by omega)
    rw [Int.toNat_natCast, len53 hM1 hM2] at this
    exact this
  go_enter Tryd.func17, Tryd.ntmps17
  go_wp2_with fail
  go_quiet (fail)
  clear rb hE
  go_wp2_with (first
    | (go_at_call 23; ((with_reducible refine (CL.out _).mono ?_); rintro e w1 ⟨rfl, rfl⟩))
    | (go_at_call 32; ((with_reducible refine (HSH.out _ ((below_drewN (Below.refl _ _) _).alloc (by simp) _)).mono ?_); rintro e w2 ⟨rfl, hb2⟩; have hb3 := behind hb2; clear hb2)))
  obtain ⟨hbw, hbk⟩ := hb3
  have HBK := Lib.hid hbk
  have HBW := Lib.hid hbw
  have HV := Lib.hid (own_below hv hbw (Nat.le_refl _))
  clear hbk hbw hv hn hR hM HSH CL hb
  go_region_with (first
    | (go_at_call 26; ((with_reducible refine (HND.out _ (by exact HBW.out.drew)).mono ?_); rintro e w1 ⟨rfl, rfl⟩))
    | (go_at_call 25; refine (HSD.out _ _ (by exact HBK.out)).mono ?_; rintro e w3 ⟨rfl, cs, hcs, hd, hg⟩))
  have HD := Lib.hid hd
  have HCS := Lib.hid hcs
  have HG := Lib.hid hg
  clear hd hcs hg
  have HV3 := Lib.hid (HV.out.drew.kept HG.out (Or.inr HVB.out))
  have HB3 := Lib.hid ((HBW.out.mono hB).drew.grown HG.out (by have := HBW.out.size; simp; omega) (fun k hk => by cases hk; exact hB))
  have HI3 : Hid (Inv w3 B w.heap.size cs v [] w3) := Lib.hid ⟨HV3.out, HCS.out, Below.refl _ _, by have := HB3.out.size; omega⟩
  go_wp2_with (go_at_call 22; refine (HEF.out _ _ cs HD.out HI3.out).mono ?_; rintro e w4 ⟨v', rfl, hI⟩)
  go_ret
  exact ⟨_, rfl, hI.own, HB3.out.trans hI.below⟩
end Go.Proofs.YtiamghbefallkaaDoor.Fto
