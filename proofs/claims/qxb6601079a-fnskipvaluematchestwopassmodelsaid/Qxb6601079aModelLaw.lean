/-
  The law FnSkipValueMatchesTwoPassModel, walked.
-/
import Derived.Test.Qxb6601079aModel
import Derived.OpenShut
namespace Go.Proofs.Qxb6601079a
open Go.RowKit

set_option maxHeartbeats 400000 in
theorem zz9_any (a0 : Option Addr) (len0 cap0 : Nat) (i : Int) (w : World) (h0 : len0 ≤ maxLen) :
    Calls Try.prog 9 #[.slice a0 len0 cap0, .int .i64 i] w fun e w' => e = .returned (.bool (decide (len0 ≤ 1048576))) ∧ w' = w := by
  unfold maxLen at h0
  by_cases c0 : len0 ≤ 1048576
  · go_enter Try.func9, Try.ntmps9
    go_wp2
    go_ret
    exact ⟨by simp [c0], rfl⟩
  · go_enter Try.func9, Try.ntmps9
    go_wp2
    go_ret
    exact ⟨by simp [c0], rfl⟩

set_option maxHeartbeats 1000000 in
theorem modelLaw_main (a0 : Option Addr) (len0 cap0 : Nat) (z0 : List Int) (i : Nat) (w : World) (w0 : InRow .u8 w a0 len0 cap0 z0)
   (m0 : len0 ≤ maxLen) (h0 : len0 ≤ 1048576) (hi : i ≤ 9223372036854775807) :
    Calls Try.prog 3 #[.slice a0 len0 cap0, .int .i64 i] w fun e w' => e = .returned (.bool true) ∧ Below w.heap.size w w' := by
  have z0l := w0.len_bd.2
  go_enter Try.func3, Try.ntmps3
  go_wp2_with fail
  refine (zz9_any _ _ _ _ _ m0).mono ?_
  rintro e w' ⟨rfl, rfl⟩
  go_wp2_with fail
  refine (clone_any _ _ _ _ _ w0 (by omega)).mono ?_
  rintro e wa ⟨v, rfl, hv, hb1⟩
  have HB : Hid (Below w'.heap.size w' wa) := hb1
  obtain ⟨l, hl⟩ : ∃ l, l = z0.take len0 := ⟨_, rfl⟩
  have hll : l.length = len0 := by rw [hl, List.length_take]; omega
  rw [← hl] at hv
  have hl5 : l.length ≤ 1048576 := by omega
  obtain ⟨a, cap, rfl, _, hva⟩ := hv.view
  have HVA : Hid (Bv wa a l) := hva
  clear hl hll z0l hva hv hb1 w0
  go_wp2_with fail
  refine (skip11_at _ _ _ l _ i _ rfl rfl (by omega) hi HVA.out).mono ?_
  rintro e w2 ⟨rfl, rfl⟩
  go_wp2_with fail
  refine (model_any _ _ l i _ (by omega) HVA.out).mono ?_
  rintro e w3 ⟨rfl, hb3⟩
  have HB3 : Hid (Below w2.heap.size w2 w3) := hb3
  clear hb3 HVA
  generalize sv (l.drop i) 0 0 i = R
  go_wp2
  go_ret
  exact ⟨ret_true (by simp), HB.out.trans (HB3.out.mono HB.out.size)⟩

set_option maxHeartbeats 400000 in
theorem model_law (a0 : Option Addr) (len0 cap0 : Nat) (z0 : List Int) (a1 : Int) (w : World) (w0 : InRow .u8 w a0 len0 cap0 z0) (w1 : (Lit.int .i64 a1).wf = true) :
    Calls Try.prog 3 #[.slice a0 len0 cap0, .int .i64 a1] w fun e w' => e = .returned (.bool true) ∧ Below w.heap.size w w' := by
  have m0 := w0.len_bd.1
  have hb := (bounds_i64 w1).2
  by_cases h0 : len0 ≤ 1048576
  · by_cases hn : a1 < 0
    · clear w0 w1 hb
      go_enter Try.func3, Try.ntmps3
      go_wp2_with (go_at_call 9; refine (zz9_any _ _ _ _ _ m0).mono ?_; rintro e w' ⟨rfl, rfl⟩)
      go_ret
      exact ⟨rfl, Below.refl _ _⟩
    · obtain ⟨i, rfl⟩ : ∃ i : Nat, a1 = i := ⟨a1.toNat, by omega⟩
      exact modelLaw_main a0 len0 cap0 z0 i w w0 m0 h0 (by omega)
  · clear w0 w1 hb
    go_enter Try.func3, Try.ntmps3
    go_wp2_with (go_at_call 9; refine (zz9_any _ _ _ _ _ m0).mono ?_; rintro e w' ⟨rfl, rfl⟩)
    go_ret
    exact ⟨rfl, Below.refl _ _⟩

end Go.Proofs.Qxb6601079a
