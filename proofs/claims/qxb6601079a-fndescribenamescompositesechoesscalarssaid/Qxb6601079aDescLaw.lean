/-
  The law FnDescribeNamesCompositesEchoesScalars, walked.
-/
import Derived.Test.Qxb6601079aDesc
import Derived.Deep.QuietTactic
import Derived.BigQuiet
namespace Go.Proofs.Qxb6601079a
open Go.RowKit

theorem desc_scalar (l : List Int) (c : Int) (h : c = l.getD 0 0) (hc : compB c = false) : ((descS l).toList == (strOfNums l).toList) = true := by
  subst h
  simp only [compB, Bool.or_eq_false_iff] at hc
  obtain ⟨⟨h1, h2⟩, h3⟩ := hc
  unfold descS
  rw [h1, h2, h3]
  simp

theorem desc_comp (l : List Int) (c : Int) (h : c = l.getD 0 0) (hl : 0 < l.length) (hc : compB c = true) : ((descS l).toList == (strOfNums l).toList) = false := by
  subst h
  cases l with
  | nil => simp at hl
  | cons c l =>
    simp only [compB, Bool.or_eq_true, List.getD_cons_zero, beq_iff_eq] at hc
    rw [Go.ByteArray.toList_eq, Go.ByteArray.toList_eq, strOfNums_data]
    rcases hc with (hc | hc) | hc
    all_goals
      subst hc
      simp [descS]

theorem desc_two (l m : List Int) (c d : Int) (h : c = l.getD 0 0) (h' : d = m.getD 0 0) (hc : compB c = true) (hd : compB d = true) : ((descS l).toList == (descS m).toList) = (c == d) := by
  simp only [compB, Bool.or_eq_true, beq_iff_eq] at hc hd
  unfold descS
  rw [← h, ← h']
  clear h h'
  rw [Go.ByteArray.toList_eq, Go.ByteArray.toList_eq]
  rcases hc with (hc | hc) | hc <;> rcases hd with (hd | hd) | hd
  all_goals
    subst hc hd
    simp

set_option maxHeartbeats 1000000 in
theorem law_main (a0 : Option Addr) (len0 cap0 : Nat) (z0 : List Int) (a1 : Option Addr) (len1 cap1 : Nat) (z1 : List Int) (w : World) (w0 : InRow .u8 w a0 len0 cap0 z0) (w1 : InRow .u8 w a1 len1 cap1 z1)
   (m0 : len0 ≤ maxLen) (m1 : len1 ≤ maxLen) (hs : len0 + len1 ≤ 1048576) (h0 : len0 ≤ 524288) (h1 : len1 ≤ 524288) (hp : 0 < len0) (hz : len0 ≤ z0.length) :
    Calls Try.prog 6 #[.slice a0 len0 cap0, .slice a1 len1 cap1] w fun e w' => e = .returned (.bool true) ∧ Below w.heap.size w w' := by
  have hne : ((len0 : Int) == 0) = false := by simp; omega
  go_enter Try.func6, Try.ntmps6
  go_wp2_with fail
  refine (zz16_any _ _ _ _ _ _ _ m0 m1).mono ?_
  rintro e w' ⟨rfl, rfl⟩
  go_wp2_with fail
  refine (clone_any _ _ _ _ _ w0 (by omega)).mono ?_
  rintro e wa ⟨v, rfl, hv, hb1⟩
  have w1' := w1.later hb1 (Nat.le_refl _)
  go_wp2_with fail
  refine (clone_any _ _ _ _ _ w1' (by omega)).mono ?_
  rintro e wb ⟨u, rfl, hu, hb2⟩
  have hv' := hv.later hb2 (Nat.le_refl _)
  have HB : Hid (Below w'.heap.size w' wb) := hb1.trans (hb2.mono hb1.size)
  clear hb1 hb2 w0 w1 w1' hv
  obtain ⟨l, hl⟩ : ∃ l, l = z0.take len0 := ⟨_, rfl⟩
  obtain ⟨m, hm⟩ : ∃ m, m = z1.take len1 := ⟨_, rfl⟩
  have hll : 0 < l.length := by rw [hl, List.length_take]; omega
  rw [← hl] at hv'
  rw [← hm] at hu
  clear hl hm
  rcases hv' with ⟨_, rfl⟩ | ⟨b, cap, rfl, hc1, hc2, hlt, hc⟩
  · simp at hll
  have hp' : (0 : Int) < (l.length : Int) := by omega
  obtain ⟨c, hcd⟩ : ∃ c, c = l.getD 0 0 := ⟨_, rfl⟩
  have hcell0 := hc 0 hll
  rw [← hcd] at hcell0
  have HCD : Hid (c = l.getD 0 0) := hcd
  clear hcd
  have g := run_convert_bytes_arg (P := Try.prog) wb 22 5 Try.underlying22 Try.underlying5 b 0 l.length cap l rfl (fun i hi => by rw [Nat.zero_add]; exact hc i hi) 9 Try.underlying9
  have HC : Hid (∀ i, i < l.length → wb.cell? ⟨b, i, none⟩ = some (.int .u8 (l.getD i 0))) := hc
  clear hc
  go_wp2_with fail
  refine (desc_some b cap l _ hll HC.out).mono ?_
  rintro e w2 ⟨rfl, rfl⟩
  by_cases cv : compB c = true
  · have e1 := desc_comp l c HCD.out hll cv
    rcases hu with ⟨rfl, rfl⟩ | ⟨b', cap', rfl, hd1, hd2, hlt', hd⟩
    · go_wp2_with (go_at_call 18; refine (comp_any _ _).mono ?_; rintro e w3 ⟨rfl, rfl⟩)
      go_ret
      exact ⟨rfl, HB.out⟩
    · by_cases hm0 : m.length = 0
      · have hm1 : ¬ (0 : Int) < (m.length : Int) := by omega
        go_wp2_with (go_at_call 18; refine (comp_any _ _).mono ?_; rintro e w3 ⟨rfl, rfl⟩)
        go_ret
        exact ⟨rfl, HB.out⟩
      · have hm1 : (0 : Int) < (m.length : Int) := by omega
        have hm2 : 0 < m.length := by omega
        obtain ⟨d, hdd⟩ : ∃ d, d = m.getD 0 0 := ⟨_, rfl⟩
        have hdcell0 := hd 0 hm2
        rw [← hdd] at hdcell0
        have HDD : Hid (d = m.getD 0 0) := hdd
        clear hdd
        have HD : Hid (∀ i, i < m.length → w2.cell? ⟨b', i, none⟩ = some (.int .u8 (m.getD i 0))) := hd
        clear hd
        by_cases cd : compB d = true
        · have e2 := desc_two l m c d HCD.out HDD.out cv cd
          go_wp2_with (first | (go_at_call 18; refine (comp_any _ _).mono ?_; rintro e w3 ⟨rfl, rfl⟩) | (go_at_call 17; refine (desc_some b' cap' m _ hm2 HD.out).mono ?_; rintro e w3 ⟨rfl, rfl⟩))
          go_quiet (fail)
          go_wp2
          go_ret
          exact ⟨by simp, below_drewN HB.out _⟩
        · simp only [Bool.not_eq_true] at cd
          go_wp2_with (go_at_call 18; refine (comp_any _ _).mono ?_; rintro e w3 ⟨rfl, rfl⟩)
          go_ret
          exact ⟨rfl, HB.out⟩
  · simp only [Bool.not_eq_true] at cv
    have e1 := desc_scalar l c HCD.out cv
    go_wp2_with (go_at_call 18; refine (comp_any _ _).mono ?_; rintro e w3 ⟨rfl, rfl⟩)
    go_ret
    exact ⟨rfl, HB.out⟩

theorem InRow.len_le {k : IntKind} {w : World} {a : Option Addr} {len cap : Nat} {zs : List Int} (h : InRow k w a len cap zs) : len ≤ maxLen ∧ len ≤ zs.length := by
  rcases h with ⟨_, h, _, _⟩ | ⟨x, _, h1, h2, h3, _, _⟩
  · exact ⟨by omega, by omega⟩
  · exact ⟨by omega, by omega⟩

set_option maxHeartbeats 400000 in
theorem desc_law (a0 : Option Addr) (len0 cap0 : Nat) (z0 : List Int) (a1 : Option Addr) (len1 cap1 : Nat) (z1 : List Int) (w : World) (w0 : InRow .u8 w a0 len0 cap0 z0) (w1 : InRow .u8 w a1 len1 cap1 z1) :
    Calls Try.prog 6 #[.slice a0 len0 cap0, .slice a1 len1 cap1] w fun e w' => e = .returned (.bool true) ∧ Below w.heap.size w w' := by
  have m0 := w0.len_le.1
  have m1 := w1.len_le.1
  by_cases hs : len0 + len1 ≤ 1048576
  · by_cases h0 : len0 ≤ 524288
    · by_cases h1 : len1 ≤ 524288
      · by_cases hp : len0 = 0
        · have hne : ((len0 : Int) == 0) = true := by simp [hp]
          clear w0 w1 hp
          go_enter Try.func6, Try.ntmps6
          go_wp2_with (go_at_call 16; refine (zz16_any _ _ _ _ _ _ _ m0 m1).mono ?_; rintro e w' ⟨rfl, rfl⟩)
          go_ret
          exact ⟨rfl, Below.refl _ _⟩
        · exact law_main a0 len0 cap0 z0 a1 len1 cap1 z1 w w0 w1 m0 m1 hs h0 h1 (by omega) w0.len_le.2
      · clear w0 w1
        go_enter Try.func6, Try.ntmps6
        go_wp2_with (go_at_call 16; refine (zz16_any _ _ _ _ _ _ _ m0 m1).mono ?_; rintro e w' ⟨rfl, rfl⟩)
        go_ret
        exact ⟨rfl, Below.refl _ _⟩
    · clear w0 w1
      go_enter Try.func6, Try.ntmps6
      go_wp2_with (go_at_call 16; refine (zz16_any _ _ _ _ _ _ _ m0 m1).mono ?_; rintro e w' ⟨rfl, rfl⟩)
      go_ret
      exact ⟨rfl, Below.refl _ _⟩
  · clear w0 w1
    go_enter Try.func6, Try.ntmps6
    go_wp2_with (go_at_call 16; refine (zz16_any _ _ _ _ _ _ _ m0 m1).mono ?_; rintro e w' ⟨rfl, rfl⟩)
    go_ret
    exact ⟨rfl, Below.refl _ _⟩

end Go.Proofs.Qxb6601079a
