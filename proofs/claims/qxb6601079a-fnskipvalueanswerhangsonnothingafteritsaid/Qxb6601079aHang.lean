/-
  The law FnSkipValueAnswerHangsOnNothingAfterIt, walked.
-/
import Derived.Test.Qxb6601079aShift
namespace Go.Proofs.Qxb6601079a
open Go.RowKit

theorem hang_over (l : List Int) (i : Nat) (hi : i ≤ l.length) (h : sv (l.drop i) 0 0 i = l.length + 1) : 0 < l.length ∧ l.getD (l.length - 1) 0 = 92 := by
  have hd : (l.drop i).length = l.length - i := List.length_drop
  rcases sv_over (l.drop i) 0 0 i (by rw [h, hd]; omega) with ⟨_, h2⟩ | ⟨h1, h2⟩
  · omega
  · rw [hd] at h1 h2
    refine ⟨by omega, ?_⟩
    rw [List.getD_eq_getElem?_getD, List.getElem?_drop] at h2
    rw [List.getD_eq_getElem?_getD]
    rwa [show i + (l.length - i - 1) = l.length - 1 by omega] at h2

theorem hang_in (l : List Int) (i r : Nat) (hi : i ≤ l.length) (h : sv (l.drop i) 0 0 i = r) (hr : r < l.length) :
    stopB (l.getD r 0) = true ∧ sv ((l.take r).drop i) 0 0 i = r ∧ ∀ t, sv ((l.take (r + 1) ++ t).drop i) 0 0 i = r := by
  have hb := (sv_bd (l.drop i) 0 0 i).1
  have hd : (l.drop i).length = l.length - i := List.length_drop
  obtain ⟨h1, h2, h3⟩ := sv_in (l.drop i) 0 0 i r h (by rw [hd]; omega)
  refine ⟨?_, ?_, fun t => ?_⟩
  · rw [List.getD_eq_getElem?_getD, List.getElem?_drop] at h1
    rw [List.getD_eq_getElem?_getD]
    rwa [show i + (r - i) = r by omega] at h1
  · rw [List.drop_take]; exact h2
  · rw [List.drop_append_of_le_length (by rw [List.length_take]; omega), List.drop_take, show r + 1 - i = r - i + 1 by omega]
    exact h3 t

set_option maxHeartbeats 400000 in
theorem stop14 (c : Int) (w : World) : Calls Try.prog 14 #[.int .u8 c] w fun e w' => e = .returned (.bool (stopB c)) ∧ w' = w := by
  have hb : Hid (stopB c = (c == 44 || c == 125 || c == 93 || blankB c)) := rfl
  by_cases h1 : (c == 44) = true
  · go_enter Try.func14, Try.ntmps14
    go_wp2
    go_ret
    exact ⟨by rw [hb.out]; simp [h1], rfl⟩
  · simp only [Bool.not_eq_true] at h1
    by_cases h2 : (c == 125) = true
    · go_enter Try.func14, Try.ntmps14
      go_wp2
      go_ret
      exact ⟨by rw [hb.out]; simp [h1, h2], rfl⟩
    · simp only [Bool.not_eq_true] at h2
      by_cases h3 : (c == 93) = true
      · go_enter Try.func14, Try.ntmps14
        go_wp2
        go_ret
        exact ⟨by rw [hb.out]; simp [h1, h2, h3], rfl⟩
      · simp only [Bool.not_eq_true] at h3
        go_enter Try.func14, Try.ntmps14
        go_wp2_with (go_at_call 30; refine (blank30 _ _).mono ?_; rintro e w' ⟨rfl, rfl⟩)
        go_ret
        exact ⟨by rw [hb.out]; simp [h1, h2, h3], rfl⟩

set_option maxHeartbeats 400000 in
theorem zz13_any (a0 a1 : Option Addr) (len0 cap0 len1 cap1 : Nat) (i : Int) (w : World) (h0 : len0 ≤ maxLen) (h1 : len1 ≤ maxLen) :
    Calls Try.prog 13 #[.slice a0 len0 cap0, .slice a1 len1 cap1, .int .i64 i] w fun e w' => e = .returned (.bool (decide (len0 + len1 ≤ 1048576))) ∧ w' = w := by
  unfold maxLen at h0 h1
  by_cases c0 : len0 ≤ 1048576
  · by_cases c1 : len0 + len1 ≤ 1048576
    · go_enter Try.func13, Try.ntmps13
      go_wp2
      go_ret
      exact ⟨by simp [c1], rfl⟩
    · by_cases c2 : len1 ≤ 1048576
      · go_enter Try.func13, Try.ntmps13
        go_wp2
        go_ret
        exact ⟨by simp [c1], rfl⟩
      · go_enter Try.func13, Try.ntmps13
        go_wp2
        go_ret
        exact ⟨by simp [c1], rfl⟩
  · have c1 : ¬ (len0 + len1 ≤ 1048576) := by omega
    go_enter Try.func13, Try.ntmps13
    go_wp2
    go_ret
    exact ⟨by simp [c1], rfl⟩

set_option maxHeartbeats 2000000 in
theorem hang_main (a0 : Option Addr) (len0 cap0 : Nat) (z0 : List Int) (a1 : Option Addr) (len1 cap1 : Nat) (z1 : List Int) (i : Nat) (w : World) (w0 : InRow .u8 w a0 len0 cap0 z0) (w1 : InRow .u8 w a1 len1 cap1 z1)
   (m0 : len0 ≤ maxLen) (m1 : len1 ≤ maxLen) (hs : len0 + len1 ≤ 1048576) (h0 : len0 ≤ 524288) (h1 : len1 ≤ 524288) (hi : i ≤ len0) :
    Calls Try.prog 4 #[.slice a0 len0 cap0, .slice a1 len1 cap1, .int .i64 i] w fun e w' => e = .returned (.bool true) ∧ Below w.heap.size w w' := by
  have z0l := w0.len_bd.2
  have z1l := w1.len_bd.2
  go_enter Try.func4, Try.ntmps4
  go_wp2_with fail
  refine (zz13_any _ _ _ _ _ _ _ _ m0 m1).mono ?_
  rintro e w' ⟨rfl, rfl⟩
  go_wp2_with fail
  refine (clone_any _ _ _ _ _ w0 (by omega)).mono ?_
  rintro e wa ⟨v, rfl, hv, hb1⟩
  have w1' := w1.later hb1 (Nat.le_refl _)
  go_wp2_with fail
  refine (clone_any _ _ _ _ _ w1' (by omega)).mono ?_
  rintro e wb ⟨u, rfl, hu, hb2⟩
  have hv' := hv.later hb2 (Nat.le_refl _)
  have HB : Hid (Below w'.heap.size w' wb) := hb1.trans (hb2.mono hb1.size)
  clear hb1 hb2 w0 w1 w1' hv
  obtain ⟨l, hl⟩ : ∃ l, l = z0.take len0 := ⟨_, rfl⟩
  obtain ⟨m, hm⟩ : ∃ m, m = z1.take len1 := ⟨_, rfl⟩
  have hll : l.length = len0 := by rw [hl, List.length_take]; omega
  have hml : m.length = len1 := by rw [hm, List.length_take]; omega
  rw [← hl] at hv'
  rw [← hm] at hu
  clear hl hm z0l z1l
  obtain ⟨a, cap, rfl, hcap, hva⟩ := hv'.view
  obtain ⟨b, cap', rfl, _, hub⟩ := hu.view
  have hl5 : l.length ≤ 524288 := by omega
  have hm5 : m.length ≤ 524288 := by omega
  have him : i ≤ l.length := by omega
  clear hv' hu hll hml m0 m1 hs h0 h1 hi
  have HVA : Hid (Bv wb a l) := hva
  have HUB : Hid (Bv wb b m) := hub
  clear hva hub
  go_wp2_with fail
  refine (skip11_at _ _ _ l _ i _ rfl rfl (by omega) (by omega) HVA.out).mono ?_
  rintro e w2 ⟨rfl, rfl⟩
  obtain ⟨r, hr⟩ : ∃ r, r = sv (l.drop i) 0 0 i := ⟨_, rfl⟩
  have hb := sv_bd (l.drop i) 0 0 i
  rw [← hr] at hb ⊢
  rw [List.length_drop] at hb
  have hr1 : i ≤ r := hb.1
  have hr2 : r ≤ l.length + 1 := by omega
  have HR : Hid (sv (l.drop i) 0 0 i = r) := hr.symm
  clear hr hb
  by_cases c1 : r = l.length + 1
  · have ho := hang_over l i him (by rw [HR.out, c1])
    obtain ⟨bb, rfl, _, hc⟩ := HVA.out.all ho.1
    have hlast := hc (l.length - 1) (by omega)
    rw [ho.2] at hlast
    have hp : (0 : Int) < (l.length : Int) := by omega
    have he : ((r : Int) == (l.length : Int) + 1) = true := by simp [c1]
    have hlt : l.length - 1 < l.length := by omega
    clear hc ho c1
    go_wp2
    go_ret
    exact ⟨ret_true (by simp), HB.out⟩
  · have he : ((r : Int) == (l.length : Int) + 1) = false := by simp; omega
    by_cases c2 : r = l.length
    · have he2 : ((r : Int) == (l.length : Int)) = true := by simp [c2]
      clear c1 c2
      go_wp2
      go_ret
      exact ⟨rfl, HB.out⟩
    · have he2 : ((r : Int) == (l.length : Int)) = false := by simp; omega
      have hrl : r < l.length := by omega
      obtain ⟨k1, k2, k3⟩ := hang_in l i r him HR.out hrl
      obtain ⟨bb, rfl, hbb, hc⟩ := HVA.out.all (by omega)
      have hcr := hc r hrl
      obtain ⟨x, hx⟩ : ∃ x, x = l.getD r 0 := ⟨_, rfl⟩
      rw [← hx] at hcr k1
      have K2 : Hid (sv ((l.take r).drop i) 0 0 i = r) := k2
      have K3 : Hid (∀ t, sv ((l.take (r + 1) ++ t).drop i) 0 0 i = r) := k3
      have HX : Hid (x = l.getD r 0) := hx
      have HC : Hid (∀ i, i < l.length → w2.cell? ⟨bb, i, none⟩ = some (.int .u8 (l.getD i 0))) := hc
      have hne : ((r : Int) != (r : Int)) = false := by simp
      clear c1 c2 k2 k3 hx hc
      go_wp2_with fail
      refine (stop14 _ _).mono ?_
      rintro e w3 ⟨rfl, rfl⟩
      have hBr : Hid (Bv w3 (some ⟨bb, 0, none⟩) (l.take r)) := fun j hj => ⟨bb, rfl, hbb, by
        rw [List.length_take] at hj
        rw [getD_take _ _ _ (by omega)]
        exact HC.out j (by omega)⟩
      go_wp2_with fail
      refine (skip11_at _ _ _ (l.take r) _ i _ (by simp; omega) rfl (by simp; omega) (by omega) hBr.out).mono ?_
      rintro e w4 ⟨rfl, rfl⟩
      rw [K2.out]
      have hmk := make_cap (r + 1 + m.length) (by omega)
      rw [show ((r + 1 + m.length : Nat) : Int) = (r : Int) + 1 + (m.length : Int) by omega] at hmk
      obtain ⟨i0, hi0, hz0, hz1, hz2⟩ := info_parts Try.info5
      clear hBr K2 HVA
      go_wp2
      go_loopw [8, 9] (fun v t wr => ∃ k : Nat, k ≤ r + 1 ∧ t = .int .i64 k ∧ Hid (wr.ownsRow w4.heap.size 5 1 v k ((l.take k).map (Value.int .u8))) ∧ Hid (Below w4.heap.size w4 wr)) (fun _ t _ => r + 1 - (intOf t).toNat)
      case atStart => exact ⟨0, Nat.zero_le _, rfl, made_owns w4 _ (by omega), (Below.refl _ _).alloc (Nat.le_refl _) _⟩
      case round =>
        obtain ⟨k, hk, rfl, hown, hbel⟩ := hrel
        by_cases hlt : k ≤ r
        · have hkl : k < l.length := by omega
          have hc := HC.out k hkl
          obtain ⟨y, hy⟩ : ∃ y, y = l.getD k 0 := ⟨_, rfl⟩
          rw [← hy] at hc
          have hcx : wr.cell? ⟨bb, k, none⟩ = some (.int .u8 y) := (hbel.out.cell (p := ⟨bb, k, none⟩) hbb).trans hc
          have HY : Hid (y = l.getD k 0) := hy
          have hsz := hbel.out.size
          clear hy hc hcr
          go_wp2_with (at_builtin; refine wpList_append_own _ rfl _ _ 22 rfl w4.heap.size 5 i0 (.int .u8 0) 1 1 Try.underlying22 hi0 hz0 hz1 hz2 rfl (by decide) _ k ((l.take k).map (Value.int .u8)) rfl (hown.out.alloc _) ⟨wr.heap.size, 0, none⟩ 1 1 [.int .u8 y] rfl rfl (cell_one_new _ _ _) (by intro u hu; simp at hu; subst hu; rfl) (by unfold maxLen; omega) (by omega) (by simp; omega) ?_; intro v' wn hown' hgrow _)
          have R := rel_append (Nat.le_refl _) hbel.out hown.out _ hown' hgrow rfl
          have HR1 := R.1
          rw [HY.out, ← take_snoc l k hkl] at HR1
          have HRR : Hid (wn.ownsRow w4.heap.size 5 1 v' (k + 1) ((l.take (k + 1)).map (Value.int .u8))) := HR1
          have HB2 : Hid (Below w4.heap.size w4 wn) := R.2
          clear R HR1 hown' hgrow hown hbel hcx
          go_wp2
          go_roundw
          case rel => exact ⟨k + 1, by omega, by go_num, HRR, HB2⟩
          case measure => simp [intOf]; omega
        · have HO : Hid (wr.ownsRow w4.heap.size 5 1 u8 (r + 1) ((l.take (r + 1)).map (Value.int .u8))) := by
            have := hown.out
            rw [show k = r + 1 by omega] at this
            exact this
          have HB1 := hbel
          clear hown hbel hcr HC
          go_wp2
          go_loopw [8, 10] (fun v t wr => ∃ k : Nat, k ≤ m.length ∧ t = .int .i64 k ∧ Hid (wr.ownsRow w4.heap.size 5 1 v (r + 1 + k) ((l.take (r + 1) ++ m.take k).map (Value.int .u8))) ∧ Hid (Below w4.heap.size w4 wr)) (fun _ t _ => m.length - (intOf t).toNat)
          case atStart => exact ⟨0, Nat.zero_le _, rfl, by simpa [Hid] using HO.out, HB1⟩
          case round =>
            rename_i wr
            obtain ⟨j, hj, rfl, hown, hbel⟩ := hrel
            by_cases hlt2 : j < m.length
            · obtain ⟨bm, rfl, hbm, hc⟩ := HUB.out j hlt2
              obtain ⟨y, hy⟩ : ∃ y, y = m.getD j 0 := ⟨_, rfl⟩
              rw [← hy] at hc
              have hcx : wr.cell? ⟨bm, j, none⟩ = some (.int .u8 y) := (hbel.out.cell (p := ⟨bm, j, none⟩) hbm).trans hc
              have HY : Hid (y = m.getD j 0) := hy
              have hsz := hbel.out.size
              clear hy hc HO HB1
              go_wp2_with (at_builtin; refine wpList_append_own _ rfl _ _ 22 rfl w4.heap.size 5 i0 (.int .u8 0) 1 1 Try.underlying22 hi0 hz0 hz1 hz2 rfl (by decide) _ (r + 1 + j) ((l.take (r + 1) ++ m.take j).map (Value.int .u8)) rfl (hown.out.alloc _) ⟨wr.heap.size, 0, none⟩ 1 1 [.int .u8 y] rfl rfl (cell_one_new _ _ _) (by intro u hu; simp at hu; subst hu; rfl) (by unfold maxLen; omega) (by omega) (by simp; omega) ?_; intro v' wn hown' hgrow _)
              have R := rel_append (Nat.le_refl _) hbel.out hown.out _ hown' hgrow rfl
              have HR1 := R.1
              rw [HY.out, List.append_assoc, ← take_snoc m j hlt2] at HR1
              have HRR : Hid (wn.ownsRow w4.heap.size 5 1 v' (r + 1 + (j + 1)) ((l.take (r + 1) ++ m.take (j + 1)).map (Value.int .u8))) := HR1
              have HB2 : Hid (Below w4.heap.size w4 wn) := R.2
              clear R HR1 hown' hgrow hown hbel hcx
              go_wp2
              go_roundw
              case rel => exact ⟨j + 1, by omega, by go_num, HRR, HB2⟩
              case measure => simp [intOf]; omega
            · have ho := hown.out
              rw [show j = m.length by omega, List.take_length] at ho
              obtain ⟨hn, ac, capc, rfl, _, hvc⟩ := owns_view ho
              have HVC : Hid (Bv wr ac (l.take (r + 1) ++ m)) := hvc
              have HN : Hid (r + 1 + m.length = (l.take (r + 1) ++ m).length) := hn
              clear hown ho hvc HO HB1 HUB hn
              go_wp2_with fail
              refine (skip11_at _ _ _ (l.take (r + 1) ++ m) _ i _ HN.out rfl (by rw [← HN.out]; omega) (by omega) HVC.out).mono ?_
              rintro e w5 ⟨rfl, rfl⟩
              rw [K3.out m]
              go_wp2
              go_ret
              exact ⟨ret_true (by simp), HB.out.trans (hbel.out.mono HB.out.size)⟩

set_option maxHeartbeats 400000 in
theorem hang_law (a0 : Option Addr) (len0 cap0 : Nat) (z0 : List Int) (a1 : Option Addr) (len1 cap1 : Nat) (z1 : List Int) (a2 : Int) (w : World) (w0 : InRow .u8 w a0 len0 cap0 z0) (w1 : InRow .u8 w a1 len1 cap1 z1) :
    Calls Try.prog 4 #[.slice a0 len0 cap0, .slice a1 len1 cap1, .int .i64 a2] w fun e w' => e = .returned (.bool true) ∧ Below w.heap.size w w' := by
  have m0 := w0.len_bd.1
  have m1 := w1.len_bd.1
  by_cases hs : len0 + len1 ≤ 1048576
  · by_cases h0 : len0 ≤ 524288
    · by_cases h1 : len1 ≤ 524288
      · by_cases hn : a2 < 0
        · clear w0 w1
          go_enter Try.func4, Try.ntmps4
          go_wp2_with (go_at_call 13; refine (zz13_any _ _ _ _ _ _ _ _ m0 m1).mono ?_; rintro e w' ⟨rfl, rfl⟩)
          go_ret
          exact ⟨rfl, Below.refl _ _⟩
        · by_cases hg : (len0 : Int) < a2
          · clear w0 w1
            go_enter Try.func4, Try.ntmps4
            go_wp2_with (go_at_call 13; refine (zz13_any _ _ _ _ _ _ _ _ m0 m1).mono ?_; rintro e w' ⟨rfl, rfl⟩)
            go_ret
            exact ⟨rfl, Below.refl _ _⟩
          · obtain ⟨i, rfl⟩ : ∃ i : Nat, a2 = i := ⟨a2.toNat, by omega⟩
            exact hang_main a0 len0 cap0 z0 a1 len1 cap1 z1 i w w0 w1 m0 m1 hs h0 h1 (by omega)
      · clear w0 w1
        go_enter Try.func4, Try.ntmps4
        go_wp2_with (go_at_call 13; refine (zz13_any _ _ _ _ _ _ _ _ m0 m1).mono ?_; rintro e w' ⟨rfl, rfl⟩)
        go_ret
        exact ⟨rfl, Below.refl _ _⟩
    · clear w0 w1
      go_enter Try.func4, Try.ntmps4
      go_wp2_with (go_at_call 13; refine (zz13_any _ _ _ _ _ _ _ _ m0 m1).mono ?_; rintro e w' ⟨rfl, rfl⟩)
      go_ret
      exact ⟨rfl, Below.refl _ _⟩
  · clear w0 w1
    go_enter Try.func4, Try.ntmps4
    go_wp2_with (go_at_call 13; refine (zz13_any _ _ _ _ _ _ _ _ m0 m1).mono ?_; rintro e w' ⟨rfl, rfl⟩)
    go_ret
    exact ⟨rfl, Below.refl _ _⟩

end Go.Proofs.Qxb6601079a
