/-
  The law FnSkipValueShiftsWithAPrefix, walked.
-/
import Derived.Test.Qxb6601079aViews
namespace Go.Proofs.Qxb6601079a
open Go.RowKit

theorem InRow.len_bd {k : IntKind} {w : World} {a : Option Addr} {len cap : Nat} {zs : List Int} (h : InRow k w a len cap zs) : len ≤ maxLen ∧ len ≤ zs.length := by
  rcases h with ⟨_, h, _, _⟩ | ⟨x, _, h1, h2, h3, _, _⟩
  · exact ⟨by omega, by omega⟩
  · exact ⟨by omega, by omega⟩

theorem make_cap (n : Nat) (h : n ≤ 2097152) (w : World) :
    (Instr.makeSlice 22 (.int .i64 0) (.int .i64 (n : Int))).run Try.prog w = .ok (.slice (some ⟨w.heap.size, 0, none⟩) 0 n) (w.alloc (.cells (madeCells #[.int .u8 0] n) 5)) := by
  obtain ⟨i, hi, h0, h1, h2⟩ := info_parts Try.info5
  have hr := run_make (P := Try.prog) w 22 5 i (.int .u8 0) Try.underlying22 hi h0 .i64 .i64 0 n (by omega) (by omega) (by rw [h2]; omega) (by omega)
  simp only [Int.toNat_zero, Int.toNat_natCast, h1, Nat.mul_one] at hr
  exact hr

theorem made_owns (w : World) (n : Nat) (h : n ≤ 2097152) : (w.alloc (.cells (madeCells #[.int .u8 0] n) 5)).ownsRow w.heap.size 5 1 (.slice (some ⟨w.heap.size, 0, none⟩) 0 n) 0 [] :=
  World.ownsRow_made w _ n (Nat.le_refl _) (by unfold maxLen; omega) (by rw [size_madeCells]; omega)

set_option maxHeartbeats 400000 in
theorem zz15_any (a0 a1 : Option Addr) (len0 cap0 len1 cap1 : Nat) (i : Int) (w : World) (h0 : len0 ≤ maxLen) (h1 : len1 ≤ maxLen) :
    Calls Try.prog 15 #[.slice a0 len0 cap0, .slice a1 len1 cap1, .int .i64 i] w fun e w' => e = .returned (.bool (decide (len0 + len1 ≤ 1048576))) ∧ w' = w := by
  unfold maxLen at h0 h1
  by_cases c0 : len0 ≤ 1048576
  · by_cases c1 : len0 + len1 ≤ 1048576
    · go_enter Try.func15, Try.ntmps15
      go_wp2
      go_ret
      exact ⟨by simp [c1], rfl⟩
    · by_cases c2 : len1 ≤ 1048576
      · go_enter Try.func15, Try.ntmps15
        go_wp2
        go_ret
        exact ⟨by simp [c1], rfl⟩
      · go_enter Try.func15, Try.ntmps15
        go_wp2
        go_ret
        exact ⟨by simp [c1], rfl⟩
  · have c1 : ¬ (len0 + len1 ≤ 1048576) := by omega
    go_enter Try.func15, Try.ntmps15
    go_wp2
    go_ret
    exact ⟨by simp [c1], rfl⟩

theorem sv_prefix (p l : List Int) (i : Nat) : sv ((p ++ l).drop (i + p.length)) 0 0 (i + p.length) = sv (l.drop i) 0 0 i + p.length := by
  rw [sv_shift]
  congr 2
  rw [Nat.add_comm, List.drop_append, List.drop_eq_nil_of_le (by omega)]
  simp

/-- One byte more. -/
theorem rel_append {w wr w1 : World} {base : Nat} {v v' : Value} {l : List Int} {k : Nat} {x : Int} {n : Nat}
    (hw : w.heap.size ≤ base) (hbel : Below w.heap.size w wr) (hown : wr.ownsRow base 5 1 v n (l.map (Value.int .u8)))
    (o : Obj) (hown' : w1.ownsRow base 5 1 v' (n + 1) (l.map (Value.int .u8) ++ [.int .u8 x])) (hgrow : (wr.alloc o).grownBy w1 v.ownBlock) (_hk : k = n) :
    w1.ownsRow base 5 1 v' (n + 1) ((l ++ [x]).map (Value.int .u8)) ∧ Below w.heap.size w w1 := by
  refine ⟨by simpa using hown', ?_⟩
  have := hbel.size
  refine (hbel.alloc (by omega) o).grown hgrow (by simp; omega) (fun k hk => ?_)
  have := (hown.lt k hk).1
  omega

theorem take_snoc (l : List Int) (k : Nat) (h : k < l.length) : l.take (k + 1) = l.take k ++ [l.getD k 0] := by
  rw [List.take_succ_eq_append_getElem h]
  simp [List.getD_eq_getElem?_getD, h]

theorem ret_true {b : Bool} (h : b = true) : Ending.returned (.bool b) = .returned (.bool true) := by rw [h]

set_option maxHeartbeats 2000000 in
theorem shift_main (a0 : Option Addr) (len0 cap0 : Nat) (z0 : List Int) (a1 : Option Addr) (len1 cap1 : Nat) (z1 : List Int) (i : Nat) (w : World) (w0 : InRow .u8 w a0 len0 cap0 z0) (w1 : InRow .u8 w a1 len1 cap1 z1)
   (m0 : len0 ≤ maxLen) (m1 : len1 ≤ maxLen) (hs : len0 + len1 ≤ 1048576) (h0 : len0 ≤ 524288) (h1 : len1 ≤ 524288) (hi : i ≤ len1) :
    Calls Try.prog 5 #[.slice a0 len0 cap0, .slice a1 len1 cap1, .int .i64 i] w fun e w' => e = .returned (.bool true) ∧ Below w.heap.size w w' := by
  have z0l := w0.len_bd.2
  have z1l := w1.len_bd.2
  go_enter Try.func5, Try.ntmps5
  go_wp2_with fail
  refine (zz15_any _ _ _ _ _ _ _ _ m0 m1).mono ?_
  rintro e w' ⟨rfl, rfl⟩
  go_wp2_with fail
  refine (clone_any _ _ _ _ _ w0 (by omega)).mono ?_
  rintro e wa ⟨v, rfl, hv, hb1⟩
  have w1' := w1.later hb1 (Nat.le_refl _)
  go_wp2_with fail
  refine (clone_any _ _ _ _ _ w1' (by omega)).mono ?_
  rintro e wb ⟨u, rfl, hu, hb2⟩
  have hv' := hv.later hb2 (Nat.le_refl _)
  have HB : Hid (Below w'.heap.size w' wb) := hb1.trans (hb2.mono hb1.size)
  clear hb1 hb2 w0 w1 w1' hv
  obtain ⟨l, hl⟩ : ∃ l, l = z0.take len0 := ⟨_, rfl⟩
  obtain ⟨m, hm⟩ : ∃ m, m = z1.take len1 := ⟨_, rfl⟩
  have hll : l.length = len0 := by rw [hl, List.length_take]; omega
  have hml : m.length = len1 := by rw [hm, List.length_take]; omega
  rw [← hl] at hv'
  rw [← hm] at hu
  clear hl hm z0l z1l
  obtain ⟨a, cap, rfl, _, hva⟩ := hv'.view
  obtain ⟨b, cap', rfl, _, hub⟩ := hu.view
  have hl5 : l.length ≤ 524288 := by omega
  have hm5 : m.length ≤ 524288 := by omega
  have him : i ≤ m.length := by omega
  clear hv' hu hll hml m0 m1 hs h0 h1 hi
  have HVA : Hid (Bv wb a l) := hva
  have HUB : Hid (Bv wb b m) := hub
  clear hva hub
  have hmk := make_cap (l.length + m.length) (by omega)
  rw [show ((l.length + m.length : Nat) : Int) = (l.length : Int) + (m.length : Int) by omega] at hmk
  obtain ⟨i0, hi0, hz0, hz1, hz2⟩ := info_parts Try.info5
  go_wp2
  go_loopw [7, 8] (fun v t wr => ∃ k : Nat, k ≤ l.length ∧ t = .int .i64 k ∧ Hid (wr.ownsRow wb.heap.size 5 1 v k ((l.take k).map (Value.int .u8))) ∧ Hid (Below wb.heap.size wb wr)) (fun _ t _ => l.length - (intOf t).toNat)
  case atStart => exact ⟨0, Nat.zero_le _, rfl, made_owns wb _ (by omega), (Below.refl _ _).alloc (Nat.le_refl _) _⟩
  case round =>
    obtain ⟨k, hk, rfl, hown, hbel⟩ := hrel
    by_cases hlt : k < l.length
    · obtain ⟨bb, rfl, hbb, hc⟩ := HVA.out k hlt
      obtain ⟨x, hx⟩ : ∃ x, x = l.getD k 0 := ⟨_, rfl⟩
      rw [← hx] at hc
      have hcx : wr.cell? ⟨bb, k, none⟩ = some (.int .u8 x) := (hbel.out.cell (p := ⟨bb, k, none⟩) hbb).trans hc
      have HX : Hid (x = l.getD k 0) := hx
      have hsz := hbel.out.size
      clear hx hc
      go_wp2_with (at_builtin; refine wpList_append_own _ rfl _ _ 22 rfl wb.heap.size 5 i0 (.int .u8 0) 1 1 Try.underlying22 hi0 hz0 hz1 hz2 rfl (by decide) _ k ((l.take k).map (Value.int .u8)) rfl (hown.out.alloc _) ⟨wr.heap.size, 0, none⟩ 1 1 [.int .u8 x] rfl rfl (cell_one_new _ _ _) (by intro u hu; simp at hu; subst hu; rfl) (by unfold maxLen; omega) (by omega) (by simp; omega) ?_; intro v' wn hown' hgrow _)
      have R := rel_append (Nat.le_refl _) hbel.out hown.out _ hown' hgrow rfl
      have HR1 := R.1
      rw [HX.out, ← take_snoc l k hlt] at HR1
      have HR : Hid (wn.ownsRow wb.heap.size 5 1 v' (k + 1) ((l.take (k + 1)).map (Value.int .u8))) := HR1
      have HB2 : Hid (Below wb.heap.size wb wn) := R.2
      clear R HR1 hown' hgrow hown hbel hcx
      go_wp2
      go_roundw
      case rel => exact ⟨k + 1, by omega, by go_num, HR, HB2⟩
      case measure => simp [intOf]; omega
    · have HO : Hid (wr.ownsRow wb.heap.size 5 1 u7 l.length (l.map (Value.int .u8))) := by
        have := hown.out
        rw [show k = l.length by omega, List.take_length] at this
        exact this
      have HB1 := hbel
      clear hown hbel HVA
      go_wp2
      go_loopw [7, 9] (fun v t wr => ∃ k : Nat, k ≤ m.length ∧ t = .int .i64 k ∧ Hid (wr.ownsRow wb.heap.size 5 1 v (l.length + k) ((l ++ m.take k).map (Value.int .u8))) ∧ Hid (Below wb.heap.size wb wr)) (fun _ t _ => m.length - (intOf t).toNat)
      case atStart => exact ⟨0, Nat.zero_le _, rfl, by simpa [Hid] using HO.out, HB1⟩
      case round =>
        rename_i wr
        obtain ⟨j, hj, rfl, hown, hbel⟩ := hrel
        by_cases hlt2 : j < m.length
        · obtain ⟨bb, rfl, hbb, hc⟩ := HUB.out j hlt2
          obtain ⟨x, hx⟩ : ∃ x, x = m.getD j 0 := ⟨_, rfl⟩
          rw [← hx] at hc
          have hcx : wr.cell? ⟨bb, j, none⟩ = some (.int .u8 x) := (hbel.out.cell (p := ⟨bb, j, none⟩) hbb).trans hc
          have HX : Hid (x = m.getD j 0) := hx
          have hsz := hbel.out.size
          clear hx hc HO HB1
          go_wp2_with (at_builtin; refine wpList_append_own _ rfl _ _ 22 rfl wb.heap.size 5 i0 (.int .u8 0) 1 1 Try.underlying22 hi0 hz0 hz1 hz2 rfl (by decide) _ (l.length + j) ((l ++ m.take j).map (Value.int .u8)) rfl (hown.out.alloc _) ⟨wr.heap.size, 0, none⟩ 1 1 [.int .u8 x] rfl rfl (cell_one_new _ _ _) (by intro u hu; simp at hu; subst hu; rfl) (by unfold maxLen; omega) (by omega) (by simp; omega) ?_; intro v' wn hown' hgrow _)
          have R := rel_append (Nat.le_refl _) hbel.out hown.out _ hown' hgrow rfl
          have HR1 := R.1
          rw [HX.out, List.append_assoc, ← take_snoc m j hlt2] at HR1
          have HR : Hid (wn.ownsRow wb.heap.size 5 1 v' (l.length + (j + 1)) ((l ++ m.take (j + 1)).map (Value.int .u8))) := HR1
          have HB2 : Hid (Below wb.heap.size wb wn) := R.2
          clear R HR1 hown' hgrow hown hbel hcx
          go_wp2
          go_roundw
          case rel => exact ⟨j + 1, by omega, by go_num, HR, HB2⟩
          case measure => simp [intOf]; omega
        · have ho := hown.out
          rw [show j = m.length by omega, List.take_length] at ho
          obtain ⟨hn, ac, capc, rfl, _, hvc⟩ := owns_view ho
          have HVC : Hid (Bv wr ac (l ++ m)) := hvc
          have HUB' : Hid (Bv wr b m) := HUB.out.later hbel.out (Nat.le_refl _)
          clear hown ho hvc hn HO HB1 HUB
          go_wp2_with fail
          refine (skip11_at _ _ _ (l ++ m) _ (i + l.length) _ (by simp) (by omega) (by simp; omega) (by omega) HVC.out).mono ?_
          rintro e w2 ⟨rfl, rfl⟩
          go_wp2_with fail
          refine (skip11_at _ _ _ m _ i _ rfl rfl (by omega) (by omega) HUB'.out).mono ?_
          rintro e w3 ⟨rfl, rfl⟩
          have hpre := sv_prefix l m i
          obtain ⟨R, hR⟩ : ∃ R, R = sv (m.drop i) 0 0 i := ⟨_, rfl⟩
          have hRb := sv_bd (m.drop i) 0 0 i
          rw [← hR] at hpre hRb
          rw [hpre, ← hR]
          have hRb2 : R ≤ 2097152 := by have := hRb.2; rw [List.length_drop] at this; omega
          clear hpre hR hRb
          go_wp2
          go_ret
          exact ⟨ret_true (by simp), HB.out.trans (hbel.out.mono HB.out.size)⟩
set_option maxHeartbeats 400000 in
theorem shift_law (a0 : Option Addr) (len0 cap0 : Nat) (z0 : List Int) (a1 : Option Addr) (len1 cap1 : Nat) (z1 : List Int) (a2 : Int) (w : World) (w0 : InRow .u8 w a0 len0 cap0 z0) (w1 : InRow .u8 w a1 len1 cap1 z1) :
    Calls Try.prog 5 #[.slice a0 len0 cap0, .slice a1 len1 cap1, .int .i64 a2] w fun e w' => e = .returned (.bool true) ∧ Below w.heap.size w w' := by
  have m0 := w0.len_bd.1
  have m1 := w1.len_bd.1
  by_cases hs : len0 + len1 ≤ 1048576
  · by_cases h0 : len0 ≤ 524288
    · by_cases h1 : len1 ≤ 524288
      · by_cases hn : a2 < 0
        · clear w0 w1
          go_enter Try.func5, Try.ntmps5
          go_wp2_with (go_at_call 15; refine (zz15_any _ _ _ _ _ _ _ _ m0 m1).mono ?_; rintro e w' ⟨rfl, rfl⟩)
          go_ret
          exact ⟨rfl, Below.refl _ _⟩
        · by_cases hg : (len1 : Int) < a2
          · clear w0 w1
            go_enter Try.func5, Try.ntmps5
            go_wp2_with (go_at_call 15; refine (zz15_any _ _ _ _ _ _ _ _ m0 m1).mono ?_; rintro e w' ⟨rfl, rfl⟩)
            go_ret
            exact ⟨rfl, Below.refl _ _⟩
          · obtain ⟨i, rfl⟩ : ∃ i : Nat, a2 = i := ⟨a2.toNat, by omega⟩
            exact shift_main a0 len0 cap0 z0 a1 len1 cap1 z1 i w w0 w1 m0 m1 hs h0 h1 (by omega)
      · clear w0 w1
        go_enter Try.func5, Try.ntmps5
        go_wp2_with (go_at_call 15; refine (zz15_any _ _ _ _ _ _ _ _ m0 m1).mono ?_; rintro e w' ⟨rfl, rfl⟩)
        go_ret
        exact ⟨rfl, Below.refl _ _⟩
    · clear w0 w1
      go_enter Try.func5, Try.ntmps5
      go_wp2_with (go_at_call 15; refine (zz15_any _ _ _ _ _ _ _ _ m0 m1).mono ?_; rintro e w' ⟨rfl, rfl⟩)
      go_ret
      exact ⟨rfl, Below.refl _ _⟩
  · clear w0 w1
    go_enter Try.func5, Try.ntmps5
    go_wp2_with (go_at_call 15; refine (zz15_any _ _ _ _ _ _ _ _ m0 m1).mono ?_; rintro e w' ⟨rfl, rfl⟩)
    go_ret
    exact ⟨rfl, Below.refl _ _⟩

end Go.Proofs.Qxb6601079a
