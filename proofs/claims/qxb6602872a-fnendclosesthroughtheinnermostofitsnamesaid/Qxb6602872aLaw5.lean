/-
  The law FnEndClosesThroughTheInnermostOfItsName, walked.
-/
import Derived.Test.Qxb6602872aTail
namespace Go.Proofs.Qxb6602872a
open Go.RowKit

set_option maxRecDepth 100000 in
set_option maxHeartbeats 8000000 in
theorem law5_main (a0 a1 : Option Addr) (cap0 cap1 : Nat) (ns : List ByteArray) (ks : List Bool) (p q : ByteArray) (w : World) (h0 : InRow w a0 ns.length cap0 (cS ns)) (h1 : InRow w a1 ks.length cap1 (cB ks)) (hs : ∀ s ∈ ns, s.size ≤ maxLen) (hp : p.size ≤ maxLen) (hq : q.size ≤ maxLen)
    (hk : ks.length = ns.length) :
    Calls Try.prog 5 #[.slice a0 ns.length cap0, .slice a1 ks.length cap1, .string p, .string q] w fun e w' => e = .returned (.bool true) ∧ Below w.heap.size w w' := by
  have hl1 := h1.len_bd
  have H0 := Hid.mk h0
  have H1 := Hid.mk h1
  have HS := Hid.mk hs
  have HK := Hid.mk hk
  have HQ := Hid.mk hq
  have hne2 : ((ks.length : Int) != (ns.length : Int)) = false := by simp [hk]
  clear h0 h1 hs hk
  go_enter Try.func5, Try.ntmps5
  go_wp2_with fail
  refine (zz17_any _ _ _ _ _ ns p q _ H0.out HS.out hl1 hp hq).mono ?_
  rintro e w' ⟨⟨b, rfl, _⟩, rfl⟩
  cases b with
  | false =>
    go_wp2
    go_ret
    exact ⟨rfl, Below.refl _ _⟩
  | true =>
    go_wp2_with fail
    refine (fits_any _ _ _ _ _ ns p q _ H0.out HS.out hl1 hp hq).mono ?_
    rintro e w1 ⟨⟨b, rfl, hT⟩, rfl⟩
    cases b with
    | false =>
      go_wp2
      go_ret
      exact ⟨rfl, Below.refl _ _⟩
    | true =>
      have hT2 := hT rfl
      have hb1 : ns.length ≤ 65536 := by omega
      have hb2 : ks.length ≤ 1048576 := by omega
      have hb3 : p.size ≤ 1048576 := by omega
      have hb4 : sumSz ns ≤ 1048576 := by omega
      clear hT hT2
      go_wp2_with fail
      refine (cloneS_any _ _ ns _ (by omega) H0.out).mono ?_
      rintro e wa ⟨x0, q0, rfl, hv0, hba⟩
      have H1a := H1.out.later hba (Nat.le_refl _)
      go_wp2_with fail
      refine (cloneB_any _ _ ks _ (by omega) H1a).mono ?_
      rintro e wb ⟨x1, q1, rfl, hv1, hbb⟩
      have HV0 := Hid.mk (hv0.later hbb (Nat.le_refl _))
      have HV1 := Hid.mk hv1
      have HBB := Hid.mk (hba.trans (hbb.mono hba.size))
      clear hv0 hv1 hba hbb H1a H0 H1 hl1 hp hq
      have hmm := @run_makeMap Try.prog
      go_wp2
      go_loop [10, 11] (fun z i => ∃ (k : Nat) (zi : Int), k ≤ ns.length ∧ i = .int .i64 k ∧ z = .int .i64 zi ∧ -1 ≤ zi ∧ zi ≤ 65536 ∧ Hid (Lst ns q.data.toList k zi)) (fun _ i => ns.length - (intOf i).toNat)
      case atStart => exact ⟨0, -1, Nat.zero_le _, rfl, rfl, by omega, by omega, Lst.start _ _⟩
      case round =>
        obtain ⟨k, zi, hkl, rfl, rfl, hz1, hz2, HL⟩ := hrel
        by_cases hlt : k < ns.length
        · obtain ⟨bb, rfl, hbbl, c0⟩ := HV0.out k hlt
          rw [cS] at c0
          obtain ⟨s, hsn⟩ : ∃ s, s = ns.getD k noS := ⟨_, rfl⟩
          rw [← hsn] at c0
          have HSN := Hid.mk hsn
          clear hsn
          by_cases heq : s.data.toList = q.data.toList
          · have he : (s.toList == q.toList) = true := by
              rw [Go.ByteArray.toList_eq, Go.ByteArray.toList_eq, heq]; simp
            have HEQ := Hid.mk heq
            clear heq
            go_wp2
            go_round
            case rel => exact ⟨k + 1, k, by omega, by go_num, rfl, by omega, by omega, Lst.hit (by rw [← HSN.out]; exact HEQ.out)⟩
            case measure => simp [intOf]; omega
          · have he : (s.toList == q.toList) = false := by
              rw [beq_eq_false_iff_ne, Go.ByteArray.toList_eq, Go.ByteArray.toList_eq]; exact heq
            have HEQ := Hid.mk heq
            clear heq
            go_wp2
            go_round
            case rel => exact ⟨k + 1, zi, by omega, by go_num, rfl, hz1, hz2, HL.out.miss (by rw [← HSN.out]; exact HEQ.out)⟩
            case measure => simp [intOf]; omega
        · have HL2 : Hid (Lst ns q.data.toList ns.length zi) := by
            have := HL.out
            rwa [show k = ns.length by omega] at this
          clear HL
          go_wp2
          go_loopw [13] (fun i wr => ∃ k : Nat, k ≤ ns.length ∧ i = .int .i64 k ∧ Hid (Counted wb.heap.size ns k wr) ∧ Hid (Below wb.heap.size wb wr)) (fun i _ => ns.length - (intOf i).toNat)
          case atStart => exact ⟨0, Nat.zero_le _, rfl, ⟨_, _, CInv.start wb⟩, (Below.refl _ _).alloc (Nat.le_refl _) _⟩
          case round =>
            clear hkl hlt
            obtain ⟨k, hkl, rfl, hcnt, hbel⟩ := hrel
            by_cases hlt : k < ns.length
            · obtain ⟨sz, D, hC⟩ := hcnt.out
              obtain ⟨bb, rfl, hbbl, c0⟩ := HV0.out k hlt
              have d0 := (hbel.out.cell (p := ⟨bb, k, none⟩) hbbl).trans c0
              rw [cS] at d0
              have hsz := size_ok HS.out k
              have hcl := cnt_le (ns.take k) (ns.getD k noS).data.toList
              rw [List.length_take] at hcl
              obtain ⟨s, hsn⟩ : ∃ s, s = ns.getD k noS := ⟨_, rfl⟩
              rw [← hsn] at d0 hsz hcl
              have hlook := hC.look hsz
              obtain ⟨c, hcc⟩ : ∃ c, c = cnt (ns.take k) s.data.toList := ⟨_, rfl⟩
              rw [← hcc] at hlook hcl
              have hc4 : c ≤ 65536 := by omega
              have HC := Hid.mk hC
              have HSN := Hid.mk hsn
              have HCC := Hid.mk hcc
              have HSZ := Hid.mk hsz
              clear hC hsn hcc hsz c0 hcl hcnt
              go_wp2_with (at_mapUpdate; refine wpList_mapUpdate_own (H := Unit) _ rfl _ _ _ 31 rfl 9 3 law9 Try.underlying31 (plainElem Try.prog 3) wb.heap.size k D rfl HC.out.own (by unfold maxLen; omega) _ _ (.string s.data.toList) rfl rfl (key9 HSZ.out) (.lit (.int .i64 ((c : Int) + 1))) [] (plainElem_int Try.underlying3 (WalkArith.wf_i64 (by omega))) ?_; intro w2 hown2 hgrow2)
              have HN2 := Hid.mk (Counted.step hlt HSN.out HC.out (by rw [← HCC.out]) hown2)
              have HB2 : Hid (Below wb.heap.size wb w2) := hbel.out.grown hgrow2 hbel.out.size (fun j hj => by cases hj; exact Nat.le_refl _)
              clear hown2 hgrow2 hlook
              go_wp2
              go_roundw
              case rel => exact ⟨k + 1, by omega, by go_num, HN2, HB2⟩
              case measure => simp [intOf]; omega
            · obtain ⟨sz, D, hC⟩ := hcnt.out
              rw [show k = ns.length by omega, List.take_length] at hC
              obtain rfl : sz = Maps.size D := hC.size.symm
              have HC := Hid.mk hC
              have HB1 := hbel
              have hM1 := hC.own.lt
              clear hC hcnt hbel
              obtain ⟨st, hst, hcase⟩ := HL2.out.done
              have hstl := hst.le
              have HST := Hid.mk hst
              clear hst HL2
              rcases hcase with ⟨hzs, hz⟩ | ⟨hzs, hz⟩
              all_goals
                have HZ := Hid.mk hz
                clear hz
                go_wp2_with (at_len; refine wpList_len_own _ rfl _ 31 rfl 9 3 Try.underlying31 _ _ _ _ rfl HC.out.own ?_)
                rename World => wr1
                generalize Maps.size D = sz at HC ⊢
                have HVW0 := Hid.mk (HV0.out.later HB1.out (Nat.le_refl _))
                have HVW1 := Hid.mk (HV1.out.later HB1.out (Nat.le_refl _))
                have HBW := Hid.mk (HBB.out.trans (HB1.out.mono HBB.out.size))
                have hM1w : wb.heap.size < wr1.heap.size := hM1
                have HNW : Hid (w1.heap.size ≤ wb.heap.size) := HBB.out.size
                clear HV0 HV1 HBB HB1
                go_loopw [17] (fun i wr => ∃ k : Nat, k ≤ st ∧ i = .int .i64 k ∧ Hid (Counted wr1.heap.size ns k wr) ∧ Hid (Below wr1.heap.size wr1 wr)) (fun i _ => st - (intOf i).toNat)
                case atStart => exact ⟨0, Nat.zero_le _, rfl, ⟨_, _, CInv.start wr1⟩, (Below.refl _ _).alloc (Nat.le_refl _) _⟩
                case round =>
                  obtain ⟨k, hkl, rfl, hcnt, hbel⟩ := hrel
                  by_cases hlt : k < st
                  · have hltn : k < ns.length := by omega
                    have hlt1 := lt_of HZ.out hlt
                    obtain ⟨sz2, D2, hC2⟩ := hcnt.out
                    obtain ⟨bb, rfl, hbbl, c0⟩ := HVW0.out k hltn
                    have d0 := (hbel.out.cell (p := ⟨bb, k, none⟩) hbbl).trans c0
                    rw [cS] at d0
                    have hsz := size_ok HS.out k
                    have hcl := cnt_le (ns.take k) (ns.getD k noS).data.toList
                    rw [List.length_take] at hcl
                    obtain ⟨s, hsn⟩ : ∃ s, s = ns.getD k noS := ⟨_, rfl⟩
                    rw [← hsn] at d0 hsz hcl
                    have hlook := hC2.look hsz
                    obtain ⟨c, hcc⟩ : ∃ c, c = cnt (ns.take k) s.data.toList := ⟨_, rfl⟩
                    rw [← hcc] at hlook hcl
                    have hc4 : c ≤ 65536 := by omega
                    have HC2 := Hid.mk hC2
                    have HSN := Hid.mk hsn
                    have HCC := Hid.mk hcc
                    have HSZ := Hid.mk hsz
                    clear hC2 hsn hcc hsz c0 hcl hcnt
                    go_wp2_with (at_mapUpdate; refine wpList_mapUpdate_own (H := Unit) _ rfl _ _ _ 31 rfl 9 3 law9 Try.underlying31 (plainElem Try.prog 3) wr1.heap.size k D2 rfl HC2.out.own (by unfold maxLen; omega) _ _ (.string s.data.toList) rfl rfl (key9 HSZ.out) (.lit (.int .i64 ((c : Int) + 1))) [] (plainElem_int Try.underlying3 (WalkArith.wf_i64 (by omega))) ?_; intro w2 hown2 hgrow2)
                    have HN2 := Hid.mk (Counted.step hltn HSN.out HC2.out (by rw [← HCC.out]) hown2)
                    have HB2 : Hid (Below wr1.heap.size wr1 w2) := hbel.out.grown hgrow2 hbel.out.size (fun j hj => by cases hj; exact Nat.le_refl _)
                    clear hown2 hgrow2 hlook
                    go_wp2
                    go_roundw
                    case rel => exact ⟨k + 1, by omega, by go_num, HN2, HB2⟩
                    case measure => simp [intOf]; omega
                  · have hlt1 := ge_of HZ.out hlt
                    obtain ⟨sz2, D2, hC2⟩ := hcnt.out
                    rw [show k = st by omega] at hC2
                    have hM2q := hC2.own.lt
                    have hCq := HC.out.below hbel.out hM1w
                    have HC2 := Hid.mk hC2
                    have HCq := Hid.mk hCq
                    have HVq0 := Hid.mk (HVW0.out.later hbel.out (Nat.le_refl _))
                    have HVq1 := Hid.mk (HVW1.out.later hbel.out (Nat.le_refl _))
                    have HBq := Hid.mk (HBW.out.trans (hbel.out.mono HBW.out.size))
                    have hsq : wr1.heap.size ≤ wr.heap.size := hbel.out.size
                    clear hC2 hCq hcnt hbel HVW0 HVW1 HBW HC
                    go_wp2
                    clear hlt1 hlt hkl
                    rename World => wr2
                    obtain ⟨i0, hi0, hn0, hn1, hn2⟩ := info_parts Try.info5
                    go_loopw [18, 19] (fun v i wr => ∃ k : Nat, st ≤ k ∧ k ≤ ns.length ∧ i = .int .i64 ((k : Int) - 1) ∧ Hid (wr.ownsRow wr2.heap.size 5 1 v (tags ns ks k).length (Lib.byteCells (tags ns ks k))) ∧ Hid (Below wr2.heap.size wr2 wr)) (fun _ i _ => (intOf i + 1).toNat)
                    case atStart => exact ⟨ns.length, hstl, Nat.le_refl _, by go_num, by show World.ownsRow _ _ _ _ _ _ _; rw [tags_all]; exact World.ownsRow_nil _ _ _ _, Below.refl _ _⟩
                    case round =>
                      obtain ⟨k, hk1, hk2, hi, hown, hbel⟩ := hrel
                      by_cases hlt : st < k
                      · first
                        | (exfalso; have := HZ.out; omega)
                        | (obtain ⟨j, rfl⟩ : ∃ j, k = j + 1 := ⟨k - 1, by omega⟩
                           rw [show (((j + 1 : Nat) : Int) - 1) = (j : Int) by omega] at hi
                           subst hi
                           have hjn : j < ns.length := by omega
                           have hge := ge_of' HZ.out (show st ≤ j by omega)
                           obtain ⟨b0, rfl, hb0, c0⟩ := HVq0.out j hjn
                           obtain ⟨b1, rfl, hb1', c1⟩ := HVq1.out j (by have := HK.out; omega)
                           have d1 := (hbel.out.cell (p := ⟨b1, j, none⟩) hb1').trans c1
                           rw [cB] at d1
                           rw [cS] at c0
                           obtain ⟨s, hs⟩ : ∃ s, s = ns.getD j noS := ⟨_, rfl⟩
                           obtain ⟨t, ht⟩ : ∃ t, t = ks.getD j false := ⟨_, rfl⟩
                           rw [← hs] at c0
                           rw [← ht] at d1
                           have hi1 : (0 : Int) ≤ (j : Int) := by omega
                           have hi2 : (j : Int) < (ns.length : Int) := by omega
                           have hi3 : (j : Int) < (ks.length : Int) := by have := HK.out; omega
                           have HSN := Hid.mk hs
                           have HTN := Hid.mk ht
                           have HTS : Hid (tags ns ks j = tags ns ks (j + 1) ++ tag s t) := by
                             show _ = _
                             rw [hs, ht]; exact tags_step ns ks j hjn
                           have hss : s.size ≤ 1048576 := by rw [hs]; exact Nat.le_trans (size_le_sum ns j hjn) hb4
                           have htl := tags_le ns ks (j + 1) (by omega)
                           obtain ⟨T, hT⟩ : ∃ T, T = tags ns ks (j + 1) := ⟨_, rfl⟩
                           rw [← hT] at hown htl HTS
                           have htl2 : T.length ≤ 2097152 := by omega
                           clear hs ht hT c1 htl
                           cases t with
                           | false =>
                             clear c0
                             go_wp2
                             go_roundw
                             case rel => exact ⟨j, by omega, by omega, by go_num, by show World.ownsRow _ _ _ _ _ _ _; rw [HTS.out, show tag s false = [] from rfl, List.append_nil]; exact hown.out, hbel⟩
                             case measure => simp [intOf]
                           | true =>
                             have hz1 := hbel.out.size
                             go_wp2_with (first
                               | (at_builtin; refine Lib.wpList_append_own_string _ rfl _ _ 37 9 rfl wr2.heap.size 5 i0 Try.underlying37 Try.underlying9 hi0 hn0 hn1 hn2 _ _ _ rfl hown.out ⟨#[60, 47]⟩ rfl (by unfold maxLen; show _ + 2 ≤ _; omega) (by show _ + 2 ≤ _; omega) hz1 ?_; intro v2 w2 hown2 hgrow2 _; have HB2 := Hid.mk (hbel.out.grown hgrow2 hz1 (fun k hk => (hown.out.lt k hk).1)); have d0 := (HB2.out.cell (p := ⟨b0, j, none⟩) hb0).trans c0; have HO2 : Hid (w2.ownsRow wr2.heap.size 5 1 v2 (T.length + 2) (Lib.byteCells T ++ Lib.strCells ⟨#[60, 47]⟩)) := hown2; have hz2' := HB2.out.size; clear hown2 hgrow2 c0 d1)
                               | (at_builtin; refine Lib.wpList_append_own_string _ rfl _ _ 37 9 rfl wr2.heap.size 5 i0 Try.underlying37 Try.underlying9 hi0 hn0 hn1 hn2 _ _ _ rfl HO2.out s rfl (by unfold maxLen; omega) (by omega) hz2' ?_; intro v3 w3 hown3 hgrow3 _; have HB3 := Hid.mk (HB2.out.grown hgrow3 hz2' (fun k hk => (HO2.out.lt k hk).1)); have HO3 := Hid.mk hown3; have hz3' := HB3.out.size; clear hown3 hgrow3 d0)
                               | (at_builtin; refine wpList_append_own _ rfl _ _ 37 rfl wr2.heap.size 5 i0 (.int .u8 0) 1 1 Try.underlying37 hi0 hn0 hn1 hn2 rfl (by decide) _ _ _ rfl (HO3.out.alloc _) ⟨w3.heap.size, 0, none⟩ 1 1 [.int .u8 62] rfl rfl (cell_one_new _ _ _) (by intro u hu; simp at hu; subst hu; rfl) (by unfold maxLen; omega) (by omega) (by simp; omega) ?_; intro v4 w4 hown4 hgrow4 _))
                             have HB4 := Hid.mk ((HB3.out.alloc hz3' _).grown hgrow4 (by simp; omega) (fun k hk => (HO3.out.lt k hk).1))
                             have HO4 := Hid.mk (tail_true hown4)
                             clear hown4 hgrow4
                             go_wp2
                             go_roundw
                             case rel => exact ⟨j, by omega, by omega, by go_num, by show World.ownsRow _ _ _ _ _ _ _; rw [HTS.out]; exact HO4.out, HB4⟩
                             case measure => simp [intOf])
                      · subst hi
                        have hno := lt_of' HZ.out (show k = st by omega)
                        have HT3 : Hid (wr.ownsRow wr2.heap.size 5 1 u18 (tags ns ks st).length (Lib.byteCells (tags ns ks st))) := by
                          have := hown.out
                          rwa [show k = st by omega] at this
                        have HC3 := Hid.mk (HCq.out.below hbel.out (show wb.heap.size < wr2.heap.size by omega))
                        have HC32 := Hid.mk (HC2.out.below hbel.out hM2q)
                        have HV30 := Hid.mk (HVq0.out.later hbel.out (Nat.le_refl _))
                        have HV31 := Hid.mk (HVq1.out.later hbel.out (Nat.le_refl _))
                        have HBq3 := Hid.mk (HBq.out.trans (hbel.out.mono HBq.out.size))
                        have hsz3 : wr2.heap.size ≤ wr.heap.size := hbel.out.size
                        have hpl : (p.data.toList).length = p.size := Array.length_toList
                        clear hown hbel HCq HC2 HVq0 HVq1
                        go_wp2_with fail
                        refine (new_at _ _ _ _ wb.heap.size _ ns ks p _ HK.out HV30.out (by have := HV31.out; rw [HK.out] at this; exact this) HK.out hb1 hb3).mono ?_
                        rintro e w4 ⟨rfl, hR4, hb4'⟩
                        have hM13 : wb.heap.size < wr.heap.size := by omega
                        have HCALL := Hid.mk (end18_any wr.heap.size wr.heap.size wb.heap.size sz st p.data.toList ns ks q D w4 hR4 (HC3.out.below hb4' hM13) hM13 HST.out HK.out HQ.out hb1 hb4 (by omega))
                        have HB4 := Hid.mk hb4'
                        clear hR4 hb4'
                        go_wp2_with fail
                        refine HCALL.out.mono ?_
                        rintro e w5 ⟨rfl, hR5, ⟨n5, D5, hC5⟩, hBB5⟩
                        have HBB5 := Hid.mk ((BelowBut.of HB4.out).trans hBB5)
                        obtain ⟨es, ck, hmap⟩ := HC3.out.isMap
                        have HMAP := Hid.mk hmap
                        have HV50 := Hid.mk (HV30.out.but HBB5.out (Nat.le_refl _) hmap)
                        have HV51 := Hid.mk (HV31.out.but HBB5.out (Nat.le_refl _) hmap)
                        have HC52 := Hid.mk (HC32.out.kept (HBB5.out.block _ (by omega) (by omega)))
                        have HT5 := Hid.mk (own_but HT3.out HBB5.out (Nat.le_refl _) hmap)
                        have HR5 := Hid.mk hR5
                        have HC5 := Hid.mk hC5
                        clear hR5 hC5 hBB5 hmap HCALL HB4 HC3 HC32
                        go_wp2_with fail
                        refine (openIs_at wr.heap.size wr.heap.size wb.heap.size st _ _ _ _ _ _ ns ks _ _ HK.out HZ.out HR5.out HV50.out (by have := HV51.out; rw [HK.out] at this; exact this) HK.out hstl hb1).mono ?_
                        rintro e w6 ⟨rfl, hS6⟩
                        have HR6 := Hid.mk (hS6.rinv HR5.out)
                        have HC6 := Hid.mk (HC5.out.same hS6)
                        have HC62 := Hid.mk (HC52.out.same hS6)
                        have HT6 := Hid.mk (hS6.own HT5.out)
                        have HBB6 := Hid.mk (HBB5.out.trans (BelowBut.of (hS6.below wr.heap.size)))
                        clear hS6 HR5 HC5 HC52 HT5 HBB5 HV50 HV51
                        have HTL : Hid (∀ k, u18.ownBlock = some k → k < wr.heap.size) := fun k hk => (HT3.out.lt k hk).2
                        obtain ⟨T, hT⟩ : ∃ T, T = tags ns ks st := ⟨_, rfl⟩
                        have htl := tags_le ns ks st hstl
                        rw [← hT] at HT6 HR6 htl
                        have htl2 : T.length ≤ 2097152 := by omega
                        clear htl hT
                        have hcv6 : (convert 37 9 u18).run Try.prog w6.drew = .ok (.string ⟨T.toArray⟩) w6.drew := conv_own HT6.out.drew
                        have hstr := tail_str p T
                        have HR6d : Hid (RInv wr.heap.size wr.heap.size wb.heap.size (p.data.toList ++ T) ((elsOf ns ks).take st) w6.drew) := ((Same.refl w6).drewN 1).rinv HR6.out
                        go_wp2
                        go_region_with (go_at_call 15; refine (markup_any wr.heap.size wr.heap.size wb.heap.size _ _ _ HR6d.out).mono ?_; rintro e w7 ⟨rfl, hh7, hb7⟩; have hcv7 := conv_own (own_below HT6.out.drew HTL.out hb7))
                        all_goals
                          have hc7 : w7.cell? ⟨wr.heap.size, 7, none⟩ = some (.map (some wb.heap.size)) := by
                            obtain ⟨_, _, _, h7, _⟩ := HR6d.out.open6
                            rw [World.cell?_of_block (w := w6.drew) hh7]; exact h7
                          have HC7 := Hid.mk hc7
                          have HBB7 := Hid.mk (HBB6.out.trans (BelowBut.of ((Below.drew (Below.refl wr.heap.size w6)).trans hb7)))
                          have HV7 := Hid.mk (HV30.out.but HBB7.out (Nat.le_refl _) HMAP.out)
                          have HC7x := Hid.mk ((HC6.out.same ((Same.refl w6).drewN 1)).below (w' := w7) hb7 hM13)
                          have HC72 := Hid.mk ((HC62.out.same ((Same.refl w6).drewN 1)).below (w' := w7) hb7 (by omega))
                          clear hc7 hb7 hh7 hcv7 hcv6 hstr HR6d HC6 HC62 HR6 HT6 HTL HBB6
                          go_wp2_with fail
                          refine (countsAre_any wr.heap.size wb.heap.size n5 sz wr1.heap.size st sz2 _ _ _ _ _ _ _ _ ns _ HC7.out HC7x.out HC72.out HV7.out HS.out hb1 (fun i hi => ⟨hasN_at ns i hi, rfl⟩)).mono ?_
                          rintro e w8 ⟨rfl, hS8⟩
                          have d7 := (hS8.cell ⟨wr.heap.size, 7, none⟩).trans HC7.out
                          have HCq8 : Hid (∀ n, CInv wb.heap.size n5 sz (fun y => ((cnt (ns.take st) y : Nat) : Int)) (hasN ns) (w8.drewN n) D5) := fun n => HC7x.out.same (hS8.drewN n)
                          have hl2 : ∀ n, (Instr.lookup 31 (.map (some wr1.heap.size)) (.string q) false).run Try.prog (w8.drewN n) = .ok (.int .i64 ((cnt (ns.take st) q.data.toList : Nat) : Int)) (w8.drewN n) := fun n => (HC72.out.same (hS8.drewN n)).look HQ.out
                          obtain ⟨c, hcc⟩ : ∃ c, c = cnt (ns.take st) q.data.toList := ⟨_, rfl⟩
                          rw [← hcc] at hl2
                          have HCC : Hid ((c : Int) = ((cnt (ns.take st) q.data.toList : Nat) : Int)) := by show _ = _; rw [hcc]
                          have HS8 := Hid.mk hS8
                          clear hcc hS8
                          go_wp2
                          go_quiet ((go_at_call 19; exact Calls.quiet_of_same (count_at wr.heap.size q c _ (by exact d7) (HCq8.out _) HQ.out HCC.out)))
                          go_wp2
                          go_ret
                          exact ⟨rfl, HBq3.out.trans ((HBB7.out.trans (BelowBut.of ((HS8.out.drewN _).below wr.heap.size))).below HBq3.out.size HNW.out)⟩


set_option maxHeartbeats 1000000 in
theorem law5 (a0 a1 : Option Addr) (cap0 cap1 : Nat) (ns : List ByteArray) (ks : List Bool) (p q : ByteArray) (w : World) (h0 : InRow w a0 ns.length cap0 (cS ns)) (h1 : InRow w a1 ks.length cap1 (cB ks)) (hs : ∀ s ∈ ns, s.size ≤ maxLen) (hp : p.size ≤ maxLen) (hq : q.size ≤ maxLen) :
    Calls Try.prog 5 #[.slice a0 ns.length cap0, .slice a1 ks.length cap1, .string p, .string q] w fun e w' => e = .returned (.bool true) ∧ Below w.heap.size w w' := by
  by_cases hk : ks.length = ns.length
  · exact law5_main a0 a1 cap0 cap1 ns ks p q w h0 h1 hs hp hq hk
  · have hl1 := h1.len_bd
    have hne2 : ((ks.length : Int) != (ns.length : Int)) = true := by rw [bne_iff_ne]; omega
    have H0 := Hid.mk h0
    have HS := Hid.mk hs
    clear h0 h1 hs hk
    go_enter Try.func5, Try.ntmps5
    go_wp2_with fail
    refine (zz17_any _ _ _ _ _ ns p q _ H0.out HS.out hl1 hp hq).mono ?_
    rintro e w' ⟨⟨b, rfl, _⟩, rfl⟩
    cases b with
    | false =>
      go_wp2
      go_ret
      exact ⟨rfl, Below.refl _ _⟩
    | true =>
      go_wp2_with fail
      refine (fits_any _ _ _ _ _ ns p q _ H0.out HS.out hl1 hp hq).mono ?_
      rintro e w1 ⟨⟨b, rfl, _⟩, rfl⟩
      cases b with
      | false =>
        go_wp2
        go_ret
        exact ⟨rfl, Below.refl _ _⟩
      | true =>
        go_wp2
        go_ret
        exact ⟨rfl, Below.refl _ _⟩

end Go.Proofs.Qxb6602872a
