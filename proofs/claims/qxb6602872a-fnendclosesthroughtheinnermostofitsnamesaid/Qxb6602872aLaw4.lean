/-
  The law FnCloseInnermostPopsTheInnermost, walked.
-/
import Derived.Test.Qxb6602872aReads
import Derived.Test.Qxb6602872aClose
import Derived.Test.Qxb6602872aStr
namespace Go.Proofs.Qxb6602872a
open Go.RowKit

theorem cell_not_map {w : World} {b i m : Nat} {v : Value} {es : Array MapEntry} {ck : Nat} (h : w.cell? ⟨b, i, none⟩ = some v) (hm : w.heap[m]? = some (.map es ck)) : b ≠ m := fun e => by
  subst e
  simp [World.cell?, hm] at h

theorem Rv.but {B m : Nat} {w w' : World} {a : Option Addr} {len : Nat} {f : Nat → Value} {es : Array MapEntry} {ck : Nat} (h : Rv w a len f) (hb : BelowBut B m w w') (hB : w.heap.size ≤ B) (hm : w.heap[m]? = some (.map es ck)) : Rv w' a len f := fun i hi => by
  obtain ⟨b, ha, hlt, hc⟩ := h i hi
  exact ⟨b, ha, by have := hb.size; omega, (World.cell?_of_block (hb.block b (by omega) (cell_not_map hc hm))).trans hc⟩

theorem CInv.isMap {m n sz : Nat} {f : List UInt8 → Int} {h : List UInt8 → Bool} {w : World} {D : DataW Unit} (H : CInv m n sz f h w D) : ∃ es ck, w.heap[m]? = some (.map es ck) := by
  obtain ⟨es, ck, he, _⟩ := H.own
  exact ⟨es, ck, he⟩

/-- The counts of a list without its last name. -/
theorem cnt_last (ns : List ByteArray) (n : Nat) (hn : ns.length = n + 1) (y : List UInt8) : (if y = (ns.getD n noS).data.toList then ((cnt ns y : Nat) : Int) - 1 else ((cnt ns y : Nat) : Int)) = ((cnt (ns.take n) y : Nat) : Int) := by
  have h : ns = ns.take n ++ [ns.getD n noS] := by
    rw [← take_snoc ns noS n (by omega), ← hn, List.take_length]
  have h2 := cnt_snoc (ns.take n) (ns.getD n noS) y
  rw [← h] at h2
  rw [h2]
  split <;> omega
theorem hasN_at (ns : List ByteArray) (i : Nat) (h : i < ns.length) : hasN ns (ns.getD i noS).data.toList = true := by
  unfold hasN
  rw [List.any_eq_true]
  refine ⟨ns.getD i noS, ?_, by simp⟩
  rw [List.getD_eq_getElem?_getD, List.getElem?_eq_getElem h]
  exact List.getElem_mem h
theorem cnt_pos (ns : List ByteArray) (i : Nat) (h : i < ns.length) : 1 ≤ cnt ns (ns.getD i noS).data.toList := by
  unfold cnt
  have : ns.getD i noS ∈ ns.filter (fun s => s.data.toList == (ns.getD i noS).data.toList) := by
    rw [List.mem_filter]
    refine ⟨?_, by simp⟩
    rw [List.getD_eq_getElem?_getD, List.getElem?_eq_getElem h]
    exact List.getElem_mem h
  exact List.length_pos_of_mem this
theorem size_le_sum (ns : List ByteArray) (i : Nat) (h : i < ns.length) : (ns.getD i noS).size ≤ sumSz ns := by
  have h1 := sumSz_take_le ns (i + 1)
  rw [take_snoc ns noS i h, sumSz_snoc] at h1
  omega

theorem str_true (p s : ByteArray) : (p.data.toList ++ tag s true == (p ++ (⟨#[60, 47]⟩ ++ s ++ ⟨#[62]⟩)).toList) = true := by
  rw [Go.ByteArray.toList_eq, beq_iff_eq]
  simp [tag]

theorem str_false (p s : ByteArray) : (p.data.toList ++ tag s false == (p ++ ⟨#[]⟩).toList) = true := by
  rw [Go.ByteArray.toList_eq, beq_iff_eq]
  simp [tag]

theorem new_at (a0 a1 : Option Addr) (cap0 cap1 m q : Nat) (ns : List ByteArray) (ks : List Bool) (p : ByteArray) (w : World) (hq : q = ns.length) (h0 : Rv w a0 ns.length (cS ns)) (h1 : Rv w a1 ns.length (cB ks)) (hk : ks.length = ns.length) (hn : ns.length ≤ 65536) (hp : p.size ≤ 1048576) :
    Calls Try.prog 12 #[.slice a0 ns.length cap0, .slice a1 q cap1, .map (some m), .string p] w fun e w' => e = .returned (.pointer (some ⟨w.heap.size, 0, none⟩)) ∧ RInv w.heap.size w.heap.size m p.data.toList (elsOf ns ks) w' ∧ Below w.heap.size w w' := by
  subst hq
  exact new_any a0 a1 cap0 cap1 m ns ks p w h0 h1 hk hn hp
theorem openIs_at (B rb m mm q : Nat) (z : Int) (a0 a1 : Option Addr) (cap0 cap1 : Nat) (ns : List ByteArray) (ks : List Bool) (l : List UInt8) (w : World) (hq : q = ns.length) (hz : z = (mm : Int)) (h : RInv B rb m l ((elsOf ns ks).take mm) w) (h0 : Rv w a0 ns.length (cS ns)) (h1 : Rv w a1 ns.length (cB ks)) (hk : ks.length = ns.length) (hm : mm ≤ ns.length) (hn : ns.length ≤ 65536) :
    Calls Try.prog 14 #[.pointer (some ⟨rb, 0, none⟩), .slice a0 ns.length cap0, .slice a1 q cap1, .int .i64 z] w fun e w' => e = .returned (.bool true) ∧ Same w w' := by
  subst hq hz
  exact openIs_any B rb m mm a0 a1 cap0 cap1 ns ks l w h h0 h1 hk hm hn

set_option maxRecDepth 100000 in
set_option maxHeartbeats 4000000 in
theorem law4_main (a0 a1 : Option Addr) (cap0 cap1 : Nat) (ns : List ByteArray) (ks : List Bool) (p : ByteArray) (w : World) (h0 : InRow w a0 ns.length cap0 (cS ns)) (h1 : InRow w a1 ks.length cap1 (cB ks)) (hs : ∀ s ∈ ns, s.size ≤ maxLen) (hp : p.size ≤ maxLen)
    (n : Nat) (hn : ns.length = n + 1) (hk : ks.length = ns.length) :
    Calls Try.prog 4 #[.slice a0 ns.length cap0, .slice a1 ks.length cap1, .string p] w fun e w' => e = .returned (.bool true) ∧ Below w.heap.size w w' := by
  have hl1 := h1.len_bd
  have H0 := Hid.mk h0
  have H1 := Hid.mk h1
  have HS := Hid.mk hs
  have HN := Hid.mk hn
  have HK := Hid.mk hk
  have hne : ((ns.length : Int) == 0) = false := by rw [beq_eq_false_iff_ne]; omega
  have hne2 : ((ks.length : Int) != (ns.length : Int)) = false := by simp [hk]
  clear h0 h1 hs
  have hnn : 1 ≤ ns.length := by omega
  clear hn hk
  go_enter Try.func4, Try.ntmps4
  go_wp2_with fail
  refine (zz8_any _ _ _ _ _ ns p _ H0.out HS.out hl1 hp).mono ?_
  rintro e w' ⟨⟨b, rfl, _⟩, rfl⟩
  cases b with
  | false =>
    go_wp2
    go_ret
    exact ⟨rfl, Below.refl _ _⟩
  | true =>
    go_wp2_with fail
    refine (fits_any _ _ _ _ _ ns p ⟨#[]⟩ _ H0.out HS.out hl1 hp (Nat.zero_le _)).mono ?_
    rintro e w1 ⟨⟨b, rfl, hT⟩, rfl⟩
    cases b with
    | false =>
      go_wp2
      go_ret
      exact ⟨rfl, Below.refl _ _⟩
    | true =>
      have hT2 := hT rfl
      have hb1 : ns.length ≤ 65536 := by omega
      have hb2 : ks.length ≤ 1048576 := by omega
      have hb3 : p.size ≤ 1048576 := by omega
      have hb4 : sumSz ns ≤ 1048576 := by omega
      clear hT hT2
      go_wp2_with fail
      refine (cloneS_any _ _ ns _ (by omega) H0.out).mono ?_
      rintro e wa ⟨x0, q0, rfl, hv0, hba⟩
      have H1a := H1.out.later hba (Nat.le_refl _)
      go_wp2_with fail
      refine (cloneB_any _ _ ks _ (by omega) H1a).mono ?_
      rintro e wb ⟨x1, q1, rfl, hv1, hbb⟩
      have HV0 := Hid.mk (hv0.later hbb (Nat.le_refl _))
      have HV1 := Hid.mk hv1
      have HBB := Hid.mk (hba.trans (hbb.mono hba.size))
      clear hv0 hv1 hba hbb H1a H0 H1 hl1 hp
      have hmm := @run_makeMap Try.prog
      go_wp2
      go_loopw [9] (fun i wr => ∃ k : Nat, k ≤ ns.length ∧ i = .int .i64 k ∧ Hid (Counted wb.heap.size ns k wr) ∧ Hid (Below wb.heap.size wb wr)) (fun i _ => ns.length - (intOf i).toNat)
      case atStart => exact ⟨0, Nat.zero_le _, rfl, ⟨_, _, CInv.start wb⟩, (Below.refl _ _).alloc (Nat.le_refl _) _⟩
      case round =>
        obtain ⟨k, hkl, rfl, hcnt, hbel⟩ := hrel
        by_cases hlt : k < ns.length
        · obtain ⟨sz, D, hC⟩ := hcnt.out
          obtain ⟨bb, rfl, hbbl, c0⟩ := HV0.out k hlt
          have d0 := (hbel.out.cell (p := ⟨bb, k, none⟩) hbbl).trans c0
          rw [cS] at d0
          have hsz := size_ok HS.out k
          have hcl := cnt_le (ns.take k) (ns.getD k noS).data.toList
          rw [List.length_take] at hcl
          obtain ⟨s, hsn⟩ : ∃ s, s = ns.getD k noS := ⟨_, rfl⟩
          rw [← hsn] at d0 hsz hcl
          have hlook := hC.look hsz
          obtain ⟨c, hcc⟩ : ∃ c, c = cnt (ns.take k) s.data.toList := ⟨_, rfl⟩
          rw [← hcc] at hlook hcl
          have hc4 : c ≤ 65536 := by omega
          have HC := Hid.mk hC
          have HSN := Hid.mk hsn
          have HCC := Hid.mk hcc
          have HSZ := Hid.mk hsz
          clear hC hsn hcc hsz c0 hcl hcnt
          go_wp2_with (at_mapUpdate; refine wpList_mapUpdate_own (H := Unit) _ rfl _ _ _ 31 rfl 9 3 law9 Try.underlying31 (plainElem Try.prog 3) wb.heap.size k D rfl HC.out.own (by unfold maxLen; omega) _ _ (.string s.data.toList) rfl rfl (key9 HSZ.out) (.lit (.int .i64 ((c : Int) + 1))) [] (plainElem_int Try.underlying3 (WalkArith.wf_i64 (by omega))) ?_; intro w2 hown2 hgrow2)
          have HN2 := Hid.mk (Counted.step hlt HSN.out HC.out (by rw [← HCC.out]) hown2)
          have HB2 : Hid (Below wb.heap.size wb w2) := hbel.out.grown hgrow2 hbel.out.size (fun j hj => by cases hj; exact Nat.le_refl _)
          clear hown2 hgrow2 hlook
          go_wp2
          go_roundw
          case rel => exact ⟨k + 1, by omega, by go_num, HN2, HB2⟩
          case measure => simp [intOf]; omega
        · obtain ⟨sz, D, hC⟩ := hcnt.out
          rw [show k = ns.length by omega, List.take_length] at hC
          obtain rfl : sz = Maps.size D := hC.size.symm
          have HC := Hid.mk hC
          have HB1 := hbel
          have hM1 := hC.own.lt
          clear hC hcnt hbel
          go_wp2_with (at_len; refine wpList_len_own _ rfl _ 31 rfl 9 3 Try.underlying31 _ _ _ _ rfl HC.out.own ?_)
          rename World => wr1
          generalize Maps.size D = sz at HC ⊢
          have HVW0 := Hid.mk (HV0.out.later HB1.out (Nat.le_refl _))
          have HVW1 := Hid.mk (HV1.out.later HB1.out (Nat.le_refl _))
          have HBW := Hid.mk (HBB.out.trans (HB1.out.mono HBB.out.size))
          have hM1w : wb.heap.size < wr1.heap.size := hM1
          have HNW : Hid (w1.heap.size ≤ wb.heap.size) := HBB.out.size
          clear HV0 HV1 HBB HB1
          go_loopw [12] (fun i wr => ∃ k : Nat, k ≤ n ∧ i = .int .i64 k ∧ Hid (Counted wr1.heap.size ns k wr) ∧ Hid (Below wr1.heap.size wr1 wr)) (fun i _ => n - (intOf i).toNat)
          case atStart => exact ⟨0, Nat.zero_le _, rfl, ⟨_, _, CInv.start wr1⟩, (Below.refl _ _).alloc (Nat.le_refl _) _⟩
          case round =>
            obtain ⟨k, hkl, rfl, hcnt, hbel⟩ := hrel
            by_cases hlt : k < n
            · have hltn : k < ns.length := by have := HN.out; omega
              have hlt1 : (k : Int) < (ns.length : Int) - 1 := by have := HN.out; omega
              obtain ⟨sz2, D2, hC2⟩ := hcnt.out
              obtain ⟨bb, rfl, hbbl, c0⟩ := HVW0.out k hltn
              have d0 := (hbel.out.cell (p := ⟨bb, k, none⟩) hbbl).trans c0
              rw [cS] at d0
              have hsz := size_ok HS.out k
              have hcl := cnt_le (ns.take k) (ns.getD k noS).data.toList
              rw [List.length_take] at hcl
              obtain ⟨s, hsn⟩ : ∃ s, s = ns.getD k noS := ⟨_, rfl⟩
              rw [← hsn] at d0 hsz hcl
              have hlook := hC2.look hsz
              obtain ⟨c, hcc⟩ : ∃ c, c = cnt (ns.take k) s.data.toList := ⟨_, rfl⟩
              rw [← hcc] at hlook hcl
              have hc4 : c ≤ 65536 := by omega
              have HC2 := Hid.mk hC2
              have HSN := Hid.mk hsn
              have HCC := Hid.mk hcc
              have HSZ := Hid.mk hsz
              clear hC2 hsn hcc hsz c0 hcl hcnt
              go_wp2_with (at_mapUpdate; refine wpList_mapUpdate_own (H := Unit) _ rfl _ _ _ 31 rfl 9 3 law9 Try.underlying31 (plainElem Try.prog 3) wr1.heap.size k D2 rfl HC2.out.own (by unfold maxLen; omega) _ _ (.string s.data.toList) rfl rfl (key9 HSZ.out) (.lit (.int .i64 ((c : Int) + 1))) [] (plainElem_int Try.underlying3 (WalkArith.wf_i64 (by omega))) ?_; intro w2 hown2 hgrow2)
              have HN2 := Hid.mk (Counted.step hltn HSN.out HC2.out (by rw [← HCC.out]) hown2)
              have HB2 : Hid (Below wr1.heap.size wr1 w2) := hbel.out.grown hgrow2 hbel.out.size (fun j hj => by cases hj; exact Nat.le_refl _)
              clear hown2 hgrow2 hlook
              go_wp2
              go_roundw
              case rel => exact ⟨k + 1, by omega, by go_num, HN2, HB2⟩
              case measure => simp [intOf]; omega
            · have hlt1 : (ns.length : Int) - 1 ≤ (k : Int) := by have := HN.out; omega
              obtain ⟨sz2, D2, hC2⟩ := hcnt.out
              rw [show k = n by omega] at hC2
              have hM2q := hC2.own.lt
              have hCq := HC.out.below hbel.out hM1w
              have HC2 := Hid.mk hC2
              have HCq := Hid.mk hCq
              have HVq0 := Hid.mk (HVW0.out.later hbel.out (Nat.le_refl _))
              have HVq1 := Hid.mk (HVW1.out.later hbel.out (Nat.le_refl _))
              have HBq := Hid.mk (HBW.out.trans (hbel.out.mono HBW.out.size))
              have hsq : wr1.heap.size ≤ wr.heap.size := hbel.out.size
              clear hC2 hCq hcnt hbel HVW0 HVW1 HBW HC
              go_wp2_with fail
              refine (new_at _ _ _ _ wb.heap.size _ ns ks p _ HK.out HVq0.out (by have := HVq1.out; rw [HK.out] at this; exact this) HK.out hb1 hb3).mono ?_
              rintro e w3 ⟨rfl, hR3, hb3'⟩
              have hnl : n < ns.length := by have := HN.out; omega
              have hidx : ns.length - 1 = n := by have := HN.out; omega
              have HE : Hid (elsOf ns ks = (elsOf ns ks).take n ++ [(ns.getD n noS, ks.getD n false)]) := by
                show _ = _
                rw [← elsOf_snoc ns ks HK.out n hnl, ← HN.out, ← elsOf_length ns ks HK.out, List.take_length]
              obtain ⟨s, hs⟩ : ∃ s, s = ns.getD n noS := ⟨_, rfl⟩
              obtain ⟨t, ht⟩ : ∃ t, t = ks.getD n false := ⟨_, rfl⟩
              have hR3' : RInv wr.heap.size wr.heap.size wb.heap.size p.data.toList ((elsOf ns ks).take n ++ [(s, t)]) w3 := by
                rw [hs, ht, ← HE.out]; exact hR3
              have hss : s.size ≤ 1048576 := by rw [hs]; exact Nat.le_trans (size_le_sum ns n hnl) hb4
              have hC3 := HCq.out.below hb3' (by omega)
              have hR4p : (p.data.toList).length = p.size := Array.length_toList
              have hcp := cnt_pos ns n hnl
              have hcl := cnt_le ns s.data.toList
              rw [← hs] at hcp
              have HHS : Hid (hasN ns s.data.toList = true) := by show _ = _; rw [hs]; exact hasN_at ns n hnl
              have HSS := Hid.mk hs
              have HTT := Hid.mk ht
              have hM1r : wb.heap.size < wr.heap.size := by omega
              have HR3 := Hid.mk hR3'
              have HC3 := Hid.mk hC3
              have HB3 := Hid.mk hb3'
              clear hR3 hR3' hC3 hb3' hs ht
              go_wp2_with fail
              refine (close13_any wr.heap.size wr.heap.size wb.heap.size ns.length sz p.data.toList ((elsOf ns ks).take n) s t (fun y => ((cnt ns y : Nat) : Int)) (hasN ns) D _ HR3.out HC3.out hM1r hss (by show (1 : Int) ≤ (cnt ns s.data.toList : Nat); omega) (by show ((cnt ns s.data.toList : Nat) : Int) ≤ 65536; omega) HHS.out (by omega) (by omega) (by rw [List.length_take]; omega)).mono ?_
              rintro e w4 ⟨rfl, hR4, ⟨D4, hC4⟩, hBB4⟩
              have HBB4 := Hid.mk ((BelowBut.of HB3.out).trans hBB4)
              obtain ⟨es, ck, hmap⟩ := HCq.out.isMap
              have HMAP := Hid.mk hmap
              have HV40 := Hid.mk (HVq0.out.but HBB4.out (Nat.le_refl _) hmap)
              have HV41 := Hid.mk (HVq1.out.but HBB4.out (Nat.le_refl _) hmap)
              have HC42 := Hid.mk (HC2.out.kept (HBB4.out.block _ hM2q (by omega)))
              have HR4 := Hid.mk hR4
              have HC4 := Hid.mk hC4
              clear hR4 hC4 hBB4 hmap hcp hcl HR3 HC3 HB3
              obtain ⟨b0, rfl, _, c0⟩ := HV40.out n hnl
              obtain ⟨b1, rfl, _, c1⟩ := HV41.out n (by have := HK.out; omega)
              rw [cS, ← HSS.out, ← hidx] at c0
              rw [cB, ← HTT.out, ← hidx] at c1
              have hi1 : (0 : Int) ≤ (ns.length : Int) - 1 := by omega
              have hi2 : (1 : Int) ≤ (ns.length : Int) := by omega
              have hi3 : (ns.length : Int) - 1 < (ks.length : Int) := by have := HK.out; omega
              have HIDX := Hid.mk hidx
              clear hidx
              go_wp2_with fail
              refine (openIs_at wr.heap.size wr.heap.size wb.heap.size n _ _ _ _ _ _ ns ks _ _ HK.out (by have := HN.out; omega) HR4.out HV40.out (by have := HV41.out; rw [HK.out] at this; exact this) HK.out (by omega) hb1).mono ?_
              rintro e w5 ⟨rfl, hS5⟩
              have e0 := (hS5.cell ⟨b0, ns.length - 1, none⟩).trans c0
              have e1 := (hS5.cell ⟨b1, ns.length - 1, none⟩).trans c1
              have HR5 := Hid.mk (hS5.rinv HR4.out)
              have HC5 := Hid.mk (HC4.out.same hS5)
              have HC52 := Hid.mk (HC42.out.same hS5)
              have HV50 := Hid.mk (HV40.out.later (hS5.below w4.heap.size) (Nat.le_refl _))
              have HBB5 := Hid.mk (HBB4.out.trans (BelowBut.of (hS5.below wr.heap.size)))
              clear hS5 c0 c1 HR4 HC4 HC42 HV40 HV41 HBB4
              cases t with
              | true =>
                go_wp2_with fail
                refine (markup_any wr.heap.size wr.heap.size wb.heap.size _ _ _ HR5.out).mono ?_
                rintro e w6 ⟨rfl, hh6, hb6⟩
                have hc7 : w6.cell? ⟨wr.heap.size, 7, none⟩ = some (.map (some wb.heap.size)) := by
                  obtain ⟨_, _, _, h7, _⟩ := HR5.out.open6
                  rw [World.cell?_of_block (w := w5) hh6]; exact h7
                have HC7 := Hid.mk hc7
                have HB6 := Hid.mk hb6
                have HBB6 := Hid.mk (HBB5.out.trans (BelowBut.of hb6))
                have HV6 := Hid.mk (HVq0.out.but HBB6.out (Nat.le_refl _) HMAP.out)
                have hstr : (p.data.toList ++ tag s true == (p ++ (⟨#[60, 47]⟩ ++ s ++ ⟨#[62]⟩)).toList) = true := str_true p s
                clear hc7 hb6 hh6
                go_wp2_with fail
                refine (countsAre_any wr.heap.size wb.heap.size (ns.length + 1) sz wr1.heap.size n sz2 _ _ _ _ _ _ _ _ ns _ HC7.out (HC5.out.below HB6.out hM1r) (HC52.out.below HB6.out hM2q) HV6.out HS.out hb1 ?_).mono ?_
                · intro i hi
                  refine ⟨hasN_at ns i hi, ?_⟩
                  have h := cnt_last ns n HN.out (ns.getD i noS).data.toList
                  rw [← HSS.out] at h
                  exact h
                · rintro e w7 ⟨rfl, hS7⟩
                  have HS7 := Hid.mk hS7
                  clear hS7
                  go_wp2
                  go_ret
                  exact ⟨rfl, HBq.out.trans ((HBB6.out.trans (BelowBut.of (HS7.out.below wr.heap.size))).below HBq.out.size HNW.out)⟩
              | false =>
                go_wp2_with fail
                refine (markup_any wr.heap.size wr.heap.size wb.heap.size _ _ _ HR5.out).mono ?_
                rintro e w6 ⟨rfl, hh6, hb6⟩
                have hc7 : w6.cell? ⟨wr.heap.size, 7, none⟩ = some (.map (some wb.heap.size)) := by
                  obtain ⟨_, _, _, h7, _⟩ := HR5.out.open6
                  rw [World.cell?_of_block (w := w5) hh6]; exact h7
                have HC7 := Hid.mk hc7
                have HB6 := Hid.mk hb6
                have HBB6 := Hid.mk (HBB5.out.trans (BelowBut.of hb6))
                have HV6 := Hid.mk (HVq0.out.but HBB6.out (Nat.le_refl _) HMAP.out)
                have hstr : (p.data.toList ++ tag s false == (p ++ ⟨#[]⟩).toList) = true := str_false p s
                clear hc7 hb6 hh6
                go_wp2_with fail
                refine (countsAre_any wr.heap.size wb.heap.size (ns.length + 1) sz wr1.heap.size n sz2 _ _ _ _ _ _ _ _ ns _ HC7.out (HC5.out.below HB6.out hM1r) (HC52.out.below HB6.out hM2q) HV6.out HS.out hb1 ?_).mono ?_
                · intro i hi
                  refine ⟨hasN_at ns i hi, ?_⟩
                  have h := cnt_last ns n HN.out (ns.getD i noS).data.toList
                  rw [← HSS.out] at h
                  exact h
                · rintro e w7 ⟨rfl, hS7⟩
                  have HS7 := Hid.mk hS7
                  clear hS7
                  go_wp2
                  go_ret
                  exact ⟨rfl, HBq.out.trans ((HBB6.out.trans (BelowBut.of (HS7.out.below wr.heap.size))).below HBq.out.size HNW.out)⟩

set_option maxHeartbeats 1000000 in
theorem law4 (a0 a1 : Option Addr) (cap0 cap1 : Nat) (ns : List ByteArray) (ks : List Bool) (p : ByteArray) (w : World) (h0 : InRow w a0 ns.length cap0 (cS ns)) (h1 : InRow w a1 ks.length cap1 (cB ks)) (hs : ∀ s ∈ ns, s.size ≤ maxLen) (hp : p.size ≤ maxLen) :
    Calls Try.prog 4 #[.slice a0 ns.length cap0, .slice a1 ks.length cap1, .string p] w fun e w' => e = .returned (.bool true) ∧ Below w.heap.size w w' := by
  by_cases hn0 : ns.length = 0
  · have hl1 := h1.len_bd
    have hne : ((ns.length : Int) == 0) = true := by rw [beq_iff_eq]; omega
    have H0 := Hid.mk h0
    have HS := Hid.mk hs
    clear h0 h1 hs hn0
    go_enter Try.func4, Try.ntmps4
    go_wp2_with fail
    refine (zz8_any _ _ _ _ _ ns p _ H0.out HS.out hl1 hp).mono ?_
    rintro e w' ⟨⟨b, rfl, _⟩, rfl⟩
    cases b with
    | false =>
      go_wp2
      go_ret
      exact ⟨rfl, Below.refl _ _⟩
    | true =>
      go_wp2_with fail
      refine (fits_any _ _ _ _ _ ns p ⟨#[]⟩ _ H0.out HS.out hl1 hp (Nat.zero_le _)).mono ?_
      rintro e w1 ⟨⟨b, rfl, _⟩, rfl⟩
      cases b with
      | false =>
        go_wp2
        go_ret
        exact ⟨rfl, Below.refl _ _⟩
      | true =>
        go_wp2
        go_ret
        exact ⟨rfl, Below.refl _ _⟩
  · by_cases hk : ks.length = ns.length
    · exact law4_main a0 a1 cap0 cap1 ns ks p w h0 h1 hs hp (ns.length - 1) (by omega) hk
    · have hl1 := h1.len_bd
      have hne : ((ns.length : Int) == 0) = false := by rw [beq_eq_false_iff_ne]; omega
      have hne2 : ((ks.length : Int) != (ns.length : Int)) = true := by rw [bne_iff_ne]; omega
      have H0 := Hid.mk h0
      have HS := Hid.mk hs
      clear h0 h1 hs hn0 hk
      go_enter Try.func4, Try.ntmps4
      go_wp2_with fail
      refine (zz8_any _ _ _ _ _ ns p _ H0.out HS.out hl1 hp).mono ?_
      rintro e w' ⟨⟨b, rfl, _⟩, rfl⟩
      cases b with
      | false =>
        go_wp2
        go_ret
        exact ⟨rfl, Below.refl _ _⟩
      | true =>
        go_wp2_with fail
        refine (fits_any _ _ _ _ _ ns p ⟨#[]⟩ _ H0.out HS.out hl1 hp (Nat.zero_le _)).mono ?_
        rintro e w1 ⟨⟨b, rfl, _⟩, rfl⟩
        cases b with
        | false =>
          go_wp2
          go_ret
          exact ⟨rfl, Below.refl _ _⟩
        | true =>
          go_wp2
          go_ret
          exact ⟨rfl, Below.refl _ _⟩

end Go.Proofs.Qxb6602872a
