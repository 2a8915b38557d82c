/-
  The readers of a reducer; openIsB1, countsAreB1.
-/
import Derived.Test.Qxb6602872aPop
import Derived.Test.Qxb6602872aCnt
import Derived.Deep.QuietTactic
import Derived.BigQuiet
namespace Go.Proofs.Qxb6602872a
open Go.RowKit

/-- Nothing but draws. -/
structure Same (w w' : World) : Prop where
  os : w'.os = w.os
  tape : w'.tape = w.tape
  output : w'.output = w.output
  heap : w'.heap = w.heap
theorem Same.refl (w : World) : Same w w := ⟨rfl, rfl, rfl, rfl⟩
theorem Same.drewN {w w' : World} (h : Same w w') (n : Nat) : Same w (w'.drewN n) := ⟨h.os, h.tape, h.output, h.heap⟩
theorem Same.below {w w' : World} (h : Same w w') (B : Nat) : Below B w w' := ⟨h.os, h.tape, h.output, by rw [h.heap]; exact Nat.le_refl _, fun k _ => by rw [h.heap]⟩
theorem Same.cell {w w' : World} (h : Same w w') (a : Addr) : w'.cell? a = w.cell? a := by simp [World.cell?, h.heap]
theorem Same.own {w w' : World} (h : Same w w') {B : Nat} {e : TypeId} {size : Nat} {v : Value} {n : Nat} {xs : List Value} (ho : w.ownsRow B e size v n xs) : w'.ownsRow B e size v n xs := by
  unfold World.ownsRow at ho ⊢
  rw [h.heap]
  exact ho
theorem Same.rat {w w' : World} (h : Same w w') {B rb m : Nat} {p : Value} {l : List UInt8} {els : List (ByteArray × Bool)} (hr : RAt B rb m p l els w) : RAt B rb m p l els w' := by
  obtain ⟨h1, h2, buf, opn, h3, h4, h5⟩ := hr
  exact ⟨h1, by rw [h.heap]; exact h2, buf, opn, by rw [h.heap]; exact h3, h.own h4, h.own h5⟩
theorem Same.rinv {w w' : World} (h : Same w w') {B rb m : Nat} {l : List UInt8} {els : List (ByteArray × Bool)} (hr : RInv B rb m l els w) : RInv B rb m l els w' := by
  rcases hr with hr | hr
  · exact Or.inl (h.rat hr)
  · exact Or.inr (h.rat hr)

set_option maxHeartbeats 400000 in
theorem openLen_any (rb n cap : Nat) (ao : Option Addr) (w : World) (c6 : w.cell? ⟨rb, 6, none⟩ = some (.slice ao n cap)) :
    Calls Try.prog 23 #[.pointer (some ⟨rb, 0, none⟩)] w fun e w' => e = .returned (.int .i64 n) ∧ w' = w := by
  go_enter Try.func23, Try.ntmps23
  go_wp2
  go_ret
  exact ⟨rfl, rfl⟩
set_option maxHeartbeats 400000 in
theorem openName_any (rb g n cap i : Nat) (s : ByteArray) (w : World) (c6 : w.cell? ⟨rb, 6, none⟩ = some (.slice (some ⟨g, 0, none⟩) n cap)) (hi : i < n) (g0 : w.cell? ⟨g, i * 2, none⟩ = some (.string s)) :
    Calls Try.prog 24 #[.pointer (some ⟨rb, 0, none⟩), .int .i64 i] w fun e w' => e = .returned (.string s) ∧ w' = w := by
  go_enter Try.func24, Try.ntmps24
  go_wp2
  go_ret
  exact ⟨rfl, rfl⟩
set_option maxHeartbeats 400000 in
theorem openKept_any (rb g n cap i : Nat) (t : Bool) (w : World) (c6 : w.cell? ⟨rb, 6, none⟩ = some (.slice (some ⟨g, 0, none⟩) n cap)) (hi : i < n) (g1 : w.cell? ⟨g, i * 2 + 1, none⟩ = some (.bool t)) :
    Calls Try.prog 25 #[.pointer (some ⟨rb, 0, none⟩), .int .i64 i] w fun e w' => e = .returned (.bool t) ∧ w' = w := by
  go_enter Try.func25, Try.ntmps25
  go_wp2
  go_ret
  exact ⟨rfl, rfl⟩

theorem RInv.open6 {B rb m : Nat} {l : List UInt8} {els : List (ByteArray × Bool)} {w : World} (h : RInv B rb m l els w) : ∃ ao cap, w.cell? ⟨rb, 6, none⟩ = some (.slice ao els.length cap) ∧ w.cell? ⟨rb, 7, none⟩ = some (.map (some m)) ∧
    ∀ i, i < els.length → ∃ g, ao = some ⟨g, 0, none⟩ ∧ w.cell? ⟨g, i * 2, none⟩ = some (.string (els.getD i (noS, false)).1) ∧ w.cell? ⟨g, i * 2 + 1, none⟩ = some (.bool (els.getD i (noS, false)).2) := by
  obtain ⟨p, hB, hBw, buf, opn, hb, _, h2⟩ : ∃ p, RAt B rb m p l els w := by
    rcases h with h | h
    · exact ⟨_, h⟩
    · exact ⟨_, h⟩
  have hc : ∀ (els : List (ByteArray × Bool)) (i : Nat), i < els.length → (elCells els)[i * 2]? = some (.string (els.getD i (noS, false)).1) ∧ (elCells els)[i * 2 + 1]? = some (.bool (els.getD i (noS, false)).2) := by
    intro els
    induction els with
    | nil => intro i hi; simp at hi
    | cons e els ih =>
      intro i hi
      have he : elCells (e :: els) = .string e.1 :: .bool e.2 :: elCells els := rfl
      rw [he]
      cases i with
      | zero => simp
      | succ i =>
        have := ih i (by simpa using hi)
        rw [show (i + 1) * 2 = i * 2 + 1 + 1 by omega]
        simpa using this
  have h2' := h2
  rcases h2.2 with ⟨rfl, hz⟩ | ⟨g, cap, cur, rfl, _⟩
  · refine ⟨none, 0, by rw [hz]; simp [World.cell?, hb, redCells], by simp [World.cell?, hb, redCells], fun i hi => by omega⟩
  · refine ⟨_, cap, by simp [World.cell?, hb, redCells], by simp [World.cell?, hb, redCells], fun i hi => ⟨g, rfl, ?_, ?_⟩⟩
    · rw [World.ownsRow.cellAt h2 _ (by omega)]; exact (hc els i hi).1
    · rw [World.ownsRow.cellAt h2 _ (by omega)]; exact (hc els i hi).2

set_option maxRecDepth 100000 in
set_option maxHeartbeats 2000000 in
theorem openIs_any (B rb m mm : Nat) (a0 a1 : Option Addr) (cap0 cap1 : Nat) (ns : List ByteArray) (ks : List Bool) (l : List UInt8) (w : World) (h : RInv B rb m l ((elsOf ns ks).take mm) w) (h0 : Rv w a0 ns.length (cS ns)) (h1 : Rv w a1 ns.length (cB ks)) (hk : ks.length = ns.length) (hm : mm ≤ ns.length) (hn : ns.length ≤ 65536) :
    Calls Try.prog 14 #[.pointer (some ⟨rb, 0, none⟩), .slice a0 ns.length cap0, .slice a1 ns.length cap1, .int .i64 mm] w fun e w' => e = .returned (.bool true) ∧ Same w w' := by
  obtain ⟨ao, cap, c6, _, hcell⟩ := h.open6
  have hlen : ((elsOf ns ks).take mm).length = mm := by rw [List.length_take, elsOf_length _ _ hk]; omega
  rw [hlen] at c6 hcell
  have HCELL := Hid.mk hcell
  have H0 := Hid.mk h0
  have H1 := Hid.mk h1
  have HK := Hid.mk hk
  clear h hcell h0 h1 hk hlen
  go_enter Try.func14, Try.ntmps14
  go_wp2_with fail
  refine (openLen_any rb mm cap ao _ c6).mono ?_
  rintro e w' ⟨rfl, rfl⟩
  go_wp2
  have C6 := Hid.mk c6
  clear c6
  go_loopw [9] (fun i wr => ∃ k : Nat, k ≤ mm ∧ i = .int .i64 k ∧ Hid (Same w' wr)) (fun i _ => mm - (intOf i).toNat)
  case atStart => exact ⟨0, Nat.zero_le _, rfl, Same.refl _⟩
  case round =>
    obtain ⟨k, hkm, rfl, hsame⟩ := hrel
    by_cases hlt : k < mm
    · obtain ⟨g, rfl, g0, g1⟩ := HCELL.out k hlt
      obtain ⟨b0, rfl, _, c0⟩ := H0.out k (by omega)
      obtain ⟨b1, rfl, _, c1⟩ := H1.out k (by omega)
      have hel : ((elsOf ns ks).take mm).getD k (noS, false) = (ns.getD k noS, ks.getD k false) := by
        have hk1 : k < ns.length := by omega
        have hk2 : k < ks.length := by have := HK.out; omega
        have hk3 : k < (ns.zip ks).length := by simp; omega
        simp only [elsOf, List.getD_eq_getElem?_getD, List.getElem?_take, hlt, if_true, List.getElem?_eq_getElem hk3, List.getElem?_eq_getElem hk1, List.getElem?_eq_getElem hk2, Option.getD_some, List.getElem_zip]
      rw [hel] at g0 g1
      rw [cS] at c0
      rw [cB] at c1
      obtain ⟨s, hs⟩ : ∃ s, s = ns.getD k noS := ⟨_, rfl⟩
      obtain ⟨t, ht⟩ : ∃ t, t = ks.getD k false := ⟨_, rfl⟩
      rw [← hs] at g0 c0
      rw [← ht] at g1 c1
      have d6 := (hsame.out.cell ⟨rb, 6, none⟩).trans C6.out
      have d0 := (hsame.out.cell ⟨g, k * 2, none⟩).trans g0
      have d1 := (hsame.out.cell ⟨g, k * 2 + 1, none⟩).trans g1
      have d2 := (hsame.out.cell ⟨b0, k, none⟩).trans c0
      have d3 := (hsame.out.cell ⟨b1, k, none⟩).trans c1
      have hk1 : (0 : Int) ≤ (k : Int) := by omega
      have hk2 : (k : Int) < (ns.length : Int) := by omega
      have hne1 : (s.toList != s.toList) = false := by simp
      have hne2 : (t != t) = false := by simp
      clear hel hs ht g0 g1 c0 c1
      go_wp2
      go_quiet ((first | (go_at_call 24; exact Calls.quiet_of_same (openName_any rb g mm cap k s _ d6 hlt d0)) | (go_at_call 25; exact Calls.quiet_of_same (openKept_any rb g mm cap k t _ d6 hlt d1))))
      go_wp2
      go_roundw
      case rel => exact ⟨k + 1, by omega, by go_num, hsame.out.drewN _⟩
      case measure => simp [intOf]; omega
    · go_wp2
      go_ret
      exact ⟨rfl, hsame.out⟩

section
variable {m n sz : Nat} {f : List UInt8 → Int} {hh : List UInt8 → Bool} {D : DataW Unit}

set_option maxHeartbeats 400000 in
theorem countLen_any (rb : Nat) (w : World) (c7 : w.cell? ⟨rb, 7, none⟩ = some (.map (some m))) (hc : CInv m n sz f hh w D) :
    Calls Try.prog 27 #[.pointer (some ⟨rb, 0, none⟩)] w fun e w' => e = .returned (.int .i64 sz) ∧ w' = w := by
  have HC := Hid.mk hc
  clear hc
  go_enter Try.func27, Try.ntmps27
  go_wp2_with (at_len; refine wpList_len_own _ rfl _ 31 rfl 9 3 Try.underlying31 _ _ _ _ rfl HC.out.own ?_)
  go_ret
  exact ⟨by rw [HC.out.size]; rfl, rfl⟩

set_option maxHeartbeats 400000 in
theorem hasKey_any (rb : Nat) (s : ByteArray) (w : World) (c7 : w.cell? ⟨rb, 7, none⟩ = some (.map (some m))) (hc : CInv m n sz f hh w D) (hs : s.size ≤ maxLen) :
    Calls Try.prog 28 #[.pointer (some ⟨rb, 0, none⟩), .string s] w fun e w' => e = .returned (.bool (hh s.data.toList)) ∧ w' = w := by
  have hl := hc.look_ok hs
  clear hc
  generalize f s.data.toList = c at hl
  generalize hh s.data.toList = b at hl ⊢
  go_enter Try.func28, Try.ntmps28
  go_wp2
  go_ret
  exact ⟨rfl, rfl⟩

set_option maxHeartbeats 400000 in
theorem count_any (rb : Nat) (s : ByteArray) (w : World) (c7 : w.cell? ⟨rb, 7, none⟩ = some (.map (some m))) (hc : CInv m n sz f hh w D) (hs : s.size ≤ maxLen) :
    Calls Try.prog 19 #[.pointer (some ⟨rb, 0, none⟩), .string s] w fun e w' => e = .returned (.int .i64 (f s.data.toList)) ∧ w' = w := by
  have hl := hc.look hs
  clear hc
  generalize f s.data.toList = c at hl ⊢
  go_enter Try.func19, Try.ntmps19
  go_wp2
  go_ret
  exact ⟨rfl, rfl⟩

theorem count_at (rb : Nat) (s : ByteArray) (c : Int) (w : World) (c7 : w.cell? ⟨rb, 7, none⟩ = some (.map (some m))) (hc : CInv m n sz f hh w D) (hs : s.size ≤ maxLen) (h : c = f s.data.toList) :
    Calls Try.prog 19 #[.pointer (some ⟨rb, 0, none⟩), .string s] w fun e w' => e = .returned (.int .i64 c) ∧ w' = w := by
  subst h
  exact count_any rb s w c7 hc hs
end

theorem CInv.same {m n sz : Nat} {f : List UInt8 → Int} {h : List UInt8 → Bool} {w w' : World} {D : DataW Unit} (H : CInv m n sz f h w D) (hs : Same w w') : CInv m n sz f h w' D := H.kept (by rw [hs.heap])

set_option maxRecDepth 100000 in
set_option maxHeartbeats 2000000 in
theorem countsAre_any (rb m n sz m2 n2 sz2 : Nat) (f f2 : List UInt8 → Int) (hh hh2 : List UInt8 → Bool) (D D2 : DataW Unit) (a0 : Option Addr) (cap0 : Nat) (ns : List ByteArray) (w : World) (c7 : w.cell? ⟨rb, 7, none⟩ = some (.map (some m)))
    (hc : CInv m n sz f hh w D) (hc2 : CInv m2 n2 sz2 f2 hh2 w D2) (h0 : Rv w a0 ns.length (cS ns)) (hs : ∀ s ∈ ns, s.size ≤ maxLen) (hn : ns.length ≤ 65536)
    (hall : ∀ i, i < ns.length → hh (ns.getD i noS).data.toList = true ∧ f (ns.getD i noS).data.toList = f2 (ns.getD i noS).data.toList) :
    Calls Try.prog 16 #[.pointer (some ⟨rb, 0, none⟩), .slice a0 ns.length cap0, .map (some m2), .int .i64 sz] w fun e w' => e = .returned (.bool true) ∧ Same w w' := by
  have HC := Hid.mk hc
  have HC2 := Hid.mk hc2
  have H0 := Hid.mk h0
  have HS := Hid.mk hs
  have HA := Hid.mk hall
  clear hc hc2 h0 hs hall
  go_enter Try.func16, Try.ntmps16
  go_wp2_with fail
  refine (countLen_any rb _ c7 HC.out).mono ?_
  rintro e w' ⟨rfl, rfl⟩
  have C7 := Hid.mk c7
  clear c7
  go_wp2
  go_loopw [9] (fun i wr => ∃ k : Nat, k ≤ ns.length ∧ i = .int .i64 k ∧ Hid (Same w' wr)) (fun i _ => ns.length - (intOf i).toNat)
  case atStart => exact ⟨0, Nat.zero_le _, rfl, Same.refl _⟩
  case round =>
    obtain ⟨k, hkm, rfl, hsame⟩ := hrel
    by_cases hlt : k < ns.length
    · obtain ⟨b0, rfl, _, c0⟩ := H0.out k hlt
      obtain ⟨hA1, hA2⟩ := HA.out k hlt
      rw [cS] at c0
      have hsz := size_ok HS.out k
      obtain ⟨s, hsn⟩ : ∃ s, s = ns.getD k noS := ⟨_, rfl⟩
      rw [← hsn] at c0 hA1 hA2 hsz
      have d7 := (hsame.out.cell ⟨rb, 7, none⟩).trans C7.out
      have d0 := (hsame.out.cell ⟨b0, k, none⟩).trans c0
      have HCr := Hid.mk (HC.out.same hsame.out)
      have HCq : Hid (∀ q, CInv m n sz f hh (wr.drewN q) D) := fun q => HC.out.same (hsame.out.drewN q)
      have hl2 : ∀ q, (Instr.lookup 31 (.map (some m2)) (.string s) false).run Try.prog (wr.drewN q) = .ok (.int .i64 (f2 s.data.toList)) (wr.drewN q) := fun q => (HC2.out.same (hsame.out.drewN q)).look hsz
      have HSZ := Hid.mk hsz
      have HA1 := Hid.mk hA1
      have HA2 := Hid.mk hA2
      obtain ⟨c, hcc⟩ : ∃ c, c = f2 s.data.toList := ⟨_, rfl⟩
      rw [← hcc] at hl2
      have HCC := Hid.mk hcc
      have hk1 : (0 : Int) ≤ (k : Int) := by omega
      have hk2 : (k : Int) < (ns.length : Int) := by omega
      clear hsn c0 hA1 hA2 hsz hcc
      go_wp2_with fail
      refine (hasKey_any rb s _ d7 HCr.out HSZ.out).mono ?_
      rintro e w'' ⟨rfl, hw2⟩
      rw [HA1.out]
      subst hw2
      go_wp2
      go_quiet ((go_at_call 19; exact Calls.quiet_of_same (count_at rb s c _ (by exact d7) (HCq.out _) HSZ.out (HCC.out.trans HA2.out.symm))))
      go_wp2
      go_roundw
      case rel => exact ⟨k + 1, by omega, by go_num, hsame.out.drewN _⟩
      case measure => simp [intOf]; omega
    · go_wp2
      go_ret
      exact ⟨rfl, hsame.out⟩

end Go.Proofs.Qxb6602872a
