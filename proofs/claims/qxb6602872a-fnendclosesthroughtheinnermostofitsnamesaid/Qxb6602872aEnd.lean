/-
  zzBytes of the second law; end: the contracts.
-/
import Derived.Test.Qxb6602872aLaw4
import Derived.Deep.LoopGhost
namespace Go.Proofs.Qxb6602872a
open Go.RowKit

set_option maxHeartbeats 1000000 in
/-- zzBytes: some answer; nothing turns. -/
theorem zz17_any (a0 a1 : Option Addr) (cap0 len1 cap1 : Nat) (ns : List ByteArray) (p q : ByteArray) (w : World) (h0 : InRow w a0 ns.length cap0 (cS ns)) (hs : ∀ s ∈ ns, s.size ≤ maxLen) (h1 : len1 ≤ maxLen) (hp : p.size ≤ maxLen) (hq : q.size ≤ maxLen) :
    Calls Try.prog 17 #[.slice a0 ns.length cap0, .slice a1 len1 cap1, .string p, .string q] w fun e w' => IsB True e ∧ w' = w := by
  have hl := h0.len_bd
  have H0 := Hid.mk h0
  have HS := Hid.mk hs
  unfold maxLen at hl h1 hp hq
  clear h0 hs
  by_cases c0 : ns.length ≤ 1048576
  · go_enter Try.func17, Try.ntmps17
    go_wp2
    go_loop [9, 10] (fun z i => ∃ k t : Nat, k ≤ ns.length ∧ t ≤ 1048576 ∧ i = .int .i64 k ∧ z = .int .i64 t) (fun _ i => ns.length - (intOf i).toNat)
    case atStart => exact ⟨0, ns.length, Nat.zero_le _, c0, rfl, by simp⟩
    case round =>
      obtain ⟨k, t, hk, ht, rfl, rfl⟩ := hrel
      by_cases hlt : k < ns.length
      · obtain ⟨b, off, rfl, hb, hc⟩ := H0.out.at hlt
        have hck := hc k hlt
        have hsk := size_ok HS.out k
        unfold maxLen at hsk
        rw [cS] at hck
        obtain ⟨s, hsn⟩ : ∃ s, s = ns.getD k noS := ⟨_, rfl⟩
        rw [← hsn] at hck hsk
        clear hc hsn
        by_cases c1 : s.size ≤ 1048576
        · by_cases c2 : t + s.size ≤ 1048576
          · go_wp2
            go_round
            case rel => exact ⟨k + 1, t + s.size, by omega, c2, by go_num, by go_num⟩
            case measure => simp [intOf]; omega
          · go_wp2
            go_ret
            exact ⟨⟨_, rfl, fun _ => trivial⟩, rfl⟩
        · go_wp2
          go_ret
          exact ⟨⟨_, rfl, fun _ => trivial⟩, rfl⟩
      · by_cases c1 : len1 ≤ 1048576
        · by_cases c2 : t + len1 ≤ 1048576
          · by_cases c3 : p.size ≤ 1048576
            · by_cases c4 : t + len1 + p.size ≤ 1048576
              · by_cases c5 : q.size ≤ 1048576
                · by_cases c6 : t + len1 + p.size + q.size ≤ 1048576
                  · go_wp2
                    go_ret
                    exact ⟨⟨_, rfl, fun _ => trivial⟩, rfl⟩
                  · go_wp2
                    go_ret
                    exact ⟨⟨_, rfl, fun _ => trivial⟩, rfl⟩
                · go_wp2
                  go_ret
                  exact ⟨⟨_, rfl, fun _ => trivial⟩, rfl⟩
              · go_wp2
                go_ret
                exact ⟨⟨_, rfl, fun _ => trivial⟩, rfl⟩
            · go_wp2
              go_ret
              exact ⟨⟨_, rfl, fun _ => trivial⟩, rfl⟩
          · go_wp2
            go_ret
            exact ⟨⟨_, rfl, fun _ => trivial⟩, rfl⟩
        · go_wp2
          go_ret
          exact ⟨⟨_, rfl, fun _ => trivial⟩, rfl⟩
  · go_enter Try.func17, Try.ntmps17
    go_wp2
    go_ret
    exact ⟨⟨_, rfl, fun _ => trivial⟩, rfl⟩

/-- How many elements stay open. -/
def Stay (ns : List ByteArray) (q : List UInt8) (st : Nat) : Prop :=
  (st = ns.length ∧ ∀ i, i < ns.length → (ns.getD i noS).data.toList ≠ q) ∨ (st < ns.length ∧ (ns.getD st noS).data.toList = q ∧ ∀ i, st < i → i < ns.length → (ns.getD i noS).data.toList ≠ q)

theorem Stay.le {ns : List ByteArray} {q : List UInt8} {st : Nat} (h : Stay ns q st) : st ≤ ns.length := by
  rcases h with h | h <;> omega

/-- What is written when all from j on are closed. -/
def tags (ns : List ByteArray) (ks : List Bool) (j : Nat) : List UInt8 := (List.range (ns.length - j)).flatMap (fun i => tag (ns.getD (ns.length - 1 - i) noS) (ks.getD (ns.length - 1 - i) false))
theorem tags_all (ns : List ByteArray) (ks : List Bool) : tags ns ks ns.length = [] := by simp [tags]
theorem tags_step (ns : List ByteArray) (ks : List Bool) (j : Nat) (h : j < ns.length) : tags ns ks j = tags ns ks (j + 1) ++ tag (ns.getD j noS) (ks.getD j false) := by
  unfold tags
  rw [show ns.length - j = ns.length - (j + 1) + 1 by omega, List.range_succ, List.flatMap_append, List.flatMap_singleton, show ns.length - 1 - (ns.length - (j + 1)) = j by omega]
theorem tag_length (s : ByteArray) (t : Bool) : (tag s t).length ≤ s.size + 3 := by
  cases t
  · simp [tag]
  · simp [tag]
theorem tags_length (ns : List ByteArray) (ks : List Bool) : ∀ d j, j + d = ns.length → (tags ns ks j).length + sumSz (ns.take j) + 3 * j ≤ sumSz ns + 3 * ns.length := by
  intro d
  induction d with
  | zero =>
    intro j hj
    obtain rfl : j = ns.length := by omega
    rw [tags_all, List.take_length]; simp
  | succ d ih =>
    intro j hj
    have h := ih (j + 1) (by omega)
    rw [take_snoc ns noS j (by omega), sumSz_snoc] at h
    have h2 := tag_length (ns.getD j noS) (ks.getD j false)
    rw [tags_step ns ks j (by omega), List.length_append]
    omega
theorem tags_le (ns : List ByteArray) (ks : List Bool) (j : Nat) (hj : j ≤ ns.length) : (tags ns ks j).length ≤ sumSz ns + 3 * ns.length := by
  have := tags_length ns ks (ns.length - j) j (by omega)
  omega

theorem cnt_take (ns : List ByteArray) (j : Nat) (hj : j < ns.length) (y : List UInt8) : (if y = (ns.getD j noS).data.toList then ((cnt (ns.take (j + 1)) y : Nat) : Int) - 1 else ((cnt (ns.take (j + 1)) y : Nat) : Int)) = ((cnt (ns.take j) y : Nat) : Int) := by
  rw [take_snoc ns noS j hj, cnt_snoc]
  split <;> omega
theorem cnt_take_pos (ns : List ByteArray) (j : Nat) (hj : j < ns.length) : 1 ≤ cnt (ns.take (j + 1)) (ns.getD j noS).data.toList := by
  rw [take_snoc ns noS j hj, cnt_snoc, if_pos rfl]; omega
theorem cnt_none (ns : List ByteArray) (q : List UInt8) (h : ∀ i, i < ns.length → (ns.getD i noS).data.toList ≠ q) : cnt ns q = 0 := by
  unfold cnt
  rw [List.length_eq_zero_iff, List.filter_eq_nil_iff]
  intro s hs
  obtain ⟨i, hi, rfl⟩ := List.mem_iff_getElem.1 hs
  have := h i hi
  rw [List.getD_eq_getElem?_getD, List.getElem?_eq_getElem hi] at this
  simpa using this

set_option maxRecDepth 100000 in
set_option maxHeartbeats 2000000 in
theorem end_any (B rb m sz st : Nat) (l : List UInt8) (ns : List ByteArray) (ks : List Bool) (q : ByteArray) (D : DataW Unit) (w : World)
    (h : RInv B rb m l (elsOf ns ks) w) (hc : CInv m ns.length sz (fun y => ((cnt ns y : Nat) : Int)) (hasN ns) w D) (hmB : m < B) (hst : Stay ns q.data.toList st) (hk : ks.length = ns.length) (hq : q.size ≤ maxLen) (hn : ns.length ≤ 65536) (hsum : sumSz ns ≤ 1048576) (hl : l.length ≤ 1048576) :
    Calls Try.prog 29 #[.pointer (some ⟨rb, 0, none⟩), .string q] w fun e w' => e = .returned (.tuple #[]) ∧ RInv B rb m (l ++ tags ns ks st) ((elsOf ns ks).take st) w' ∧ (∃ n' D', CInv m n' sz (fun y => ((cnt (ns.take st) y : Nat) : Int)) (hasN ns) w' D') ∧ BelowBut B m w w' := by
  obtain ⟨_, _, _, c7, _⟩ := h.open6
  have hlook := hc.look hq
  have hcl := cnt_le ns q.data.toList
  have H := Hid.mk h
  have HC := Hid.mk hc
  have HK := Hid.mk hk
  rcases hst with ⟨hst, hnone⟩ | ⟨hst, heq, hlast⟩
  · have h0 : cnt ns q.data.toList = 0 := cnt_none ns _ hnone
    rw [h0] at hlook
    have HST := Hid.mk hst
    clear h hc hk hcl h0 hnone hst
    go_enter Try.func29, Try.ntmps29
    go_wp2
    (try simp only [Exit.inBlock, Exit.then])
    refine bodyPost_ret (results_none rfl _ _ _) rfl ?_
    have e := HST.out
    subst e
    rw [tags_all, List.append_nil, List.take_length, ← elsOf_length ns ks HK.out, List.take_length]
    exact ⟨rfl, H.out, ⟨_, _, HC.out⟩, BelowBut.refl _ _ _⟩
  · have h0 : 1 ≤ cnt ns q.data.toList := by rw [← heq]; exact cnt_pos ns st hst
    obtain ⟨c, hcc⟩ : ∃ c, c = cnt ns q.data.toList := ⟨_, rfl⟩
    rw [← hcc] at hlook h0
    have hc0 : ((c : Int) == 0) = false := by rw [beq_eq_false_iff_ne]; omega
    have HEQ := Hid.mk heq
    have HLAST := Hid.mk hlast
    clear h hc hk hcl hcc heq hlast
    go_enter Try.func29, Try.ntmps29
    go_wp2
    clear hlook c7
    go_loopg [] ns.length (fun gk wr => gk ≤ ns.length ∧ st < gk ∧ Hid (RInv B rb m (l ++ tags ns ks gk) ((elsOf ns ks).take gk) wr) ∧ Hid (∃ D', CInv m (2 * ns.length - gk) sz (fun y => ((cnt (ns.take gk) y : Nat) : Int)) (hasN ns) wr D') ∧ Hid (BelowBut B m w wr))
    case atStart =>
      refine ⟨Nat.le_refl _, hst, ?_, ?_, BelowBut.refl _ _ _⟩
      · show RInv _ _ _ _ _ _
        rw [tags_all, List.append_nil, ← elsOf_length ns ks HK.out, List.take_length]; exact H.out
      · refine ⟨D, ?_⟩
        rw [List.take_length, show 2 * ns.length - ns.length = ns.length by omega]; exact HC.out
    case round =>
      obtain ⟨hg1, hg2, hR, hCx, hBB⟩ := hrel
      obtain ⟨D1, hC⟩ := hCx.out
      obtain ⟨j, hj⟩ : ∃ j, gk = j + 1 := ⟨gk - 1, by omega⟩
      subst hj
      have hjn : j < ns.length := by omega
      obtain ⟨s, hs⟩ : ∃ s, s = ns.getD j noS := ⟨_, rfl⟩
      obtain ⟨t, ht⟩ : ∃ t, t = ks.getD j false := ⟨_, rfl⟩
      have hR' : RInv B rb m (l ++ tags ns ks (j + 1)) ((elsOf ns ks).take j ++ [(s, t)]) wr := by
        rw [hs, ht, ← elsOf_snoc ns ks HK.out j hjn]; exact hR.out
      have hss : s.size ≤ 1048576 := by rw [hs]; exact Nat.le_trans (size_le_sum ns j hjn) hsum
      have hcp := cnt_take_pos ns j hjn
      have hcl := cnt_le (ns.take (j + 1)) s.data.toList
      rw [List.length_take] at hcl
      rw [← hs] at hcp
      have hhs : hasN ns s.data.toList = true := by rw [hs]; exact hasN_at ns j hjn
      have htl := tags_le ns ks (j + 1) (by omega)
      have hcall := close_any B rb m (2 * ns.length - (j + 1)) sz (l ++ tags ns ks (j + 1)) ((elsOf ns ks).take j) s t (fun y => ((cnt (ns.take (j + 1)) y : Nat) : Int)) (hasN ns) D1 wr hR' hC hmB hss (by show (1 : Int) ≤ (cnt (ns.take (j + 1)) s.data.toList : Nat); omega) (by show ((cnt (ns.take (j + 1)) s.data.toList : Nat) : Int) ≤ 65536; omega) hhs (by omega) (by rw [List.length_append]; omega) (by rw [List.length_take]; omega)
      have HCALL := Hid.mk hcall
      have HSS := Hid.mk hs
      have HTT := Hid.mk ht
      clear hR' hss hcp hcl hhs htl hcall hC hs ht
      have HNEXT : Hid (∀ w', RInv B rb m (l ++ tags ns ks (j + 1) ++ tag s t) ((elsOf ns ks).take j) w' → (∃ D', CInv m (2 * ns.length - (j + 1) + 1) sz (fun y => if y = s.data.toList then ((cnt (ns.take (j + 1)) y : Nat) : Int) - 1 else ((cnt (ns.take (j + 1)) y : Nat) : Int)) (hasN ns) w' D') → BelowBut B m wr w' →
          RInv B rb m (l ++ tags ns ks j) ((elsOf ns ks).take j) w' ∧ (∃ D', CInv m (2 * ns.length - j) sz (fun y => ((cnt (ns.take j) y : Nat) : Int)) (hasN ns) w' D') ∧ BelowBut B m w w') := by
        intro w' h1 h2 h3
        refine ⟨?_, ?_, hBB.out.trans h3⟩
        · rw [tags_step ns ks j hjn, ← List.append_assoc, ← HSS.out, ← HTT.out]; exact h1
        · obtain ⟨D', h2⟩ := h2
          refine ⟨D', ?_⟩
          rw [show 2 * ns.length - j = 2 * ns.length - (j + 1) + 1 by omega]
          exact h2.congr rfl (fun y => by rw [HSS.out]; exact cnt_take ns j hjn y) (fun _ => rfl)
      clear hR hCx hBB
      by_cases hjs : j = st
      · have hne : (s.toList == q.toList) = true := by
          rw [Go.ByteArray.toList_eq, Go.ByteArray.toList_eq, HSS.out, hjs, HEQ.out]; simp
        go_wp2_with fail
        refine HCALL.out.mono ?_
        rintro e w1 ⟨rfl, h1, h2, h3⟩
        have HN := Hid.mk (HNEXT.out w1 h1 h2 h3)
        clear h1 h2 h3
        go_wp2
        go_end0
        obtain ⟨h1, ⟨D', h2⟩, h3⟩ := HN.out
        subst hjs
        exact ⟨rfl, h1, ⟨_, _, h2⟩, h3⟩
      · have hne : (s.toList == q.toList) = false := by
          rw [beq_eq_false_iff_ne, Go.ByteArray.toList_eq, Go.ByteArray.toList_eq, HSS.out]
          exact HLAST.out j (by omega) hjn
        go_wp2_with fail
        refine HCALL.out.mono ?_
        rintro e w1 ⟨rfl, h1, h2, h3⟩
        have HN := Hid.mk (HNEXT.out w1 h1 h2 h3)
        clear h1 h2 h3
        go_wp2
        go_roundg j
        case measure => omega
        case rel => exact ⟨by omega, by omega, HN.out.1, HN.out.2.1, HN.out.2.2⟩

set_option maxHeartbeats 400000 in
theorem end18_any (B rb m sz st : Nat) (l : List UInt8) (ns : List ByteArray) (ks : List Bool) (q : ByteArray) (D : DataW Unit) (w : World)
    (h : RInv B rb m l (elsOf ns ks) w) (hc : CInv m ns.length sz (fun y => ((cnt ns y : Nat) : Int)) (hasN ns) w D) (hmB : m < B) (hst : Stay ns q.data.toList st) (hk : ks.length = ns.length) (hq : q.size ≤ maxLen) (hn : ns.length ≤ 65536) (hsum : sumSz ns ≤ 1048576) (hl : l.length ≤ 1048576) :
    Calls Try.prog 18 #[.pointer (some ⟨rb, 0, none⟩), .string q] w fun e w' => e = .returned (.tuple #[]) ∧ RInv B rb m (l ++ tags ns ks st) ((elsOf ns ks).take st) w' ∧ (∃ n' D', CInv m n' sz (fun y => ((cnt (ns.take st) y : Nat) : Int)) (hasN ns) w' D') ∧ BelowBut B m w w' := by
  have hcall := Hid.mk (end_any B rb m sz st l ns ks q D w h hc hmB hst hk hq hn hsum hl)
  clear h hc hst hk
  go_enter Try.func18, Try.ntmps18
  go_wp2_with fail
  refine hcall.out.mono ?_
  rintro e w' ⟨rfl, h1, h2, h3⟩
  have H1 := Hid.mk h1
  have H2 := Hid.mk h2
  have H3 := Hid.mk h3
  clear h1 h2 h3
  go_wp2
  go_end0
  exact ⟨rfl, H1.out, H2.out, H3.out⟩

end Go.Proofs.Qxb6602872a
