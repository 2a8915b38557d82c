/-
  ZZNewOpen: the contract.
-/
import Derived.Test.Qxb6602872aCnt
import Derived.Deep.RegionHeld3
import Derived.Deep.RegionLaw
import Derived.Deep.AppendLies
import Derived.BigRegion
namespace Go.Proofs.Qxb6602872a
open Go.RowKit

theorem Try.info54 : (Try.prog.info? 54).map (fun i => (i.zero, i.size, i.bytes)) = some (some (Value.agg #[.string ⟨#[]⟩, .bool false]), 2, 24) := by kernel_rfl

def elsOf (ns : List ByteArray) (ks : List Bool) : List (ByteArray × Bool) := ns.zip ks
theorem elsOf_length (ns : List ByteArray) (ks : List Bool) (h : ks.length = ns.length) : (elsOf ns ks).length = ns.length := by simp [elsOf, h]
theorem elsOf_snoc (ns : List ByteArray) (ks : List Bool) (h : ks.length = ns.length) (k : Nat) (hk : k < ns.length) : (elsOf ns ks).take (k + 1) = (elsOf ns ks).take k ++ [(ns.getD k noS, ks.getD k false)] := by
  rw [take_snoc _ (noS, false) k (by rw [elsOf_length _ _ h]; exact hk)]
  have h2 : k < ks.length := by omega
  have h3 : k < (ns.zip ks).length := by simp; omega
  simp only [elsOf, List.getD_eq_getElem?_getD, List.getElem?_eq_getElem h3, List.getElem?_eq_getElem hk, List.getElem?_eq_getElem h2, Option.getD_some, List.getElem_zip]
theorem elCells_snoc (els : List (ByteArray × Bool)) (s : ByteArray) (b : Bool) : elCells (els ++ [(s, b)]) = elCells els ++ [.string s, .bool b] := by
  simp [elCells, List.flatMap_append]

theorem new_red (w : World) (m : Nat) : RInv w.heap.size w.heap.size m [] [] (w.alloc (.cells (redCells (.pointer none) (.slice none 0 0) (.slice none 0 0) m) 45)) :=
  Or.inl ⟨Nat.le_refl _, by simp, _, _, heap_alloc_new w _, World.ownsRow_nil _ _ _ _, World.ownsRow_nil _ _ _ _⟩

theorem undrew {w w2 : World} {r : Option Nat} (h : w.drew.grownBy w2 r) : w.grownBy w2 r := ⟨h.os, h.tape, h.output, h.size, h.block⟩

theorem app_facts {wr w2 : World} {B rb m n : Nat} {p buf opn : Value} {xs : List Value} {o : Obj} (hbk : wr.heap[rb]? = some (.cells (redCells p buf opn m) 45 (0, 0))) (hown : wr.ownsRow B 54 2 opn n xs) (hlt : rb < wr.heap.size) (hg : (wr.alloc o).drew.grownBy w2 opn.ownBlock) :
    Hid (w2.heap[rb]? = some (.cells (redCells p buf opn m) 45 (0, 0))) ∧ w2.cell? ⟨rb, 6, none⟩ = some opn ∧ w2.frozen? ⟨rb, 6, none⟩ = false := by
  have h1 : (wr.alloc o).heap[rb]? = some (.cells (redCells p buf opn m) 45 (0, 0)) := (Below.heap_alloc wr o rb hlt).trans hbk
  have hg' : (wr.alloc o).grownBy w2 opn.ownBlock := undrew hg
  have h2 : w2.heap[rb]? = some (.cells (redCells p buf opn m) 45 (0, 0)) := by
    rw [hg'.block rb (by simp; omega) (fun e => own_ne hown hbk (by decide) e.symm)]; exact h1
  exact ⟨h2, by simp [World.cell?, h2, redCells], by simp [World.frozen?, h2]⟩

set_option maxRecDepth 100000 in
set_option maxHeartbeats 3200000 in
theorem new_any (a0 a1 : Option Addr) (cap0 cap1 m : Nat) (ns : List ByteArray) (ks : List Bool) (p : ByteArray) (w : World) (h0 : Rv w a0 ns.length (cS ns)) (h1 : Rv w a1 ns.length (cB ks)) (hk : ks.length = ns.length) (hn : ns.length ≤ 65536) (hp : p.size ≤ 1048576) :
    Calls Try.prog 12 #[.slice a0 ns.length cap0, .slice a1 ns.length cap1, .map (some m), .string p] w fun e w' => e = .returned (.pointer (some ⟨w.heap.size, 0, none⟩)) ∧ RInv w.heap.size w.heap.size m p.data.toList (elsOf ns ks) w' ∧ Below w.heap.size w w' := by
  obtain ⟨i0, hi0, hz0, hz1, hz2⟩ := info_parts Try.info54
  have H0 := Hid.mk h0
  have H1 := Hid.mk h1
  have HK := Hid.mk hk
  clear h0 h1 hk
  go_enter Try.func12, Try.ntmps12
  go_wp2_with fail
  refine (write_any w.heap.size w.heap.size m [] [] p _ (new_red w m) (by simp; omega)).mono ?_
  rintro e w1 ⟨rfl, hr, hb, _⟩
  have HB1 : Hid (Below w.heap.size w w1) := ((Below.refl _ _).alloc (Nat.le_refl _) _).trans hb
  rw [List.nil_append] at hr
  have HR := Hid.mk hr
  clear hr hb
  go_wp2
  go_loopw [10] (fun i wr => ∃ k : Nat, k ≤ ns.length ∧ i = .int .i64 k ∧ Hid (RAt w.heap.size w.heap.size m (selfP w.heap.size) p.data.toList ((elsOf ns ks).take k) wr) ∧ Hid (Below w.heap.size w wr)) (fun i _ => ns.length - (intOf i).toNat)
  case atStart => exact ⟨0, Nat.zero_le _, rfl, HR, HB1⟩
  case round =>
    obtain ⟨k, hk, rfl, hR, hbel⟩ := hrel
    by_cases hlt : k < ns.length
    · obtain ⟨b0, rfl, hb0, c0⟩ := H0.out k hlt
      obtain ⟨b1, rfl, hb1, c1⟩ := H1.out k hlt
      have e0 := (hbel.out.cell (p := ⟨b0, k, none⟩) hb0).trans c0
      have e1 := (hbel.out.cell (p := ⟨b1, k, none⟩) hb1).trans c1
      rw [cS] at e0
      rw [cB] at e1
      obtain ⟨s, hs⟩ : ∃ s, s = ns.getD k noS := ⟨_, rfl⟩
      obtain ⟨t, ht⟩ : ∃ t, t = ks.getD k false := ⟨_, rfl⟩
      rw [← hs] at e0
      rw [← ht] at e1
      have HS := Hid.mk hs
      have HT := Hid.mk ht
      obtain ⟨hB, hBw, buf, opn, hbk, hbuf, hopn⟩ := hR.out
      have c6 : wr.cell? ⟨w.heap.size, 6, none⟩ = some opn := by simp [World.cell?, hbk, redCells]
      have f6 : wr.frozen? ⟨w.heap.size, 6, none⟩ = false := by simp [World.frozen?, hbk]
      have hlen : ((elsOf ns ks).take k).length = k := by rw [List.length_take, elsOf_length _ _ HK.out]; omega
      rw [hlen] at hopn
      have hrlt := block_lt hbk
      have HBK := Hid.mk hbk
      have HBUF := Hid.mk hbuf
      have HOPN := Hid.mk hopn
      have hi1 : (0 : Int) ≤ (k : Int) := by omega
      have hi2 : (k : Int) < (ns.length : Int) := by omega
      have hlb0 : b0 < wr.heap.size := by omega
      have hlb1 : b1 < wr.heap.size := by omega
      clear c0 c1 hs ht hbk hbuf hopn hlen
      go_wp2
      go_region_law ((refine step_append_lies _ (by rfl) _ _ _ (by rfl) w.heap.size 54 i0 _ 2 24 Try.underlying43 hi0 hz0 hz1 hz2 rfl (by omega) opn k (elCells ((elsOf ns ks).take k)) (by rfl) ((HOPN.out.alloc _).drew) ⟨wr.heap.size, 0, none⟩ 1 1 [.string s, .bool t] (by rfl) (by rfl) (World.news_of_block (cs := #[.string s, .bool t]) (t := 54) (fr := (0, 0)) (heap_alloc_new wr _)) (by simp [Value.oneCell']) (by omega) (by unfold maxLen; omega) (by omega) (by simp; omega) (wr.heap.size + 1) (by simp) ?_; intro gg cap w2 hown2 hgrow hat hlt2; obtain ⟨HBK2, d6, g6⟩ := app_facts HBK.out HOPN.out hrlt hgrow))
      all_goals
        have HOWN2 := Hid.mk hown2
        have HG := Hid.mk hgrow
        clear hown2 hgrow hat c6 f6 d6 g6
        go_wp2
        go_roundw
        case rel =>
          have h2 : (wr.alloc (.cells #[.string s, .bool t] 54)).grownBy w2 opn.ownBlock := undrew HG.out
          refine ⟨k + 1, by omega, by go_num, ⟨hB, ?_, buf, .slice (some ⟨gg, 0, none⟩) (k + 1) cap, ?_, ?_, ?_⟩, ?_⟩
          · have := h2.size
            simp [World.setCell] at this ⊢
            omega
          · rw [set_block HBK2.out]; rfl
          · exact own_set ((HBUF.out.alloc _).kept h2 (own_ne2 HBUF.out HOPN.out (by decide))) HBK2.out (by decide) _ _
          · rw [elsOf_snoc ns ks HK.out k hlt, elCells_snoc, ← HS.out, ← HT.out, List.length_append, List.length_take, elsOf_length _ _ HK.out, Nat.min_eq_left hk]
            exact own_set HOWN2.out HBK2.out (by decide) _ _
          · exact ((hbel.out.alloc hbel.out.size _).grown h2 (by have := hbel.out.size; simp; omega) (fun k hk => (HOPN.out.lt k hk).1)).setCell (p := ⟨w.heap.size, 6, none⟩) (Nat.le_refl _) _
        case measure => simp [intOf]; omega
    · go_wp2
      go_ret
      have h := hR.out
      rw [show k = ns.length by omega, ← elsOf_length ns ks HK.out, List.take_length] at h
      exact ⟨rfl, Or.inr h, hbel.out⟩

end Go.Proofs.Qxb6602872a
