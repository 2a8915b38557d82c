/-
  closeInnermost: the contract.
-/
import Derived.Test.Qxb6602872aPop
namespace Go.Proofs.Qxb6602872a
open Go.RowKit

def tag (s : ByteArray) (t : Bool) : List UInt8 := if t then [60, 47] ++ s.data.toList ++ [62] else []

theorem box_cells {w : World} {E : Nat} {s : ByteArray} {t : Bool} (h : w.heap[E]? = some (.cells #[.string s, .bool t] 54 (0, 0))) : w.cell? ⟨E, 0, none⟩ = some (.string s) ∧ w.cell? ⟨E, 1, none⟩ = some (.bool t) := by
  simp [World.cell?, h]

set_option maxRecDepth 100000 in
set_option maxHeartbeats 3200000 in
theorem close_core (B rb m n sz : Nat) (p : Value) (l : List UInt8) (els : List (ByteArray × Bool)) (s : ByteArray) (t : Bool) (f : List UInt8 → Int) (hh : List UInt8 → Bool) (D : DataW Unit) (w : World)
    (h : RAt B rb m p l (els ++ [(s, t)]) w) (hp : ∀ els w, RAt B rb m p l els w → RInv B rb m l els w) (hc : CInv m n sz f hh w D) (hmB : m < B) (hs : s.size ≤ 1048576) (hf1 : 1 ≤ f s.data.toList) (hf2 : f s.data.toList ≤ 65536) (hhs : hh s.data.toList = true)
    (hn : n ≤ 16777216) (hl : l.length + s.size + 3 ≤ 16777216) (hk : els.length ≤ 65536) :
    Calls Try.prog 22 #[.pointer (some ⟨rb, 0, none⟩)] w fun e w' => e = .returned (.string s) ∧ RInv B rb m (l ++ tag s t) els w' ∧ (∃ D', CInv m (n + 1) sz (fun y => if y = s.data.toList then f y - 1 else f y) hh w' D') ∧ BelowBut B m w w' := by
  obtain ⟨g, cap, c6, c7, f6, hcap, hlt, hlg, g0, g1, hpop⟩ := h.last
  have hB := h.1
  have hBw := h.2.1
  have hmw := hc.own.lt
  obtain ⟨es, ck, hmap, hfit⟩ := hc.own
  clear hfit
  have hnerb : m ≠ rb := by omega
  obtain ⟨k, hkk⟩ : ∃ k, k = els.length := ⟨_, rfl⟩
  rw [← hkk] at c6 hcap g0 g1 hpop hk
  have hW := hpop (.cells #[.string s, .bool t] 54)
  obtain ⟨c, hcc⟩ : ∃ c, c = f s.data.toList := ⟨_, rfl⟩
  rw [← hcc] at hf1 hf2
  -- the worlds on the way
  have hmW : ((w.setCell ⟨rb, 6, none⟩ (.slice (some ⟨g, 0, none⟩) k cap)).alloc (.cells #[.string s, .bool t] 54)).drew.drew.drew.heap[m]? = w.heap[m]? := by
    show ((w.setCell ⟨rb, 6, none⟩ (.slice (some ⟨g, 0, none⟩) k cap)).alloc (.cells #[.string s, .bool t] 54)).heap[m]? = _
    rw [Below.heap_alloc _ _ _ (by simpa [World.setCell] using hmw), Below.heap_setCell _ _ _ _ (by exact hnerb)]
  have hcW := hc.kept hmW
  have hlook := hcW.look (s := s) (by unfold maxLen; omega)
  rw [← hcc] at hlook
  obtain ⟨w4, hupd, hown4, hg4⟩ := hcW.own.update law9 Try.underlying31 (by unfold maxLen; omega) (key9 (s := s) (by unfold maxLen; omega)) (plainElem_int (a := c - 1) Try.underlying3 (WalkArith.wf_i64 (by omega)))
  have hC4 := hcW.store s.data.toList (c - 1) hown4
  have hR4 : RAt B rb m p l els w4 := RAt.mapped (w := ((w.setCell ⟨rb, 6, none⟩ (.slice (some ⟨g, 0, none⟩) k cap)).alloc (.cells #[.string s, .bool t] 54)).drew.drew.drew) hW (hmW.trans hmap) hg4
  have hE4 : w4.heap[w.heap.size]? = some (.cells #[.string s, .bool t] 54 (0, 0)) := by
    rw [hg4.block w.heap.size (by show _ < ((w.setCell _ _).alloc _).heap.size; simp [World.setCell]) (by simp; omega)]
    show ((w.setCell ⟨rb, 6, none⟩ (.slice (some ⟨g, 0, none⟩) k cap)).alloc (.cells #[.string s, .bool t] 54)).heap[w.heap.size]? = _
    have := heap_alloc_new (w.setCell ⟨rb, 6, none⟩ (.slice (some ⟨g, 0, none⟩) k cap)) (.cells #[.string s, .bool t] 54)
    simpa [World.setCell] using this
  have hBB : BelowBut B m w w4 := by
    have h1 : Below B w ((w.setCell ⟨rb, 6, none⟩ (.slice (some ⟨g, 0, none⟩) k cap)).alloc (.cells #[.string s, .bool t] 54)).drew.drew.drew := ((((Below.refl B w).setCell (p := ⟨rb, 6, none⟩) hB _).alloc (by simpa [World.setCell] using hBw) _).drew.drew).drew
    exact (BelowBut.of h1).trans (BelowBut.grown hg4 (Nat.le_trans hBw h1.size))
  have HR4 := Hid.mk hR4
  have HE4 := Hid.mk hE4
  have HBB := Hid.mk hBB
  have HC4 : Hid (∃ D', CInv m (n + 1) sz (fun y => if y = s.data.toList then f y - 1 else f y) hh w4 D') := ⟨_, hC4.congr (by rw [hhs]; simp) (fun y => by by_cases e : y = s.data.toList <;> simp [e, hcc]) (fun y => by by_cases e : y = s.data.toList <;> simp [e, hhs])⟩
  have HP := Hid.mk hp
  obtain ⟨i0, i1⟩ := box_cells hE4
  have hk1 : (0 : Int) ≤ (k : Int) := by omega
  have hk2 : (k : Int) < (k : Int) + 1 := by omega
  have hk3 : (k : Int) + 1 ≤ (cap : Int) := by omega
  have hne : g ≠ w.heap.size := by omega
  have hne' : rb ≠ w.heap.size := by omega
  have hk4 : (k : Int) ≤ (cap : Int) := by omega
  clear h hpop hW hmW hcW hown4 hg4 hC4 hR4 hE4 hBB hp hmap hc hcc hkk hhs
  cases t with
  | false =>
    go_enter Try.func22, Try.ntmps22
    go_wp2
    go_region
    go_wp2
    go_region
    go_wp2
    go_region
    go_wp2
    go_ret
    exact ⟨rfl, by rw [show tag s false = [] from rfl, List.append_nil]; exact HP.out _ _ HR4.out, HC4.out, HBB.out⟩
  | true =>
    go_enter Try.func22, Try.ntmps22
    go_wp2
    go_region
    go_wp2
    go_region
    go_wp2
    go_region
    clear c6 c7 f6 g0 g1 hlook hupd
    go_wp2_with fail
    refine (write_any B rb m l els ⟨#[60, 47]⟩ _ (HP.out _ _ HR4.out) (by show _ + 2 ≤ _; omega)).mono ?_
    rintro e w5 ⟨rfl, hr5, hb5, hk5⟩
    have hE5 : w5.heap[w.heap.size]? = some (.cells #[.string s, .bool true] 54 (0, 0)) := (hk5 _ _ _ _ HE4.out (by decide) (by omega)).trans HE4.out
    obtain ⟨j0, j1⟩ := box_cells hE5
    have HR5 := Hid.mk hr5
    have HE5 := Hid.mk hE5
    have HB5 := Hid.mk hb5
    clear hr5 hE5 hb5 hk5 i0 i1
    go_wp2
    go_region_with (go_at_call 21; refine (write_any B rb m (l ++ [60, 47]) els s _ (by exact Or.inr HR5.out) (by simp; omega)).mono ?_; rintro e w6 ⟨rfl, hr6, hb6, hk6⟩)
    have hE6 : w6.heap[w.heap.size]? = some (.cells #[.string s, .bool true] 54 (0, 0)) := (hk6 _ _ _ _ HE5.out (by decide) (by omega)).trans HE5.out
    obtain ⟨n0, n1⟩ := box_cells hE6
    have HR6 := Hid.mk hr6
    have HE6 := Hid.mk hE6
    have HB6 : Hid (Below B w4 w6) := HB5.out.drew.trans hb6
    clear hr6 hE6 hb6 hk6 j0 j1
    go_wp2_with fail
    refine (write_any B rb m (l ++ [60, 47] ++ s.data.toList) els ⟨#[62]⟩ _ (Or.inr HR6.out) (by show _ + 1 ≤ _; simp; omega)).mono ?_
    rintro e w7 ⟨rfl, hr7, hb7, hk7⟩
    have hE7 : w7.heap[w.heap.size]? = some (.cells #[.string s, .bool true] 54 (0, 0)) := (hk7 _ _ _ _ HE6.out (by decide) (by omega)).trans HE6.out
    obtain ⟨o0, o1⟩ := box_cells hE7
    have HR7 := Hid.mk hr7
    have HB7 : Hid (Below B w4 w7) := HB6.out.trans hb7
    clear hr7 hE7 hb7 hk7 n0 n1
    go_wp2
    go_ret
    refine ⟨rfl, Or.inr ?_, ?_, HBB.out.trans (BelowBut.of HB7.out)⟩
    · have := HR7.out
      rw [show l ++ tag s true = l ++ [60, 47] ++ s.data.toList ++ [62] by simp [tag]]
      exact this
    · obtain ⟨D', hD'⟩ := HC4.out
      exact ⟨D', hD'.below HB7.out hmB⟩

/-- closeInnermost on a reducer that has an element open. -/
theorem close_any (B rb m n sz : Nat) (l : List UInt8) (els : List (ByteArray × Bool)) (s : ByteArray) (t : Bool) (f : List UInt8 → Int) (hh : List UInt8 → Bool) (D : DataW Unit) (w : World)
    (h : RInv B rb m l (els ++ [(s, t)]) w) (hc : CInv m n sz f hh w D) (hmB : m < B) (hs : s.size ≤ 1048576) (hf1 : 1 ≤ f s.data.toList) (hf2 : f s.data.toList ≤ 65536) (hhs : hh s.data.toList = true)
    (hn : n ≤ 16777216) (hl : l.length + s.size + 3 ≤ 16777216) (hk : els.length ≤ 65536) :
    Calls Try.prog 22 #[.pointer (some ⟨rb, 0, none⟩)] w fun e w' => e = .returned (.string s) ∧ RInv B rb m (l ++ tag s t) els w' ∧ (∃ D', CInv m (n + 1) sz (fun y => if y = s.data.toList then f y - 1 else f y) hh w' D') ∧ BelowBut B m w w' := by
  rcases h with h | h
  · exact close_core B rb m n sz _ l els s t f hh D w h (fun _ _ h => Or.inl h) hc hmB hs hf1 hf2 hhs hn hl hk
  · exact close_core B rb m n sz _ l els s t f hh D w h (fun _ _ h => Or.inr h) hc hmB hs hf1 hf2 hhs hn hl hk

set_option maxHeartbeats 400000 in
theorem close13_any (B rb m n sz : Nat) (l : List UInt8) (els : List (ByteArray × Bool)) (s : ByteArray) (t : Bool) (f : List UInt8 → Int) (hh : List UInt8 → Bool) (D : DataW Unit) (w : World)
    (h : RInv B rb m l (els ++ [(s, t)]) w) (hc : CInv m n sz f hh w D) (hmB : m < B) (hs : s.size ≤ 1048576) (hf1 : 1 ≤ f s.data.toList) (hf2 : f s.data.toList ≤ 65536) (hhs : hh s.data.toList = true)
    (hn : n ≤ 16777216) (hl : l.length + s.size + 3 ≤ 16777216) (hk : els.length ≤ 65536) :
    Calls Try.prog 13 #[.pointer (some ⟨rb, 0, none⟩)] w fun e w' => e = .returned (.string s) ∧ RInv B rb m (l ++ tag s t) els w' ∧ (∃ D', CInv m (n + 1) sz (fun y => if y = s.data.toList then f y - 1 else f y) hh w' D') ∧ BelowBut B m w w' := by
  have H := Hid.mk h
  have HC := Hid.mk hc
  have HF1 := Hid.mk hf1
  have HF2 := Hid.mk hf2
  have HH := Hid.mk hhs
  clear h hc hf1 hf2 hhs
  go_enter Try.func13, Try.ntmps13
  go_wp2_with fail
  refine (close_any B rb m n sz l els s t f hh D _ H.out HC.out hmB hs HF1.out HF2.out HH.out hn hl hk).mono ?_
  rintro e w' ⟨rfl, h1, h2, h3⟩
  have H1 := Hid.mk h1
  have H2 := Hid.mk h2
  have H3 := Hid.mk h3
  clear h1 h2 h3
  go_wp2
  go_ret
  exact ⟨rfl, H1.out, H2.out, H3.out⟩

end Go.Proofs.Qxb6602872a
