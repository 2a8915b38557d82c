/-
  Slices of strings and of bools: views; the two bounds (zzBytes, fitsOpenB1); the two clones.
-/
import Derived.Test.Qxb6602872aRows
import Derived.WalkKit
import Derived.WalkSpells
import Derived.WalkLawsBesides
import Derived.Lib.SliceRun
import Derived.Deep.OwnRows
namespace Go.Proofs.Qxb6602872a
open Go.RowKit

theorem Hid.mk {p : Prop} (h : p) : Hid p := h

def noS : ByteArray := ByteArray.empty
def sumSz (ns : List ByteArray) : Nat := (ns.map (·.size)).sum

theorem take_snoc {α : Type} (l : List α) (z : α) (k : Nat) (h : k < l.length) : l.take (k + 1) = l.take k ++ [l.getD k z] := by
  rw [List.take_succ_eq_append_getElem h]
  simp [List.getD_eq_getElem?_getD, h]
theorem sumSz_snoc (l : List ByteArray) (s : ByteArray) : sumSz (l ++ [s]) = sumSz l + s.size := by
  simp [sumSz]
theorem sumSz_take_le (l : List ByteArray) (k : Nat) : sumSz (l.take k) ≤ sumSz l := by
  have : sumSz l = sumSz (l.take k) + sumSz (l.drop k) := by
    unfold sumSz
    rw [← List.sum_append, ← List.map_append, List.take_append_drop]
  omega

theorem cell_lt {w : World} {a : Addr} {v : Value} (h : w.cell? a = some v) : a.block < w.heap.size := by
  unfold World.cell? at h
  apply Classical.byContradiction
  intro hn
  rw [Array.getElem?_eq_none (by omega)] at h
  cases hs : a.spot <;> simp_all

theorem addr_add (b off i : Nat) : (⟨b, off, none⟩ : Addr).add i = ⟨b, off + i, none⟩ := by
  unfold Addr.add
  by_cases h : i = 0
  · subst h; simp
  · simp [h]

/-- A slice that came in, its cells 'f i' up to the capacity. -/
def InRow (w : World) (a : Option Addr) (len cap : Nat) (f : Nat → Value) : Prop :=
  (a = none ∧ len = 0 ∧ cap = 0) ∨ ∃ x, a = some x ∧ len ≤ cap ∧ cap ≤ maxLen ∧ ∀ i, i < len → w.cell? (x.add i) = some (f i)

theorem InRow.len_bd {w : World} {a : Option Addr} {len cap : Nat} {f : Nat → Value} (h : InRow w a len cap f) : len ≤ maxLen := by
  rcases h with ⟨_, h, _⟩ | ⟨x, _, h1, h2, _⟩ <;> omega

theorem InRow.later {B : Nat} {w w' : World} {a : Option Addr} {len cap : Nat} {f : Nat → Value} (h : InRow w a len cap f) (hb : Below B w w') (hB : w.heap.size ≤ B) : InRow w' a len cap f := by
  rcases h with h | ⟨x, hx, h1, h2, h3⟩
  · exact Or.inl h
  · exact Or.inr ⟨x, hx, h1, h2, fun i hi => (hb.cell (Nat.lt_of_lt_of_le (cell_lt (h3 i hi)) hB)).trans (h3 i hi)⟩

/-- Where there is an element: the block, the offset, the cells. -/
theorem InRow.at {w : World} {a : Option Addr} {len cap : Nat} {f : Nat → Value} (h : InRow w a len cap f) {k : Nat} (hk : k < len) :
    ∃ b off, a = some ⟨b, off, none⟩ ∧ b < w.heap.size ∧ ∀ i, i < len → w.cell? ⟨b, off + i, none⟩ = some (f i) := by
  rcases h with ⟨_, h, _⟩ | ⟨x, rfl, _, _, h3⟩
  · omega
  · obtain ⟨b, off, spot⟩ := x
    have hc := h3 0 (by omega)
    have hspot : spot = none := by simpa [Addr.add] using World.cell?_spot hc
    subst hspot
    exact ⟨b, off, rfl, cell_lt hc, fun i hi => by have := h3 i hi; rwa [addr_add] at this⟩

/-- A row of the call's own, where there is an element. -/
def Rv (w : World) (a : Option Addr) (len : Nat) (f : Nat → Value) : Prop :=
  ∀ i, i < len → ∃ b, a = some ⟨b, 0, none⟩ ∧ b < w.heap.size ∧ w.cell? ⟨b, i, none⟩ = some (f i)

theorem Rv.later {B : Nat} {w w' : World} {a : Option Addr} {len : Nat} {f : Nat → Value} (h : Rv w a len f) (hb : Below B w w') (hB : w.heap.size ≤ B) : Rv w' a len f := fun i hi => by
  obtain ⟨b, ha, hlt, hc⟩ := h i hi
  exact ⟨b, ha, by have := hb.size; omega, (hb.cell (p := ⟨b, i, none⟩) (by show b < B; omega)).trans hc⟩

def cS (ns : List ByteArray) (i : Nat) : Value := .string (ns.getD i noS)
def cB (ks : List Bool) (i : Nat) : Value := .bool (ks.getD i false)

theorem size_ok {ns : List ByteArray} (h : ∀ s ∈ ns, s.size ≤ maxLen) (k : Nat) : (ns.getD k noS).size ≤ maxLen := by
  rw [List.getD_eq_getElem?_getD]
  by_cases hk : k < ns.length
  · rw [List.getElem?_eq_getElem hk]; exact h _ (List.getElem_mem hk)
  · rw [List.getElem?_eq_none (by omega)]; simp [noS]

/-- A bool comes back; where it is true, T holds. -/
def IsB (T : Prop) (e : Ending) : Prop := ∃ b, e = .returned (.bool b) ∧ (b = true → T)

set_option maxHeartbeats 1000000 in
/-- zzBytes: some answer; nothing turns. -/
theorem zz8_any (a0 a1 : Option Addr) (cap0 len1 cap1 : Nat) (ns : List ByteArray) (p : ByteArray) (w : World) (h0 : InRow w a0 ns.length cap0 (cS ns)) (hs : ∀ s ∈ ns, s.size ≤ maxLen) (h1 : len1 ≤ maxLen) (hp : p.size ≤ maxLen) :
    Calls Try.prog 8 #[.slice a0 ns.length cap0, .slice a1 len1 cap1, .string p] w fun e w' => IsB True e ∧ w' = w := by
  have hl := h0.len_bd
  have H0 := Hid.mk h0
  have HS := Hid.mk hs
  unfold maxLen at hl h1 hp
  clear h0 hs
  by_cases c0 : ns.length ≤ 1048576
  · go_enter Try.func8, Try.ntmps8
    go_wp2
    go_loop [7, 8] (fun z i => ∃ k t : Nat, k ≤ ns.length ∧ t ≤ 1048576 ∧ i = .int .i64 k ∧ z = .int .i64 t) (fun _ i => ns.length - (intOf i).toNat)
    case atStart => exact ⟨0, ns.length, Nat.zero_le _, c0, rfl, by simp⟩
    case round =>
      obtain ⟨k, t, hk, ht, rfl, rfl⟩ := hrel
      by_cases hlt : k < ns.length
      · obtain ⟨b, off, rfl, hb, hc⟩ := H0.out.at hlt
        have hck := hc k hlt
        have hsk := size_ok HS.out k
        unfold maxLen at hsk
        rw [cS] at hck
        obtain ⟨s, hsn⟩ : ∃ s, s = ns.getD k noS := ⟨_, rfl⟩
        rw [← hsn] at hck hsk
        clear hc hsn
        by_cases c1 : s.size ≤ 1048576
        · by_cases c2 : t + s.size ≤ 1048576
          · go_wp2
            go_round
            case rel => exact ⟨k + 1, t + s.size, by omega, c2, by go_num, by go_num⟩
            case measure => simp [intOf]; omega
          · go_wp2
            go_ret
            exact ⟨⟨_, rfl, fun _ => trivial⟩, rfl⟩
        · go_wp2
          go_ret
          exact ⟨⟨_, rfl, fun _ => trivial⟩, rfl⟩
      · by_cases c1 : len1 ≤ 1048576
        · by_cases c2 : t + len1 ≤ 1048576
          · by_cases c3 : p.size ≤ 1048576
            · by_cases c4 : t + len1 + p.size ≤ 1048576
              · go_wp2
                go_ret
                exact ⟨⟨_, rfl, fun _ => trivial⟩, rfl⟩
              · go_wp2
                go_ret
                exact ⟨⟨_, rfl, fun _ => trivial⟩, rfl⟩
            · go_wp2
              go_ret
              exact ⟨⟨_, rfl, fun _ => trivial⟩, rfl⟩
          · go_wp2
            go_ret
            exact ⟨⟨_, rfl, fun _ => trivial⟩, rfl⟩
        · go_wp2
          go_ret
          exact ⟨⟨_, rfl, fun _ => trivial⟩, rfl⟩
  · go_enter Try.func8, Try.ntmps8
    go_wp2
    go_ret
    exact ⟨⟨_, rfl, fun _ => trivial⟩, rfl⟩

theorem isB_no {T : Prop} : IsB T (.returned (.bool false)) := ⟨_, rfl, fun h => by cases h⟩
theorem isB_if {T : Prop} {b : Bool} (h : b = true → T) : IsB T (.returned (.bool b)) := ⟨_, rfl, h⟩

set_option maxHeartbeats 1000000 in
/-- fitsOpenB1: where it says yes, all is small. -/
theorem fits_any (a0 a1 : Option Addr) (cap0 len1 cap1 : Nat) (ns : List ByteArray) (p q : ByteArray) (w : World) (h0 : InRow w a0 ns.length cap0 (cS ns)) (hs : ∀ s ∈ ns, s.size ≤ maxLen) (h1 : len1 ≤ maxLen) (hp : p.size ≤ maxLen) (hq : q.size ≤ maxLen) :
    Calls Try.prog 9 #[.slice a0 ns.length cap0, .slice a1 len1 cap1, .string p, .string q] w fun e w' => IsB (16 * ns.length + len1 + p.size + q.size + sumSz ns ≤ 1048576) e ∧ w' = w := by
  have hl := h0.len_bd
  have H0 := Hid.mk h0
  have HS := Hid.mk hs
  unfold maxLen at hl h1 hp hq
  clear h0 hs
  by_cases c0 : ns.length ≤ 65536
  · by_cases c1 : len1 ≤ 1048576
    · by_cases c2 : p.size ≤ 1048576
      · by_cases c3 : q.size ≤ 1048576
        · go_enter Try.func9, Try.ntmps9
          go_wp2
          go_loop [9, 10] (fun z i => ∃ k t : Nat, k ≤ ns.length ∧ t ≤ 4194304 ∧ i = .int .i64 k ∧ z = .int .i64 t ∧ Hid (t = 16 * ns.length + len1 + p.size + q.size + sumSz (ns.take k))) (fun _ i => ns.length - (intOf i).toNat)
          case atStart => exact ⟨0, 16 * ns.length + len1 + p.size + q.size, Nat.zero_le _, by omega, rfl, by go_num, by simp [Hid, sumSz]⟩
          case round =>
            obtain ⟨k, t, hk, ht, rfl, rfl, HT⟩ := hrel
            by_cases hlt : k < ns.length
            · obtain ⟨b, off, rfl, hb, hc⟩ := H0.out.at hlt
              have hck := hc k hlt
              have hsk := size_ok HS.out k
              unfold maxLen at hsk
              rw [cS] at hck
              obtain ⟨s, hsn⟩ : ∃ s, s = ns.getD k noS := ⟨_, rfl⟩
              rw [← hsn] at hck hsk
              have HSN := Hid.mk hsn
              clear hc hsn
              by_cases d1 : s.size ≤ 1048576
              · by_cases d2 : t + s.size ≤ 1048576
                · go_wp2
                  go_round
                  case rel => exact ⟨k + 1, t + s.size, by omega, by omega, by go_num, by go_num, by show _ = _; rw [take_snoc ns noS k hlt, sumSz_snoc, ← HSN.out, HT.out]; omega⟩
                  case measure => simp [intOf]; omega
                · go_wp2
                  go_ret
                  exact ⟨isB_no, rfl⟩
              · go_wp2
                go_ret
                exact ⟨isB_no, rfl⟩
            · have HE : Hid (t = 16 * ns.length + len1 + p.size + q.size + sumSz ns) := by
                have := HT.out
                rwa [show k = ns.length by omega, List.take_length] at this
              clear HT
              go_wp2
              go_ret
              exact ⟨isB_if (fun h => by have := HE.out; simp at h; omega), rfl⟩
        · go_enter Try.func9, Try.ntmps9
          go_wp2
          go_ret
          exact ⟨isB_no, rfl⟩
      · go_enter Try.func9, Try.ntmps9
        go_wp2
        go_ret
        exact ⟨isB_no, rfl⟩
    · go_enter Try.func9, Try.ntmps9
      go_wp2
      go_ret
      exact ⟨isB_no, rfl⟩
  · go_enter Try.func9, Try.ntmps9
    go_wp2
    go_ret
    exact ⟨isB_no, rfl⟩

end Go.Proofs.Qxb6602872a
