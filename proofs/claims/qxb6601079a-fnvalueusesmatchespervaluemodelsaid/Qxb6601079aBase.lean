/-
  WHAT THE LAWS OF THIS SEAT SHARE: a slice of bytes as a plain list of numbers; the contract of cloneBytes.
-/
import Derived.Test.Qxb6601079aRows
import Derived.WalkKit
import Derived.WalkSpells
import Derived.WalkLawsBesides
import Derived.Lib.SliceRun
import Derived.Deep.OwnRows
namespace Go.Proofs.Qxb6601079a
open Go.RowKit

theorem Try.info5 : (Try.prog.info? 5).map (fun i => (i.zero, i.size, i.bytes)) = some (some (Value.int .u8 0), 1, 1) := by kernel_rfl

/-- THE SLICE VALUE v READS AS THE BYTES l in the world w: nil and none; or l.length cells from the head of one block on. -/
def Bts (w : World) (v : Value) (l : List Int) : Prop :=
  (v = .slice none 0 0 ∧ l = []) ∨
  ∃ b cap : Nat, v = .slice (some ⟨b, 0, none⟩) l.length cap ∧ l.length ≤ cap ∧ cap ≤ 2097152 ∧ b < w.heap.size ∧ ∀ i, i < l.length → w.cell? ⟨b, i, none⟩ = some (.int .u8 (l.getD i 0))

/-- .. it does so in every later world that has left the blocks below B alone. -/
theorem Bts.later {B : Nat} {w w' : World} {v : Value} {l : List Int} (h : Bts w v l) (hb : Below B w w') (hB : w.heap.size ≤ B) : Bts w' v l := by
  rcases h with h | ⟨b, cap, hv, hc1, hc2, hlt, hc⟩
  · exact Or.inl h
  · exact Or.inr ⟨b, cap, hv, hc1, hc2, by have := hb.size; omega, fun i hi => (hb.cell (p := ⟨b, i, none⟩) (by show b < B; omega)).trans (hc i hi)⟩

/-- WHAT A LAW'S WALK IS TOLD OF A SLICE OF BYTES THAT CAME IN (the shell's own words). -/
def InRow (k : IntKind) (w : World) (a : Option Addr) (len cap : Nat) (zs : List Int) : Prop :=
  (a = none ∧ len = 0 ∧ cap = 0 ∧ zs = []) ∨
  ∃ x, a = some x ∧ len ≤ cap ∧ cap ≤ maxLen ∧ zs.length = cap ∧ (∀ i, i < zs.length → w.cell? (x.add i) = some (.int k (zs.getD i 0))) ∧ ∀ n ∈ zs, (Lit.int k n).wf = true

theorem cell_lt {w : World} {a : Addr} {v : Value} (h : w.cell? a = some v) : a.block < w.heap.size := by
  unfold World.cell? at h
  apply Classical.byContradiction
  intro hn
  rw [Array.getElem?_eq_none (by omega)] at h
  cases hs : a.spot <;> simp_all

theorem InRow.later {k : IntKind} {B : Nat} {w w' : World} {a : Option Addr} {len cap : Nat} {zs : List Int} (h : InRow k w a len cap zs) (hb : Below B w w') (hB : w.heap.size ≤ B) : InRow k w' a len cap zs := by
  rcases h with h | ⟨x, hx, h1, h2, h3, h4, h5⟩
  · exact Or.inl h
  · exact Or.inr ⟨x, hx, h1, h2, h3, fun i hi => (hb.cell (Nat.lt_of_lt_of_le (cell_lt (h4 i hi)) hB)).trans (h4 i hi), h5⟩

theorem getD_take (l : List Int) (n i : Nat) (h : i < n) : (l.take n).getD i 0 = l.getD i 0 := by
  simp [List.getD_eq_getElem?_getD, h]

theorem make_bytes (n : Nat) (h : n ≤ 2097152) (w : World) :
    (Instr.makeSlice 22 (.int .i64 (n : Int)) (.int .i64 (n : Int))).run Try.prog w = .ok (.slice (some ⟨w.heap.size, 0, none⟩) n n) (w.alloc (.cells (madeCells #[.int .u8 0] n) 5)) :=
  run_make_row' (P := Try.prog) 22 5 (.int .u8 0) 1 Try.underlying22 Try.info5 rfl .i64 .i64 n (by omega) (by omega) w

theorem nil22 (w : World) (a : Option Addr) (n c n' c' : Nat) : (binOp .eql 22 (.slice a n c) (.slice none n' c')).run Try.prog w = .ok (.bool a.isNone) w :=
  Lib.run_eql_slice_nil w _ _ a n c n' c' Try.underlying22

theorem row_step (zs : List Int) (k j : Nat) : (if j = k then Value.int .u8 (zs.getD k 0) else if j < k then .int .u8 (zs.getD j 0) else .int .u8 0) = (if j < k + 1 then Value.int .u8 (zs.getD j 0) else .int .u8 0) := by
  by_cases e : j = k
  · subst e; simp
  · by_cases e2 : j < k
    · simp [e, e2, show j < k + 1 by omega]
    · simp [e, e2, show ¬ j < k + 1 by omega]

theorem addr_add (b off i : Nat) : (⟨b, off, none⟩ : Addr).add i = ⟨b, off + i, none⟩ := by
  unfold Addr.add
  by_cases h : i = 0
  · subst h; simp
  · simp [h]

set_option maxHeartbeats 400000 in
/-- cloneBytes of an empty slice that is not nil. -/
theorem clone_zero (x : Addr) (cap : Nat) (w : World) :
    Calls Try.prog 10 #[.slice (some x) 0 cap] w fun e w' => e = .returned (.slice (some ⟨w.heap.size, 0, none⟩) 0 0) ∧ w'.heap.size = w.heap.size + 1 ∧ Below w.heap.size w w' := by
  have hmk : ∀ w : World, (Instr.makeSlice 22 (.int .i64 0) (.int .i64 0)).run Try.prog w = .ok (.slice (some ⟨w.heap.size, 0, none⟩) 0 0) (w.alloc (.cells (madeCells #[.int .u8 0] 0) 5)) := make_bytes 0 (by omega)
  have hq := nil22
  go_enter Try.func10, Try.ntmps10
  go_wp2
  go_loop [4] (fun i => i = .int .i64 0) (fun _ => 0)
  case atStart => rfl
  case round =>
    subst hrel
    go_wp2
    go_ret
    exact ⟨rfl, by simp, (Below.refl _ _).alloc (Nat.le_refl _) _⟩

set_option maxHeartbeats 1000000 in
/-- cloneBytes of a slice that is not nil: a new row. -/
theorem clone_some (b off len cap : Nat) (zs : List Int) (w : World) (hlen : len ≤ 1048576) (hb : b < w.heap.size)
    (hc : ∀ i, i < len → w.cell? ⟨b, off + i, none⟩ = some (.int .u8 (zs.getD i 0))) :
    Calls Try.prog 10 #[.slice (some ⟨b, off, none⟩) len cap] w fun e w' => e = .returned (.slice (some ⟨w.heap.size, 0, none⟩) len len) ∧ w'.rowIs w.heap.size 5 len (fun i => .int .u8 (zs.getD i 0)) ∧ Below w.heap.size w w' := by
  have hmk := make_bytes len (by omega)
  have hq := nil22
  have HC : Hid (∀ i, i < len → w.cell? ⟨b, off + i, none⟩ = some (.int .u8 (zs.getD i 0))) := hc
  clear hc
  go_enter Try.func10, Try.ntmps10
  go_wp2
  go_loopw [4] (fun i wr => ∃ k : Nat, k ≤ len ∧ i = .int .i64 k ∧ Hid (wr.rowIs w.heap.size 5 len (fun j => if j < k then .int .u8 (zs.getD j 0) else .int .u8 0)) ∧ Hid (Below w.heap.size w wr)) (fun i _ => len - (intOf i).toNat)
  case atStart => exact ⟨0, Nat.zero_le _, rfl, World.rowIs_made w _ _ _, (Below.refl _ _).alloc (Nat.le_refl _) _⟩
  case round =>
    obtain ⟨k, hk, rfl, hrow, hbel⟩ := hrel
    by_cases hlt : k < len
    · have hcx : wr.cell? ⟨b, off + k, none⟩ = some (.int .u8 (zs.getD k 0)) := (hbel.out.cell (p := ⟨b, off + k, none⟩) hb).trans (HC.out k hlt)
      have hcy : wr.cell? ⟨w.heap.size, k, none⟩ = some (.int .u8 0) := by have := hrow.out.cell hlt; simpa using this
      have hfy : wr.frozen? ⟨w.heap.size, k, none⟩ = false := hrow.out.frozen k
      go_wp2
      go_roundw
      case rel => exact ⟨k + 1, by omega, by go_num, (hrow.out.set _ _).congr (fun j _ => row_step zs k j), hbel.out.setCell (Nat.le_refl _) _⟩
      case measure => simp [intOf]; omega
    · go_wp2
      go_ret
      exact ⟨rfl, hrow.out.congr (fun j hj => by simp [show j < k by omega]), hbel.out⟩

set_option maxHeartbeats 400000 in
theorem clone_nil (w : World) : Calls Try.prog 10 #[.slice none 0 0] w fun e w' => e = .returned (.slice none 0 0) ∧ w' = w := by
  have hq := nil22
  go_enter Try.func10, Try.ntmps10
  go_wp2
  go_ret
  exact ⟨rfl, rfl⟩

/-- cloneBytes, whatever the slice: what it gives reads as the argument's elements. -/
theorem clone_any (a : Option Addr) (len cap : Nat) (zs : List Int) (w : World) (h : InRow .u8 w a len cap zs) (hlen : len ≤ 1048576) :
    Calls Try.prog 10 #[.slice a len cap] w fun e w' => ∃ v, e = .returned v ∧ Bts w' v (zs.take len) ∧ Below w.heap.size w w' := by
  rcases h with ⟨rfl, rfl, rfl, rfl⟩ | ⟨x, rfl, h1, _, h3, h4, _⟩
  · exact (clone_nil w).mono fun e w' ⟨he, hw⟩ => ⟨_, he, Or.inl ⟨rfl, rfl⟩, hw ▸ Below.refl _ _⟩
  · by_cases h0 : len = 0
    · subst h0
      exact (clone_zero x cap w).mono fun e w' ⟨he, hs, hb⟩ => ⟨_, he, Or.inr ⟨w.heap.size, 0, rfl, Nat.le_refl _, by omega, by omega, fun i hi => by simp at hi⟩, hb⟩
    · obtain ⟨b, off, spot⟩ := x
      have hc := h4 0 (by omega)
      have hspot : spot = none := by simpa [Addr.add] using World.cell?_spot hc
      subst hspot
      have hl : (zs.take len).length = len := by rw [List.length_take]; omega
      refine (clone_some b off len cap zs w hlen (cell_lt hc) (fun i hi => by have := h4 i (by omega); rwa [addr_add] at this)).mono fun e w' ⟨he, hrow, hb⟩ => ⟨_, he, Or.inr ⟨w.heap.size, len, by rw [hl], by omega, by omega, hrow.lt, fun i hi => ?_⟩, hb⟩
      rw [hl] at hi
      rw [getD_take _ _ _ hi]
      exact hrow.cell hi

end Go.Proofs.Qxb6601079a
