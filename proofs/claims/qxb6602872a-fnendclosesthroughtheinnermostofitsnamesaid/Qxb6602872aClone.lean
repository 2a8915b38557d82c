/-
  cloneNamesB1, cloneKeptB1: contracts.
-/
import Derived.Test.Qxb6602872aBase
namespace Go.Proofs.Qxb6602872a
open Go.RowKit

theorem Try.info9 : (Try.prog.info? 9).map (fun i => (i.zero, i.size, i.bytes)) = some (some (Value.string ⟨#[]⟩), 1, 16) := by kernel_rfl
theorem Try.info4 : (Try.prog.info? 4).map (fun i => (i.zero, i.size, i.bytes)) = some (some (Value.bool false), 1, 1) := by kernel_rfl

/-- A row filled up to k. -/
def upTo (k : Nat) (f : Nat → Value) (z : Value) (j : Nat) : Value := if j < k then f j else z
theorem upTo_zero (f : Nat → Value) (z : Value) (j : Nat) : z = upTo 0 f z j := by simp [upTo]
theorem upTo_step (k : Nat) (f : Nat → Value) (z : Value) (j : Nat) : (if j = k then f k else upTo k f z j) = upTo (k + 1) f z j := by
  unfold upTo
  by_cases e : j = k
  · subst e; simp
  · by_cases e2 : j < k
    · simp [e, e2, show j < k + 1 by omega]
    · simp [e, e2, show ¬ j < k + 1 by omega]
theorem upTo_all (n : Nat) (f : Nat → Value) (z : Value) (j : Nat) (h : j < n) : upTo n f z j = f j := by simp [upTo, h]


theorem mkS (n : Nat) (h : n ≤ 2097152) (w : World) :
    (Instr.makeSlice 25 (.int .i64 (n : Int)) (.int .i64 (n : Int))).run Try.prog w = .ok (.slice (some ⟨w.heap.size, 0, none⟩) n n) (w.alloc (.cells (madeCells #[.string ⟨#[]⟩] n) 9)) :=
  run_make_row' (P := Try.prog) 25 9 (.string ⟨#[]⟩) 16 Try.underlying25 Try.info9 rfl .i64 .i64 n (by omega) (by omega) w
theorem nil25 (w : World) (a : Option Addr) (n c n' c' : Nat) : (binOp .eql 25 (.slice a n c) (.slice none n' c')).run Try.prog w = .ok (.bool a.isNone) w :=
  Lib.run_eql_slice_nil w _ _ a n c n' c' Try.underlying25

set_option maxHeartbeats 1000000 in
/-- The clone of a slice that is not nil. -/
theorem cloneS_some (x : Addr) (cap : Nat) (l : List ByteArray) (w : World) (hlen : l.length ≤ 1048576) (hin : InRow w (some x) l.length cap (cS l)) :
    Calls Try.prog 10 #[.slice (some x) l.length cap] w fun e w' => e = .returned (.slice (some ⟨w.heap.size, 0, none⟩) l.length l.length) ∧ w'.rowIs w.heap.size 9 l.length (cS l) ∧ Below w.heap.size w w' := by
  have hmk := mkS l.length (by omega)
  have hq := nil25
  have HIN := Hid.mk hin
  clear hin
  go_enter Try.func10, Try.ntmps10
  go_wp2
  go_loopw [4] (fun i wr => ∃ k : Nat, k ≤ l.length ∧ i = .int .i64 k ∧ Hid (wr.rowIs w.heap.size 9 l.length (upTo k (cS l) (.string ⟨#[]⟩))) ∧ Hid (Below w.heap.size w wr)) (fun i _ => l.length - (intOf i).toNat)
  case atStart => exact ⟨0, Nat.zero_le _, rfl, (World.rowIs_made w _ _ _).congr (fun j _ => upTo_zero _ _ j), (Below.refl _ _).alloc (Nat.le_refl _) _⟩
  case round =>
    obtain ⟨k, hk, rfl, hrow, hbel⟩ := hrel
    by_cases hlt : k < l.length
    · obtain ⟨b, off, hx, hb, hc⟩ := HIN.out.at hlt
      simp only [Option.some.injEq] at hx
      subst hx
      have hcx := (hbel.out.cell (p := ⟨b, off + k, none⟩) hb).trans (hc k hlt)
      rw [cS] at hcx
      obtain ⟨s, hs⟩ : ∃ s, s = l.getD k noS := ⟨_, rfl⟩
      rw [← hs] at hcx
      have HS := Hid.mk hs
      have hcy := hrow.out.cell hlt
      have hfy := hrow.out.frozen k
      clear hc hs
      go_wp2
      go_roundw
      case rel => exact ⟨k + 1, by omega, by go_num, (hrow.out.set _ _).congr (fun j _ => by rw [← upTo_step, cS, ← HS.out]), hbel.out.setCell (Nat.le_refl _) _⟩
      case measure => simp [intOf]; omega
    · go_wp2
      go_ret
      exact ⟨rfl, hrow.out.congr (fun j hj => by rw [show k = l.length by omega]; exact upTo_all _ _ _ _ hj), hbel.out⟩

set_option maxHeartbeats 400000 in
theorem cloneS_nil (w : World) : Calls Try.prog 10 #[.slice none 0 0] w fun e w' => e = .returned (.slice none 0 0) ∧ w' = w := by
  have hq := nil25
  go_enter Try.func10, Try.ntmps10
  go_wp2
  go_ret
  exact ⟨rfl, rfl⟩

theorem cloneS_any (a : Option Addr) (cap : Nat) (l : List ByteArray) (w : World) (hlen : l.length ≤ 1048576) (hin : InRow w a l.length cap (cS l)) :
    Calls Try.prog 10 #[.slice a l.length cap] w fun e w' => ∃ a' cap', e = .returned (.slice a' l.length cap') ∧ Rv w' a' l.length (cS l) ∧ Below w.heap.size w w' := by
  have hin' := hin
  rcases hin with ⟨rfl, h1, rfl⟩ | ⟨x, rfl, _⟩
  · rw [h1]
    exact (cloneS_nil w).mono fun e w' ⟨he, hw⟩ => ⟨none, 0, he, fun i hi => by omega, hw ▸ Below.refl _ _⟩
  · exact (cloneS_some x cap l w hlen hin').mono fun e w' ⟨he, hr, hb⟩ => ⟨_, _, he, fun i hi => ⟨w.heap.size, rfl, hr.lt, hr.cell hi⟩, hb⟩

theorem mkB (n : Nat) (h : n ≤ 2097152) (w : World) :
    (Instr.makeSlice 26 (.int .i64 (n : Int)) (.int .i64 (n : Int))).run Try.prog w = .ok (.slice (some ⟨w.heap.size, 0, none⟩) n n) (w.alloc (.cells (madeCells #[.bool false] n) 4)) :=
  run_make_row' (P := Try.prog) 26 4 (.bool false) 1 Try.underlying26 Try.info4 rfl .i64 .i64 n (by omega) (by omega) w
theorem nil26 (w : World) (a : Option Addr) (n c n' c' : Nat) : (binOp .eql 26 (.slice a n c) (.slice none n' c')).run Try.prog w = .ok (.bool a.isNone) w :=
  Lib.run_eql_slice_nil w _ _ a n c n' c' Try.underlying26

set_option maxHeartbeats 1000000 in
/-- The clone of a slice that is not nil. -/
theorem cloneB_some (x : Addr) (cap : Nat) (l : List Bool) (w : World) (hlen : l.length ≤ 1048576) (hin : InRow w (some x) l.length cap (cB l)) :
    Calls Try.prog 11 #[.slice (some x) l.length cap] w fun e w' => e = .returned (.slice (some ⟨w.heap.size, 0, none⟩) l.length l.length) ∧ w'.rowIs w.heap.size 4 l.length (cB l) ∧ Below w.heap.size w w' := by
  have hmk := mkB l.length (by omega)
  have hq := nil26
  have HIN := Hid.mk hin
  clear hin
  go_enter Try.func11, Try.ntmps11
  go_wp2
  go_loopw [4] (fun i wr => ∃ k : Nat, k ≤ l.length ∧ i = .int .i64 k ∧ Hid (wr.rowIs w.heap.size 4 l.length (upTo k (cB l) (.bool false))) ∧ Hid (Below w.heap.size w wr)) (fun i _ => l.length - (intOf i).toNat)
  case atStart => exact ⟨0, Nat.zero_le _, rfl, (World.rowIs_made w _ _ _).congr (fun j _ => upTo_zero _ _ j), (Below.refl _ _).alloc (Nat.le_refl _) _⟩
  case round =>
    obtain ⟨k, hk, rfl, hrow, hbel⟩ := hrel
    by_cases hlt : k < l.length
    · obtain ⟨b, off, hx, hb, hc⟩ := HIN.out.at hlt
      simp only [Option.some.injEq] at hx
      subst hx
      have hcx := (hbel.out.cell (p := ⟨b, off + k, none⟩) hb).trans (hc k hlt)
      rw [cB] at hcx
      obtain ⟨s, hs⟩ : ∃ s, s = l.getD k false := ⟨_, rfl⟩
      rw [← hs] at hcx
      have HS := Hid.mk hs
      have hcy := hrow.out.cell hlt
      have hfy := hrow.out.frozen k
      clear hc hs
      go_wp2
      go_roundw
      case rel => exact ⟨k + 1, by omega, by go_num, (hrow.out.set _ _).congr (fun j _ => by rw [← upTo_step, cB, ← HS.out]), hbel.out.setCell (Nat.le_refl _) _⟩
      case measure => simp [intOf]; omega
    · go_wp2
      go_ret
      exact ⟨rfl, hrow.out.congr (fun j hj => by rw [show k = l.length by omega]; exact upTo_all _ _ _ _ hj), hbel.out⟩

set_option maxHeartbeats 400000 in
theorem cloneB_nil (w : World) : Calls Try.prog 11 #[.slice none 0 0] w fun e w' => e = .returned (.slice none 0 0) ∧ w' = w := by
  have hq := nil26
  go_enter Try.func11, Try.ntmps11
  go_wp2
  go_ret
  exact ⟨rfl, rfl⟩

theorem cloneB_any (a : Option Addr) (cap : Nat) (l : List Bool) (w : World) (hlen : l.length ≤ 1048576) (hin : InRow w a l.length cap (cB l)) :
    Calls Try.prog 11 #[.slice a l.length cap] w fun e w' => ∃ a' cap', e = .returned (.slice a' l.length cap') ∧ Rv w' a' l.length (cB l) ∧ Below w.heap.size w w' := by
  have hin' := hin
  rcases hin with ⟨rfl, h1, rfl⟩ | ⟨x, rfl, _⟩
  · rw [h1]
    exact (cloneB_nil w).mono fun e w' ⟨he, hw⟩ => ⟨none, 0, he, fun i hi => by omega, hw ▸ Below.refl _ _⟩
  · exact (cloneB_some x cap l w hlen hin').mono fun e w' ⟨he, hr, hb⟩ => ⟨_, _, he, fun i hi => ⟨w.heap.size, rfl, hr.lt, hr.cell hi⟩, hb⟩

end Go.Proofs.Qxb6602872a
