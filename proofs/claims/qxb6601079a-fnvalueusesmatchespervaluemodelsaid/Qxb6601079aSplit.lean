/-
  splitOps: four rows out of one.
-/
import Derived.Test.Qxb6601079aOps
namespace Go.Proofs.Qxb6601079a
open Go.RowKit

theorem Try.info2 : (Try.prog.info? 2).map (fun i => (i.zero, i.size, i.bytes)) = some (some (Value.int .i64 0), 1, 8) := by kernel_rfl
theorem Try.info21 : (Try.prog.info? 21).map (fun i => (i.zero, i.size, i.bytes)) = some (some (Value.int .i32 0), 1, 4) := by kernel_rfl
theorem Try.info4' : (Try.prog.info? 4).map (fun i => (i.zero, i.size, i.bytes)) = some (some (Value.bool false), 1, 1) := by kernel_rfl

theorem make33 (n : Nat) (h : n ≤ 2097152) (w : World) :
    (Instr.makeSlice 33 (.int .i64 (n : Int)) (.int .i64 (n : Int))).run Try.prog w = .ok (.slice (some ⟨w.heap.size, 0, none⟩) n n) (w.alloc (.cells (madeCells #[.int .i64 0] n) 2)) :=
  run_make_row' (P := Try.prog) 33 2 (.int .i64 0) 8 Try.underlying33 Try.info2 rfl .i64 .i64 n (by omega) (by omega) w
theorem make34 (n : Nat) (h : n ≤ 2097152) (w : World) :
    (Instr.makeSlice 34 (.int .i64 (n : Int)) (.int .i64 (n : Int))).run Try.prog w = .ok (.slice (some ⟨w.heap.size, 0, none⟩) n n) (w.alloc (.cells (madeCells #[.int .i32 0] n) 21)) :=
  run_make_row' (P := Try.prog) 34 21 (.int .i32 0) 4 Try.underlying34 Try.info21 rfl .i64 .i64 n (by omega) (by omega) w
theorem make35 (n : Nat) (h : n ≤ 2097152) (w : World) :
    (Instr.makeSlice 35 (.int .i64 (n : Int)) (.int .i64 (n : Int))).run Try.prog w = .ok (.slice (some ⟨w.heap.size, 0, none⟩) n n) (w.alloc (.cells (madeCells #[.bool false] n) 4)) :=
  run_make_row' (P := Try.prog) 35 4 (.bool false) 1 Try.underlying35 Try.info4' rfl .i64 .i64 n (by omega) (by omega) w

/-- A row filled up to k. -/
def upTo (k : Nat) (f : Nat → Value) (z : Value) (j : Nat) : Value := if j < k then f j else z

theorem upTo_zero (f : Nat → Value) (z : Value) (j : Nat) : z = upTo 0 f z j := by simp [upTo]
theorem upTo_step (k : Nat) (f : Nat → Value) (z : Value) (j : Nat) : (if j = k then f k else upTo k f z j) = upTo (k + 1) f z j := by
  unfold upTo
  by_cases e : j = k
  · subst e; simp
  · by_cases e2 : j < k
    · simp [e, e2, show j < k + 1 by omega]
    · simp [e, e2, show ¬ j < k + 1 by omega]
theorem upTo_all (n : Nat) (f : Nat → Value) (z : Value) (j : Nat) (h : j < n) : upTo n f z j = f j := by simp [upTo, h]

def cCall (l : List OpT) (j : Nat) : Value := .int .i64 (l.getD j opZ).call
def cRet (l : List OpT) (j : Nat) : Value := .int .i64 (l.getD j opZ).ret
def cVal (l : List OpT) (j : Nat) : Value := .int .i32 (l.getD j opZ).val
def cPut (l : List OpT) (j : Nat) : Value := .bool (l.getD j opZ).put

set_option maxHeartbeats 1000000 in
theorem split_any (a : Option Addr) (cap : Nat) (l : List OpT) (w : World) (hlen : l.length ≤ 4096) (hv : Ov w a l) :
    Calls Try.prog 21 #[.slice a l.length cap] w fun e w' =>
      e = .returned (.tuple #[.slice (some ⟨w.heap.size, 0, none⟩) l.length l.length, .slice (some ⟨w.heap.size + 1, 0, none⟩) l.length l.length, .slice (some ⟨w.heap.size + 2, 0, none⟩) l.length l.length, .slice (some ⟨w.heap.size + 3, 0, none⟩) l.length l.length]) ∧
      w'.rowIs w.heap.size 2 l.length (cCall l) ∧ w'.rowIs (w.heap.size + 1) 2 l.length (cRet l) ∧ w'.rowIs (w.heap.size + 2) 21 l.length (cVal l) ∧ w'.rowIs (w.heap.size + 3) 4 l.length (cPut l) ∧ Below w.heap.size w w' := by
  have m33 := make33 l.length (by omega)
  have m34 := make34 l.length (by omega)
  have m35 := make35 l.length (by omega)
  have HV : Hid (Ov w a l) := hv
  clear hv
  go_enter Try.func21, Try.ntmps21
  go_wp2
  go_loopw [11] (fun i wr => ∃ k : Nat, k ≤ l.length ∧ i = .int .i64 k ∧ Hid (wr.rowIs w.heap.size 2 l.length (upTo k (cCall l) (.int .i64 0)) ∧ wr.rowIs (w.heap.size + 1) 2 l.length (upTo k (cRet l) (.int .i64 0)) ∧ wr.rowIs (w.heap.size + 2) 21 l.length (upTo k (cVal l) (.int .i32 0)) ∧ wr.rowIs (w.heap.size + 3) 4 l.length (upTo k (cPut l) (.bool false)) ∧ Below w.heap.size w wr)) (fun i _ => l.length - (intOf i).toNat)
  case atStart =>
    refine ⟨0, Nat.zero_le _, rfl, ?_, ?_, ?_, ?_, ?_⟩
    · exact (((((World.rowIs_made w _ _ _).alloc _).alloc _).alloc _).congr (fun j _ => upTo_zero _ _ j))
    · have := (((World.rowIs_made (w.alloc (.cells (madeCells #[.int .i64 0] l.length) 2)) (.int .i64 0) l.length 2).alloc (.cells (madeCells #[.int .i32 0] l.length) 21)).alloc (.cells (madeCells #[.bool false] l.length) 4)).congr (fun j _ => upTo_zero (cRet l) _ j)
      simpa using this
    · have := ((World.rowIs_made ((w.alloc (.cells (madeCells #[.int .i64 0] l.length) 2)).alloc (.cells (madeCells #[.int .i64 0] l.length) 2)) (.int .i32 0) l.length 21).alloc (.cells (madeCells #[.bool false] l.length) 4)).congr (fun j _ => upTo_zero (cVal l) _ j)
      simpa using this
    · have := (World.rowIs_made (((w.alloc (.cells (madeCells #[.int .i64 0] l.length) 2)).alloc (.cells (madeCells #[.int .i64 0] l.length) 2)).alloc (.cells (madeCells #[.int .i32 0] l.length) 21)) (.bool false) l.length 4).congr (fun j _ => upTo_zero (cPut l) _ j)
      simpa using this
    · exact ((((Below.refl _ _).alloc (Nat.le_refl _) _).alloc (by simp) _).alloc (by simp; omega) _).alloc (by simp; omega) _
  case round =>
    obtain ⟨k, hk, rfl, hrows⟩ := hrel
    by_cases hlt : k < l.length
    · obtain ⟨b, rfl, hb, c0, c1, c2, c3⟩ := HV.out.cells hlt
      obtain ⟨r0, r1, r2, r3, hbel⟩ := hrows.out
      have e0 := hbel.cell (p := ⟨b, k * 4, none⟩) hb
      have e1 := hbel.cell (p := ⟨b, k * 4 + 1, none⟩) hb
      have e2 := hbel.cell (p := ⟨b, k * 4 + 2, none⟩) hb
      have e3 := hbel.cell (p := ⟨b, k * 4 + 3, none⟩) hb
      rw [c0] at e0
      rw [c1] at e1
      rw [c2] at e2
      rw [c3] at e3
      obtain ⟨o, ho⟩ : ∃ o, o = l.getD k opZ := ⟨_, rfl⟩
      rw [← ho] at e0 e1 e2 e3
      have HO : Hid (o = l.getD k opZ) := ho
      clear c0 c1 c2 c3 ho
      have d0 := r0.cell hlt
      have d1 := r1.cell hlt
      have d2 := r2.cell hlt
      have d3 := r3.cell hlt
      have f0 := r0.frozen k
      have f1 := r1.frozen k
      have f2 := r2.frozen k
      have f3 := r3.frozen k
      have hne : b ≠ w.heap.size := by omega
      have hne1 : b ≠ w.heap.size + 1 := by omega
      have hne2 : b ≠ w.heap.size + 2 := by omega
      have hne3 : b ≠ w.heap.size + 3 := by omega
      clear r0 r1 r2 r3 hbel
      go_wp2
      go_roundw
      case rel =>
        obtain ⟨r0, r1, r2, r3, hbel⟩ := hrows.out
        refine ⟨k + 1, by omega, by go_num, ?_, ?_, ?_, ?_, ?_⟩
        · exact ((((r0.set k _).setOther (by intro e; simp only at e; omega) _).setOther (by intro e; simp only at e; omega) _).setOther (by intro e; simp only at e; omega) _).congr (fun j _ => by rw [← upTo_step, cCall, ← HO.out])
        · exact (((((r1.setOther (by intro e; simp only at e; omega) _).set k _)).setOther (by intro e; simp only at e; omega) _).setOther (by intro e; simp only at e; omega) _).congr (fun j _ => by rw [← upTo_step, cRet, ← HO.out])
        · exact (((((r2.setOther (by intro e; simp only at e; omega) _).setOther (by intro e; simp only at e; omega) _)).set k _).setOther (by intro e; simp only at e; omega) _).congr (fun j _ => by rw [← upTo_step, cVal, ← HO.out])
        · exact (((((r3.setOther (by intro e; simp only at e; omega) _).setOther (by intro e; simp only at e; omega) _)).setOther (by intro e; simp only at e; omega) _).set k _).congr (fun j _ => by rw [← upTo_step, cPut, ← HO.out])
        · exact (((hbel.setCell (Nat.le_refl _) _).setCell (Nat.le_add_right _ 1) _).setCell (Nat.le_add_right _ 2) _).setCell (Nat.le_add_right _ 3) _
      case measure => simp [intOf]; omega
    · have HK : Hid (k = l.length) := by show k = l.length; omega
      go_wp2
      have e := HK.out
      subst e
      obtain ⟨r0, r1, r2, r3, hbel⟩ := hrows.out
      exact bodyPost_ret (v := .tuple #[.slice (some ⟨w.heap.size, 0, none⟩) l.length l.length, .slice (some ⟨w.heap.size + 1, 0, none⟩) l.length l.length, .slice (some ⟨w.heap.size + 2, 0, none⟩) l.length l.length, .slice (some ⟨w.heap.size + 3, 0, none⟩) l.length l.length]) (by simp [results, Try.results21, go_sem]) rfl
        ⟨rfl, r0.congr (fun j hj => upTo_all _ _ _ j hj), r1.congr (fun j hj => upTo_all _ _ _ j hj), r2.congr (fun j hj => upTo_all _ _ _ j hj), r3.congr (fun j hj => upTo_all _ _ _ j hj), hbel⟩

end Go.Proofs.Qxb6601079a
