/-
  The reducer in its block; its Builder (a field of it): copyCheck, WriteString, String.
-/
import Derived.Test.Qxb6602872aClone
import Derived.Lib.Builder
import Derived.Lib.AppendStr
import Derived.Lib.UnsafeStr
import Derived.Laws.Externs
import Derived.WalkSmall
namespace Go.Proofs.Qxb6602872a
open Go.RowKit

theorem Try.info5 : (Try.prog.info? 5).map (fun i => (i.zero, i.size, i.bytes)) = some (some (Value.int .u8 0), 1, 1) := by kernel_rfl
theorem Try.info42 : (Try.prog.info? 42).map (fun i => i.size) = some 2 := by kernel_rfl
theorem Try.lies42 : liesAt Try.prog Try.prog.depth 45 (10 / Try.prog.cellsOf 45) 2 42 1 = true := by kernel_rfl

/-- The reducer's ten cells. -/
def redCells (p buf opn : Value) (m : Nat) : Array Value := #[.string ⟨#[]⟩, .int .i64 0, p, buf, .pointer none, .slice none 0 0, opn, .map (some m), .bool false, .bool false]
def elCells (els : List (ByteArray × Bool)) : List Value := els.flatMap (fun e => [.string e.1, .bool e.2])
def selfP (rb : Nat) : Value := .pointer (some ⟨rb, 2, none⟩)

/-- The reducer in block rb, its Builder's pointer p: it has written l; its open elements are els; its map is block m; all that it owns lies from B on. -/
def RAt (B rb m : Nat) (p : Value) (l : List UInt8) (els : List (ByteArray × Bool)) (w : World) : Prop :=
  B ≤ rb ∧ B ≤ w.heap.size ∧ ∃ buf opn, w.heap[rb]? = some (.cells (redCells p buf opn m) 45 (0, 0)) ∧ w.ownsRow B 5 1 buf l.length (Lib.byteCells l) ∧ w.ownsRow B 54 2 opn els.length (elCells els)
def RInv (B rb m : Nat) (l : List UInt8) (els : List (ByteArray × Bool)) (w : World) : Prop :=
  RAt B rb m (.pointer none) l els w ∨ RAt B rb m (selfP rb) l els w

theorem elCells_length (els : List (ByteArray × Bool)) : (elCells els).length = els.length * 2 := by
  induction els with
  | nil => rfl
  | cons e els ih => simp only [elCells, List.flatMap_cons, List.length_append] at *; simp [ih]; omega

theorem block_lt {w : World} {b : Nat} {o : Obj} (h : w.heap[b]? = some o) : b < w.heap.size := (Array.getElem?_eq_some_iff.1 h).1

theorem own_ne {w : World} {B : Nat} {e T : TypeId} {size : Nat} {v : Value} {n : Nat} {xs : List Value} {b : Nat} {cs : Array Value} {fr : Nat × Nat} (hown : w.ownsRow B e size v n xs) (hb : w.heap[b]? = some (.cells cs T fr)) (hTe : T ≠ e) : v.ownBlock ≠ some b := by
  rcases hown.2 with ⟨rfl, _⟩ | ⟨g, cap, cur, rfl, _, hg, _⟩
  · simp [Value.ownBlock]
  · intro h
    simp only [Value.ownBlock, Option.some.injEq] at h
    subst h
    rw [hg] at hb
    simp only [Option.some.injEq, Obj.cells.injEq] at hb
    exact hTe hb.2.1.symm

theorem own_ne2 {w : World} {B B' : Nat} {e T : TypeId} {size size' : Nat} {v u : Value} {n n' : Nat} {xs ys : List Value} (hown : w.ownsRow B e size v n xs) (hown' : w.ownsRow B' T size' u n' ys) (hTe : T ≠ e) : v.ownBlock = none ∨ v.ownBlock ≠ u.ownBlock := by
  rcases hown'.2 with ⟨rfl, _⟩ | ⟨g, cap, cur, rfl, _, hg, _⟩
  · cases h : v.ownBlock with
    | none => exact Or.inl rfl
    | some k => exact Or.inr (by simp [Value.ownBlock])
  · exact Or.inr (own_ne hown hg hTe)

/-- A row stays owned while a cell of another block is written. -/
theorem own_set {w : World} {B : Nat} {e T : TypeId} {size : Nat} {v : Value} {n : Nat} {xs : List Value} {b : Nat} {cs : Array Value} {fr : Nat × Nat} (hown : w.ownsRow B e size v n xs) (hb : w.heap[b]? = some (.cells cs T fr)) (hTe : T ≠ e) (i : Nat) (u : Value) : (w.setCell ⟨b, i, none⟩ u).ownsRow B e size v n xs :=
  hown.kept (row := some b) ⟨rfl, rfl, rfl, by simp [World.setCell], fun k _ hk => Below.heap_setCell _ _ _ _ (fun e => hk (by simp [e]))⟩ (Or.inr (own_ne hown hb hTe))

theorem set_block {w : World} {b : Nat} {cs : Array Value} {T : TypeId} {fr : Nat × Nat} (hb : w.heap[b]? = some (.cells cs T fr)) (i : Nat) (u : Value) : (w.setCell ⟨b, i, none⟩ u).heap[b]? = some (.cells (cs.setIfInBounds i u) T fr) := by
  simp [World.setCell, Array.getElem?_modify, hb]

set_option maxHeartbeats 1000000 in
theorem copy_used (rb : Nat) (w : World) (h0 : w.cell? ⟨rb, 2, none⟩ = some (selfP rb)) :
    Calls Try.prog 32 #[.pointer (some ⟨rb, 2, none⟩)] w fun e w' => e = .returned (.tuple #[]) ∧ w' = w := by
  obtain ⟨j, hj, _⟩ := Option.map_eq_some_iff.1 Try.info42
  unfold selfP at h0
  go_enter Try.func32, Try.ntmps32
  go_wp2
  rw [Lib.run_neq_ptr_same w _ Try.underlying40 hj]
  go_wp2
  go_end0
  exact ⟨rfl, rfl⟩

theorem to_raw (rb : Nat) (w : World) (hsh : w.shape? rb = some (45, 10)) : (convert 40 65 (.pointer (some ⟨rb, 2, none⟩))).run Try.prog w = .ok (.pointer (some ⟨rb, 2, none⟩)) w := by
  obtain ⟨j, hj, hjs⟩ := Option.map_eq_some_iff.1 Try.info42
  have hj0 : j.size ≠ 0 := by rw [hjs]; decide
  simp [convert, run_underlying Try.underlying40, run_underlying Try.underlying65]
  change Sem.run _ (underlying 40 >>= _) _ = _
  simp [run_underlying Try.underlying40, run_underlying Try.underlying65, Conv.seenAt, viewAt, cellsIn, hsh, sizeOf, typeInfo, hj, hj0]

theorem from_raw (rb : Nat) (w : World) (hsh : w.shape? rb = some (45, 10)) : (convert 65 40 (.pointer (some ⟨rb, 2, none⟩))).run Try.prog w = .ok (.pointer (some ⟨rb, 2, none⟩)) w := by
  obtain ⟨j, hj, _⟩ := Option.map_eq_some_iff.1 Try.info42
  simp [convert, run_underlying Try.underlying40, run_underlying Try.underlying65]
  change Sem.run _ (underlying 65 >>= _) _ = _
  simp [run_underlying Try.underlying40, run_underlying Try.underlying65, Conv.seenAt, viewAt, hsh, variablesAt, Try.lies42, sizeOf, typeInfo, hj]

set_option maxHeartbeats 1000000 in
theorem copy_fresh (rb : Nat) (w : World) (h0 : w.cell? ⟨rb, 2, none⟩ = some (.pointer none)) (hsh : w.shape? rb = some (45, 10)) (hfz : w.frozen? ⟨rb, 2, none⟩ = false) :
    Calls Try.prog 32 #[.pointer (some ⟨rb, 2, none⟩)] w fun e w' => e = .returned (.tuple #[]) ∧ w' = w.setCell ⟨rb, 2, none⟩ (selfP rb) := by
  unfold selfP
  go_enter Try.func32, Try.ntmps32
  go_wp2
  rw [to_raw rb w hsh]
  simp only [Result.andThen]
  rw [Oper.upon_value]
  go_wp2
  rw [run_callFunc_extern Try.func35 (by kernel_rfl) (by kernel_rfl) (by kernel_rfl) (e := Extern.AbiNoEscape.same) (by kernel_rfl)]
  rw [Lib.run_noEscape]
  simp only [Result.andThen]
  rw [Oper.upon_value]
  go_wp2
  rw [from_raw rb w hsh]
  simp only [Result.andThen]
  rw [Oper.upon_value]
  go_wp2
  go_end0
  exact ⟨rfl, rfl⟩

theorem RAt.cells {B rb m : Nat} {p : Value} {l : List UInt8} {els : List (ByteArray × Bool)} {w : World} (h : RAt B rb m p l els w) : w.cell? ⟨rb, 2, none⟩ = some p ∧ w.shape? rb = some (45, 10) ∧ (∀ j, w.frozen? ⟨rb, j, none⟩ = false) ∧ rb < w.heap.size := by
  obtain ⟨_, _, buf, opn, hb, _⟩ := h
  refine ⟨by simp [World.cell?, hb, redCells], by simp [World.shape?, hb, redCells], fun j => by simp [World.frozen?, hb], block_lt hb⟩

/-- Rows of another make than bytes, beside the reducer's own block, stay. -/
def Kp (rb : Nat) (w w' : World) : Prop := ∀ k c t fr, w.heap[k]? = some (.cells c t fr) → t ≠ 5 → k ≠ rb → w'.heap[k]? = w.heap[k]?
theorem Kp.refl (rb : Nat) (w : World) : Kp rb w w := fun _ _ _ _ _ _ _ => rfl
theorem Kp.trans {rb : Nat} {w w' w'' : World} (h : Kp rb w w') (h' : Kp rb w' w'') : Kp rb w w'' := fun k c t fr hk ht hr => by
  have e := h k c t fr hk ht hr
  rw [h' k c t fr (e.trans hk) ht hr, e]
theorem Kp.set (rb : Nat) (w : World) (i : Nat) (u : Value) : Kp rb w (w.setCell ⟨rb, i, none⟩ u) := fun _ _ _ _ _ _ hr => Below.heap_setCell _ _ _ _ hr
theorem Kp.grown {rb : Nat} {w w' : World} {B n : Nat} {v : Value} {xs : List Value} (hown : w.ownsRow B 5 1 v n xs) (hg : w.grownBy w' v.ownBlock) : Kp rb w w' := fun k _ _ _ hk ht _ =>
  hg.block k (block_lt hk) (fun e => own_ne hown hk ht e.symm)

/-- copyCheck: the Builder is used thereafter. -/
theorem copy_any (B rb m : Nat) (l : List UInt8) (els : List (ByteArray × Bool)) (w : World) (h : RInv B rb m l els w) :
    Calls Try.prog 32 #[.pointer (some ⟨rb, 2, none⟩)] w fun e w' => e = .returned (.tuple #[]) ∧ RAt B rb m (selfP rb) l els w' ∧ Below B w w' ∧ Kp rb w w' := by
  rcases h with h | h
  · have hc := h.cells
    refine (copy_fresh rb w hc.1 hc.2.1 (hc.2.2.1 2)).mono fun e w' ⟨he, hw⟩ => ?_
    subst hw
    obtain ⟨hB, hBw, buf, opn, hb, h1, h2⟩ := h
    exact ⟨he, ⟨hB, by simpa [World.setCell] using hBw, buf, opn, by rw [set_block hb]; rfl, own_set h1 hb (by decide) _ _, own_set h2 hb (by decide) _ _⟩, (Below.refl B w).setCell (p := ⟨rb, 2, none⟩) hB _, Kp.set _ _ _ _⟩
  · refine (copy_used rb w h.cells.1).mono fun e w' ⟨he, hw⟩ => ?_
    subst hw
    exact ⟨he, h, Below.refl _ _, Kp.refl _ _⟩

theorem write_facts {w1 w2 : World} {B rb m n n2 : Nat} {p v v' opn : Value} {xs ys : List Value} (hbk : w1.heap[rb]? = some (.cells (redCells p v opn m) 45 (0, 0))) (hown : w1.ownsRow B 5 1 v n xs) (hg : w1.grownBy w2 v.ownBlock) (hown' : w2.ownsRow B 5 1 v' n2 ys) :
    Hid (w2.heap[rb]? = some (.cells (redCells p v opn m) 45 (0, 0))) ∧ ∃ ao n' cap, v' = .slice ao n' cap ∧ w2.cell? ⟨rb, 2, none⟩ = some p ∧ w2.cell? ⟨rb, 3, none⟩ = some v ∧ w2.frozen? ⟨rb, 3, none⟩ = false := by
  have h2 : w2.heap[rb]? = some (.cells (redCells p v opn m) 45 (0, 0)) := by
    rw [hg.block rb (block_lt hbk) (fun e => own_ne hown hbk (by decide) e.symm)]; exact hbk
  refine ⟨h2, ?_⟩
  rcases hown'.2 with ⟨hv, _⟩ | ⟨g, cap, cur, hv, _⟩
  · exact ⟨_, _, _, hv, by simp [World.cell?, h2, redCells], by simp [World.cell?, h2, redCells], by simp [World.frozen?, h2]⟩
  · exact ⟨_, _, _, hv, by simp [World.cell?, h2, redCells], by simp [World.cell?, h2, redCells], by simp [World.frozen?, h2]⟩

set_option maxHeartbeats 1000000 in
/-- (*strings.Builder).WriteString on the reducer's Builder. -/
theorem write_any (B rb m : Nat) (l : List UInt8) (els : List (ByteArray × Bool)) (s : ByteArray) (w : World) (h : RInv B rb m l els w) (hlen : l.length + s.size ≤ 16777216) :
    Calls Try.prog 21 #[.pointer (some ⟨rb, 2, none⟩), .string s] w fun e w' => e = .returned (.tuple #[.int .i64 s.size, .nilIface]) ∧ RAt B rb m (selfP rb) (l ++ s.data.toList) els w' ∧ Below B w w' ∧ Kp rb w w' := by
  obtain ⟨i0, hi, hz0, hz1, hz2⟩ := info_parts Try.info5
  have H := Hid.mk h
  clear h
  go_enter Try.func21, Try.ntmps21
  go_wp2_with fail
  refine (copy_any B rb m l els _ H.out).mono ?_
  rintro e w1 ⟨rfl, h1, hb1, hkp⟩
  have HKP := Hid.mk hkp
  clear hkp
  obtain ⟨hB, hBw, v, opn, hbk, hown, hopn⟩ := h1
  have c2 : w1.cell? ⟨rb, 2, none⟩ = some (selfP rb) := by simp [World.cell?, hbk, redCells]
  have c3 : w1.cell? ⟨rb, 3, none⟩ = some v := by simp [World.cell?, hbk, redCells]
  have HB1 := Hid.mk hb1
  have HOPN := Hid.mk hopn
  have HBK := Hid.mk hbk
  have HOWN := Hid.mk hown
  unfold selfP at c2
  clear hb1 hopn hbk hown
  go_wp2_with (at_builtin; refine Lib.wpList_append_own_string _ rfl _ _ 37 9 rfl B 5 i0 Try.underlying37 Try.underlying9 hi hz0 hz1 hz2 _ _ _ rfl HOWN.out s rfl (by unfold maxLen; omega) (by omega) hBw ?_; intro v' w2 hown' hgrow _; obtain ⟨HBK2, ao, n', cap, rfl, d2, d3, f3⟩ := write_facts HBK.out HOWN.out hgrow hown'; have HOWN' := Hid.mk hown'; have HG := Hid.mk hgrow; unfold selfP at d2; clear hown' hgrow)
  go_ret2
  refine ⟨rfl, ⟨hB, ?_, .slice ao n' cap, opn, ?_, ?_, ?_⟩, ?_, (HKP.out.trans (Kp.grown HOWN.out HG.out)).trans (Kp.set _ _ _ _)⟩
  · have := HG.out.size
    simp [World.setCell]
    omega
  · rw [set_block HBK2.out]; rfl
  · have h1 := own_set HOWN'.out HBK2.out (by decide) 3 (.slice ao n' cap)
    rw [Lib.byteCells_append, ← Lib.strCells_eq, List.length_append]
    exact h1
  · exact own_set (HOPN.out.kept HG.out (own_ne2 HOPN.out HOWN.out (by decide))) HBK2.out (by decide) _ _
  · exact (HB1.out.grown HG.out hBw (fun k hk => (HOWN.out.lt k hk).1)).setCell (p := ⟨rb, 3, none⟩) hB _
end Go.Proofs.Qxb6602872a
