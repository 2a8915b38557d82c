/-
  What closeInnermost does to the reducer and to the map, step by step: no walk here.
-/
import Derived.Test.Qxb6602872aNew
namespace Go.Proofs.Qxb6602872a
open Go.RowKit

/-- Below B all is as it was but the map's block m. -/
structure BelowBut (B m : Nat) (w w' : World) : Prop where
  os : w'.os = w.os
  tape : w'.tape = w.tape
  output : w'.output = w.output
  size : w.heap.size ≤ w'.heap.size
  block : ∀ k, k < B → k ≠ m → w'.heap[k]? = w.heap[k]?
theorem BelowBut.refl (B m : Nat) (w : World) : BelowBut B m w w := ⟨rfl, rfl, rfl, Nat.le_refl _, fun _ _ _ => rfl⟩
theorem BelowBut.of {B m : Nat} {w w' : World} (h : Below B w w') : BelowBut B m w w' := ⟨h.os, h.tape, h.output, h.size, fun k hk _ => h.block k hk⟩
theorem BelowBut.trans {B m : Nat} {w w' w'' : World} (h : BelowBut B m w w') (h' : BelowBut B m w' w'') : BelowBut B m w w'' :=
  ⟨h'.os.trans h.os, h'.tape.trans h.tape, h'.output.trans h.output, Nat.le_trans h.size h'.size, fun k hk hm => (h'.block k hk hm).trans (h.block k hk hm)⟩
theorem BelowBut.below {B m N : Nat} {w w' : World} (h : BelowBut B m w w') (hB : N ≤ B) (hm : N ≤ m) : Below N w w' := ⟨h.os, h.tape, h.output, h.size, fun k hk => h.block k (by omega) (by omega)⟩
theorem BelowBut.grown {B m : Nat} {w w' : World} (hg : w.grownBy w' (some m)) (hB : B ≤ w.heap.size) : BelowBut B m w w' := ⟨hg.os, hg.tape, hg.output, hg.size, fun k hk hm => hg.block k (by omega) (by simpa using hm)⟩

theorem own_ne_map {w : World} {B : Nat} {e : TypeId} {size : Nat} {v : Value} {n : Nat} {xs : List Value} {m : Nat} {es : Array MapEntry} {ck : Nat} (hown : w.ownsRow B e size v n xs) (hm : w.heap[m]? = some (.map es ck)) : v.ownBlock ≠ some m := by
  rcases hown.2 with ⟨rfl, _⟩ | ⟨g, cap, cur, rfl, _, hg, _⟩
  · simp [Value.ownBlock]
  · intro h
    simp only [Value.ownBlock, Option.some.injEq] at h
    subst h
    rw [hg] at hm
    simp at hm

theorem RAt.mapped {B rb m : Nat} {p : Value} {l : List UInt8} {els : List (ByteArray × Bool)} {w w' : World} {es : Array MapEntry} {ck : Nat} (h : RAt B rb m p l els w) (hm : w.heap[m]? = some (.map es ck)) (hg : w.grownBy w' (some m)) : RAt B rb m p l els w' := by
  obtain ⟨hB, hBw, buf, opn, hb, h1, h2⟩ := h
  have hne : rb ≠ m := fun e => by subst e; rw [hb] at hm; simp at hm
  exact ⟨hB, Nat.le_trans hBw hg.size, buf, opn, (hg.block rb (block_lt hb) (by simpa using hne)).trans hb, h1.kept hg (Or.inr (own_ne_map h1 hm)), h2.kept hg (Or.inr (own_ne_map h2 hm))⟩

/-- What stands where the last element lies. -/
theorem RAt.last {B rb m : Nat} {p : Value} {l : List UInt8} {els : List (ByteArray × Bool)} {s : ByteArray} {t : Bool} {w : World} (h : RAt B rb m p l (els ++ [(s, t)]) w) :
    ∃ g cap, w.cell? ⟨rb, 6, none⟩ = some (.slice (some ⟨g, 0, none⟩) (els.length + 1) cap) ∧ w.cell? ⟨rb, 7, none⟩ = some (.map (some m)) ∧ w.frozen? ⟨rb, 6, none⟩ = false ∧ els.length + 1 ≤ cap ∧ rb < w.heap.size ∧ g < w.heap.size ∧
      w.cell? ⟨g, els.length * 2, none⟩ = some (.string s) ∧ w.cell? ⟨g, els.length * 2 + 1, none⟩ = some (.bool t) ∧
      ∀ o, RAt B rb m p l els ((w.setCell ⟨rb, 6, none⟩ (.slice (some ⟨g, 0, none⟩) els.length cap)).alloc o) := by
  obtain ⟨hB, hBw, buf, opn, hb, h1, h2⟩ := h
  rw [List.length_append, elCells_snoc] at h2
  have h2' := h2
  rcases h2.2 with ⟨_, hz⟩ | ⟨g, cap, cur, rfl, hbg, hg, hnc, hcm, hcs, _⟩
  · simp at hz
  · simp only [List.length_cons, List.length_nil, Nat.zero_add] at h2 h2' hnc
    have hl := elCells_length els
    refine ⟨g, cap, by simp [World.cell?, hb, redCells], by simp [World.cell?, hb, redCells], by simp [World.frozen?, hb], hnc, block_lt hb, block_lt hg, ?_, ?_, fun o => ?_⟩
    · rw [World.ownsRow.cellAt h2 _ (by omega), List.getElem?_append_right (by omega), hl]; simp
    · rw [World.ownsRow.cellAt h2 _ (by omega), List.getElem?_append_right (by omega), hl, show els.length * 2 + 1 - els.length * 2 = 1 by omega]; simp
    · have h3 := ownsRow_pop (xs := elCells els) (last := [.string s, .bool t]) hl h2
      refine ⟨hB, by simp [World.setCell]; omega, buf, .slice (some ⟨g, 0, none⟩) els.length cap, ?_, (own_set h1 hb (by decide) _ _).alloc _, (own_set h3 hb (by decide) _ _).alloc _⟩
      rw [Below.heap_alloc _ _ _ (by simpa [World.setCell] using block_lt hb), set_block hb]
      rfl

end Go.Proofs.Qxb6602872a
