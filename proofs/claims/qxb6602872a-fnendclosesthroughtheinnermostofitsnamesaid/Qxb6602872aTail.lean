/-
  What the second law's own loops hold: the last place of a name; the tail of tags. No walk here.
-/
import Derived.Test.Qxb6602872aEnd
import Derived.Laws.IdiomStrings
import Derived.Laws.BytesArg
namespace Go.Proofs.Qxb6602872a
open Go.RowKit

/-- z is the last place below k that holds the name; -1 where none does. -/
def Lst (ns : List ByteArray) (q : List UInt8) (k : Nat) (z : Int) : Prop :=
  (z = -1 ∧ ∀ i, i < k → (ns.getD i noS).data.toList ≠ q) ∨ ∃ j : Nat, z = (j : Int) ∧ j < k ∧ (ns.getD j noS).data.toList = q ∧ ∀ i, j < i → i < k → (ns.getD i noS).data.toList ≠ q
theorem Lst.start (ns : List ByteArray) (q : List UInt8) : Lst ns q 0 (-1) := Or.inl ⟨rfl, fun i hi => by omega⟩
theorem Lst.miss {ns : List ByteArray} {q : List UInt8} {k : Nat} {z : Int} (h : Lst ns q k z) (hk : (ns.getD k noS).data.toList ≠ q) : Lst ns q (k + 1) z := by
  rcases h with ⟨h1, h2⟩ | ⟨j, h1, h2, h3, h4⟩
  · refine Or.inl ⟨h1, fun i hi => ?_⟩
    by_cases e : i = k
    · subst e; exact hk
    · exact h2 i (by omega)
  · refine Or.inr ⟨j, h1, by omega, h3, fun i hi1 hi2 => ?_⟩
    by_cases e : i = k
    · subst e; exact hk
    · exact h4 i hi1 (by omega)
theorem Lst.hit {ns : List ByteArray} {q : List UInt8} {k : Nat} (hk : (ns.getD k noS).data.toList = q) : Lst ns q (k + 1) (k : Int) :=
  Or.inr ⟨k, rfl, by omega, hk, fun i h1 h2 => by omega⟩
theorem Lst.done {ns : List ByteArray} {q : List UInt8} {z : Int} (h : Lst ns q ns.length z) : ∃ st, Stay ns q st ∧ ((z < 0 ∧ (ns.length : Int) = (st : Int)) ∨ (0 ≤ z ∧ z = (st : Int))) := by
  rcases h with ⟨h1, h2⟩ | ⟨j, h1, h2, h3, h4⟩
  · exact ⟨ns.length, Or.inl ⟨rfl, h2⟩, Or.inl ⟨by omega, rfl⟩⟩
  · exact ⟨j, Or.inr ⟨h2, h3, h4⟩, Or.inr ⟨by omega, h1⟩⟩

theorem lt_of {X : Int} {st k : Nat} (h : X = (st : Int)) (h2 : k < st) : (k : Int) < X := by omega
theorem ge_of {X : Int} {st k : Nat} (h : X = (st : Int)) (h2 : ¬ k < st) : X ≤ (k : Int) := by omega
theorem ge_of' {X : Int} {st k : Nat} (h : X = (st : Int)) (h2 : st ≤ k) : X ≤ (k : Int) := by omega
theorem lt_of' {X : Int} {st k : Nat} (h : X = (st : Int)) (h2 : k = st) : (k : Int) - 1 < X := by omega

theorem BelowBut.toGrown {B m : Nat} {w w' : World} (h : BelowBut B m w w') (hB : w.heap.size ≤ B) : w.grownBy w' (some m) :=
  ⟨h.os, h.tape, h.output, h.size, fun k hk hm => h.block k (by omega) (fun e => hm (by rw [e]))⟩
theorem own_but {B m base : Nat} {w w' : World} {e : TypeId} {size : Nat} {v : Value} {n : Nat} {xs : List Value} {es : Array MapEntry} {ck : Nat} (h : w.ownsRow base e size v n xs) (hb : BelowBut B m w w') (hB : w.heap.size ≤ B) (hm : w.heap[m]? = some (.map es ck)) : w'.ownsRow base e size v n xs :=
  h.kept (hb.toGrown hB) (Or.inr (own_ne_map h hm))

theorem own_below {B base : Nat} {w w' : World} {e : TypeId} {size : Nat} {v : Value} {n : Nat} {xs : List Value} (h : w.ownsRow base e size v n xs) (hv : ∀ k, v.ownBlock = some k → k < B) (hb : Below B w w') : w'.ownsRow base e size v n xs := by
  refine ⟨h.1, ?_⟩
  rcases h.2 with h2 | ⟨g, cap, cur, rfl, h3, h4, h5⟩
  · exact Or.inl h2
  · exact Or.inr ⟨g, cap, cur, rfl, h3, (hb.block g (hv g rfl)).trans h4, h5⟩

theorem conv_own {base : Nat} {v : Value} {l : List UInt8} {w : World} (h : w.ownsRow base 5 1 v l.length (Lib.byteCells l)) : (convert 37 9 v).run Try.prog w = .ok (.string ⟨l.toArray⟩) w := by
  have h' := h
  rcases h.2 with ⟨rfl, hz⟩ | ⟨g, cap, cur, rfl, _⟩
  · have e : l = [] := by simpa using hz
    subst e
    exact run_convert_bytes_nil w 37 5 Try.underlying37 Try.underlying5 0 0 9 Try.underlying9
  · refine run_convert_bytes_back w 37 9 5 ⟨g, 0, none⟩ cap l Try.underlying37 Try.underlying5 Try.underlying9 (fun j hj => ?_)
    exact h'.cells (g := g) rfl j (.int .u8 l[j].toNat) (by simp [Lib.byteCells, hj])

theorem tail_str (p : ByteArray) (l : List UInt8) : (p.data.toList ++ l == (p ++ ⟨l.toArray⟩).toList) = true := by
  rw [Go.ByteArray.toList_eq, beq_iff_eq]
  simp

theorem tail_true {base : Nat} {v : Value} {l : List UInt8} {s : ByteArray} {w : World} (h : w.ownsRow base 5 1 v (l.length + 2 + s.size + 1) (Lib.byteCells l ++ Lib.strCells ⟨#[60, 47]⟩ ++ Lib.strCells s ++ [.int .u8 62])) : w.ownsRow base 5 1 v (l ++ tag s true).length (Lib.byteCells (l ++ tag s true)) := by
  have e1 : (l ++ tag s true).length = l.length + 2 + s.size + 1 := by
    have : s.data.toList.length = s.size := Array.length_toList
    simp [tag]
    omega
  have e2 : Lib.byteCells (l ++ tag s true) = Lib.byteCells l ++ Lib.strCells ⟨#[60, 47]⟩ ++ Lib.strCells s ++ [.int .u8 62] := by
    rw [Lib.strCells_eq, Lib.strCells_eq]
    simp [tag, Lib.byteCells]
  rw [e1, e2]
  exact h

end Go.Proofs.Qxb6602872a
