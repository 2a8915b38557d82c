/-
  The map of counts by name.
-/
import Derived.Test.Qxb6602872aRed
import Derived.Maps.OwnSet
namespace Go.Proofs.Qxb6602872a
open Go.RowKit

theorem law9 : Maps.Keyed Try.prog 9 := Maps.string_keyed Try.underlying9
theorem key9 {s : ByteArray} (h : s.size ≤ maxLen) : keyOf Try.prog 9 (.string s) = some (.string s.data.toList) := Go.WideMaps.keyOf_string_mk Try.underlying9 h
theorem zero3 (w : World) : (zeroValue 3).run Try.prog w = .ok (.int .i64 0) w := by kernel_rfl

theorem key_lit (k : List UInt8) : WideAt.IsKeyLit (.string k) := trivial

/-- Block m is a map that holds f k at the key k; the keys are h; sz of them. -/
structure CInv (m n sz : Nat) (f : List UInt8 → Int) (h : List UInt8 → Bool) (w : World) (D : DataW Unit) : Prop where
  own : w.ownsMap Try.prog 9 (plainElem Try.prog 3) m n D
  at_ : ∀ k, D.atKey (.string k) (.lit (.int .i64 0)) = .lit (.int .i64 (f k))
  has_ : ∀ k, Maps.has D (.string k) = h k
  size : Maps.size D = sz

theorem CInv.start (w : World) : CInv w.heap.size 0 0 (fun _ => 0) (fun _ => false) (w.alloc (.map #[] 0)) (.map []) :=
  ⟨World.ownsMap_made w _ _ _, fun _ => rfl, fun _ => rfl, rfl⟩

theorem CInv.store {m n sz : Nat} {f : List UInt8 → Int} {h : List UInt8 → Bool} {w w' : World} {D : DataW Unit} (H : CInv m n sz f h w D) (k : List UInt8) (v : Int)
    (hown : w'.ownsMap Try.prog 9 (plainElem Try.prog 3) m (n + 1) (D.put (.string k) (.lit (.int .i64 v)))) :
    CInv m (n + 1) (if h k then sz else sz + 1) (fun y => if y = k then v else f y) (fun y => h y || y == k) w' (D.put (.string k) (.lit (.int .i64 v))) := by
  refine ⟨hown, fun y => ?_, fun y => ?_, ?_⟩
  · by_cases e : y = k
    · subst e
      rw [Maps.atKey_put_same H.own.isMap (key_lit y)]; simp
    · rw [Maps.atKey_put_other (by simpa using e), H.at_, if_neg e]
  · by_cases e : y = k
    · subst e
      rw [Maps.has_put_same H.own.isMap (key_lit y)]; simp
    · rw [Maps.has_put_other (by simpa using e), H.has_]; simp [e]
  · rw [Maps.size_put (H.own.tidy law9), H.has_, H.size]

theorem CInv.kept {m n sz : Nat} {f : List UInt8 → Int} {h : List UInt8 → Bool} {w w' : World} {D : DataW Unit} (H : CInv m n sz f h w D) (hb : w'.heap[m]? = w.heap[m]?) : CInv m n sz f h w' D := by
  refine ⟨?_, H.at_, H.has_, H.size⟩
  obtain ⟨es, clock, he, r⟩ := H.own
  exact ⟨es, clock, hb.trans he, r⟩

theorem CInv.below {B m n sz : Nat} {f : List UInt8 → Int} {h : List UInt8 → Bool} {w w' : World} {D : DataW Unit} (H : CInv m n sz f h w D) (hb : Below B w w') (hm : m < B) : CInv m n sz f h w' D := H.kept (hb.block m hm)

theorem CInv.congr {m n sz sz' : Nat} {f f' : List UInt8 → Int} {h h' : List UInt8 → Bool} {w : World} {D : DataW Unit} (H : CInv m n sz f h w D) (hs : sz = sz') (hf : ∀ k, f k = f' k) (hh : ∀ k, h k = h' k) : CInv m n sz' f' h' w D := by
  have e1 : f = f' := funext hf
  have e2 : h = h' := funext hh
  subst e1 e2 hs
  exact H

theorem CInv.mono {m n n' sz : Nat} {f : List UInt8 → Int} {h : List UInt8 → Bool} {w : World} {D : DataW Unit} (H : CInv m n sz f h w D) (hn : n ≤ n') : CInv m n' sz f h w D := ⟨H.own.mono hn, H.at_, H.has_, H.size⟩

/-- The look-up, as an equation. -/
theorem CInv.look {m n sz : Nat} {f : List UInt8 → Int} {h : List UInt8 → Bool} {w : World} {D : DataW Unit} (H : CInv m n sz f h w D) {s : ByteArray} (hs : s.size ≤ maxLen) :
    (Instr.lookup 31 (.map (some m)) (.string s) false).run Try.prog w = .ok (.int .i64 (f s.data.toList)) w := by
  obtain ⟨c, hrun, hat, _⟩ := H.own.lookup_int law9 Try.underlying31 Try.underlying3 (zero3 _) (key9 hs)
  rw [H.at_] at hat
  simp at hat
  rw [hat]
  exact hrun

theorem CInv.look_ok {m n sz : Nat} {f : List UInt8 → Int} {h : List UInt8 → Bool} {w : World} {D : DataW Unit} (H : CInv m n sz f h w D) {s : ByteArray} (hs : s.size ≤ maxLen) :
    (Instr.lookup 31 (.map (some m)) (.string s) true).run Try.prog w = .ok (.tuple #[.int .i64 (f s.data.toList), .bool (h s.data.toList)]) w := by
  obtain ⟨v, ps, hrun, hv⟩ := H.own.look_ok law9 Try.underlying31 (zero3 _) (plainElem_int (H := Unit) Try.underlying3 (by decide)) (key9 hs)
  obtain ⟨c, rfl, hc, _⟩ := plainElem_int_inv Try.underlying3 hv
  rw [H.at_] at hc
  simp at hc
  rw [H.has_] at hrun
  rw [hc.1]
  exact hrun

/-! ### The counts of a list of names -/
def cnt (ns : List ByteArray) (k : List UInt8) : Nat := (ns.filter (fun s => s.data.toList == k)).length
def hasN (ns : List ByteArray) (k : List UInt8) : Bool := ns.any (fun s => s.data.toList == k)
theorem cnt_le (ns : List ByteArray) (k : List UInt8) : cnt ns k ≤ ns.length := List.length_filter_le _ _
theorem cnt_snoc (ns : List ByteArray) (s : ByteArray) (k : List UInt8) : cnt (ns ++ [s]) k = if k = s.data.toList then cnt ns k + 1 else cnt ns k := by
  unfold cnt
  rw [List.filter_append]
  by_cases e : k = s.data.toList
  · subst e; simp
  · rw [if_neg e]
    have : (s.data.toList == k) = false := by simpa using fun h => e h.symm
    simp only [List.filter_cons, this, List.filter_nil]
    simp
theorem hasN_snoc (ns : List ByteArray) (s : ByteArray) (k : List UInt8) : hasN (ns ++ [s]) k = (hasN ns k || k == s.data.toList) := by
  unfold hasN
  rw [List.any_append]
  have : (s.data.toList == k) = (k == s.data.toList) := by
    rw [Bool.eq_iff_iff, beq_iff_eq, beq_iff_eq]; exact eq_comm
  simp only [List.any_cons, List.any_nil, Bool.or_false, this]

/-- The counts of the first k names lie in the map. -/
def Counted (m : Nat) (ns : List ByteArray) (k : Nat) (w : World) : Prop := ∃ sz D, CInv m k sz (fun y => (cnt (ns.take k) y : Nat)) (hasN (ns.take k)) w D

theorem Counted.step {m : Nat} {ns : List ByteArray} {k sz : Nat} {w w' : World} {D : DataW Unit} {s : ByteArray} (hk : k < ns.length) (hs : s = ns.getD k noS) (H : CInv m k sz (fun y => (cnt (ns.take k) y : Nat)) (hasN (ns.take k)) w D) {c : Int} (hc : c = ((cnt (ns.take k) s.data.toList : Nat) : Int) + 1)
    (hown : w'.ownsMap Try.prog 9 (plainElem Try.prog 3) m (k + 1) (D.put (.string s.data.toList) (.lit (.int .i64 c)))) : Counted m ns (k + 1) w' := by
  refine ⟨_, _, (H.store _ _ hown).congr rfl (fun y => ?_) (fun y => ?_)⟩
  · rw [take_snoc ns noS k hk, ← hs, cnt_snoc]
    by_cases e : y = s.data.toList
    · rw [if_pos e, if_pos e, hc, e]; omega
    · rw [if_neg e, if_neg e]
  · rw [take_snoc ns noS k hk, ← hs, hasN_snoc]

end Go.Proofs.Qxb6602872a
