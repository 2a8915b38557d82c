/-
  A slice of bytes, nil or not, in one form; ZZSkipValue over it; the append of one byte to a row of the call's own.
-/
import Derived.Test.Qxb6601079aSkip
namespace Go.Proofs.Qxb6601079a
open Go.RowKit

/-- Where there is an element, the address is the head of a block, and the cells hold l. -/
def Bv (w : World) (a : Option Addr) (l : List Int) : Prop :=
  ∀ i, i < l.length → ∃ b, a = some ⟨b, 0, none⟩ ∧ b < w.heap.size ∧ w.cell? ⟨b, i, none⟩ = some (.int .u8 (l.getD i 0))

theorem Bv.later {B : Nat} {w w' : World} {a : Option Addr} {l : List Int} (h : Bv w a l) (hb : Below B w w') (hB : w.heap.size ≤ B) : Bv w' a l := fun i hi => by
  obtain ⟨b, ha, hlt, hc⟩ := h i hi
  exact ⟨b, ha, by have := hb.size; omega, (hb.cell (p := ⟨b, i, none⟩) (by show b < B; omega)).trans hc⟩

theorem Bv.all {w : World} {a : Option Addr} {l : List Int} (h : Bv w a l) (hp : 0 < l.length) : ∃ b, a = some ⟨b, 0, none⟩ ∧ b < w.heap.size ∧ ∀ i, i < l.length → w.cell? ⟨b, i, none⟩ = some (.int .u8 (l.getD i 0)) := by
  obtain ⟨b, ha, hlt, _⟩ := h 0 hp
  refine ⟨b, ha, hlt, fun i hi => ?_⟩
  obtain ⟨b', ha', _, hc⟩ := h i hi
  rw [ha] at ha'
  simp at ha'
  subst ha'
  exact hc

theorem Bts.view {w : World} {v : Value} {l : List Int} (h : Bts w v l) : ∃ a cap, v = .slice a l.length cap ∧ l.length ≤ cap ∧ Bv w a l := by
  rcases h with ⟨rfl, rfl⟩ | ⟨b, cap, rfl, h1, _, h3, h4⟩
  · exact ⟨none, 0, rfl, by simp, fun i hi => by simp at hi⟩
  · exact ⟨_, cap, rfl, h1, fun i hi => ⟨b, rfl, h3, h4 i hi⟩⟩

set_option maxHeartbeats 400000 in
theorem skip28_zero (a : Option Addr) (cap i : Nat) (w : World) :
    Calls Try.prog 28 #[.slice a 0 cap, .int .i64 i] w fun e w' => e = .returned (.int .i64 i) ∧ w' = w := by
  go_enter Try.func28, Try.ntmps28
  go_wp2
  go_loop [1] (fun t => t = .int .i64 i) (fun _ => 0)
  case atStart => rfl
  case round =>
    subst hrel
    go_wp2
    go_ret
    exact ⟨rfl, rfl⟩

theorem skip28_any (a : Option Addr) (cap : Nat) (l : List Int) (i : Nat) (w : World) (hl : l.length ≤ 2097152) (hi : i ≤ 9223372036854775807) (h : Bv w a l) :
    Calls Try.prog 28 #[.slice a l.length cap, .int .i64 i] w fun e w' => e = .returned (.int .i64 (sv (l.drop i) 0 0 i : Nat)) ∧ w' = w := by
  by_cases h0 : l.length = 0
  · rw [sv_end l i 0 (by omega), h0]
    exact skip28_zero a cap i w
  · obtain ⟨b, rfl, _, hc⟩ := h.all (by omega)
    exact skipValue_some b cap l i w hl hi hc

set_option maxHeartbeats 400000 in
theorem skip11_any (a : Option Addr) (cap : Nat) (l : List Int) (i : Nat) (w : World) (hl : l.length ≤ 2097152) (hi : i ≤ 9223372036854775807) (h : Bv w a l) :
    Calls Try.prog 11 #[.slice a l.length cap, .int .i64 i] w fun e w' => e = .returned (.int .i64 (sv (l.drop i) 0 0 i : Nat)) ∧ w' = w := by
  have H : Hid (Bv w a l) := h
  clear h
  go_enter Try.func11, Try.ntmps11
  go_wp2_with fail
  refine (skip28_any a cap l i _ hl hi H.out).mono ?_
  rintro e w' ⟨rfl, rfl⟩
  go_wp2
  go_ret
  exact ⟨rfl, rfl⟩

/-- .. its numbers spelt as the call spells them. -/
theorem skip11_at (a : Option Addr) (n cap : Nat) (l : List Int) (q : Int) (i : Nat) (w : World) (hn : n = l.length) (hq : q = (i : Int)) (hl : l.length ≤ 2097152) (hi : i ≤ 9223372036854775807) (h : Bv w a l) :
    Calls Try.prog 11 #[.slice a n cap, .int .i64 q] w fun e w' => e = .returned (.int .i64 (sv (l.drop i) 0 0 i : Nat)) ∧ w' = w := by
  subst hn hq
  exact skip11_any a cap l i w hl hi h

/-- What is owned reads so. -/
theorem owns_view {w : World} {base : Nat} {v : Value} {l : List Int} {n : Nat} (h : w.ownsRow base 5 1 v n (l.map (Value.int .u8))) : n = l.length ∧ ∃ a cap, v = .slice a n cap ∧ n ≤ cap ∧ Bv w a l := by
  have hl : l.length = n := by have := h.1; simp at this; omega
  refine ⟨hl.symm, ?_⟩
  rcases h.2 with ⟨rfl, rfl⟩ | ⟨g, cap, cur, rfl, hg, hh, h1, h2, h3, h4⟩
  · exact ⟨none, 0, rfl, by omega, fun i hi => by omega⟩
  · refine ⟨_, cap, rfl, h1, fun i hi => ⟨g, rfl, ?_, ?_⟩⟩
    · obtain ⟨hlt, _⟩ := Array.getElem?_eq_some_iff.1 hh
      exact hlt
    · rw [World.ownsRow.cellAt h i (by omega)]
      simp [hi]

end Go.Proofs.Qxb6601079a
