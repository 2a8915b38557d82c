/-
  (*strings.Builder).String on the reducer's Builder; ZZMarkup.
-/
import Derived.Test.Qxb6602872aRed
import Derived.Deep.RegionLaw
namespace Go.Proofs.Qxb6602872a
open Go.RowKit

/-- A builtin of one argument that runs, as one step of a region that draws. -/
theorem step_one {P : Program} {ops : Array Oper} {o : Oper} {a : Act} {w w' : World} {K : Act → World → Prop} {Q : Exit → Act → World → Prop} {E : Prop} {b : Builtin} {x : Operand} {ts : Array TypeId} (u : Value)
    (hg : o.guard = none) (hop : o.op = Op.call { callee := Callee.builtin b, args := #[x], argTypes := ts }) (hx : a.eval x = u) (v : Value) (hrun : ∀ cs, (builtin b ts o.type cs #[u]).run P w = .ok (.value v) w')
    (hK : K (a.put o.dst v) w') : if Region.wanted o (yielded ops a.tmps) = true then Oper.wp P o a w K Q else E := by
  have hw : Region.wanted o (yielded ops a.tmps) = true := by simp [Region.wanted, hg]
  rw [if_pos hw]
  unfold Oper.wp
  simp [execOp, hop, resolve, invoke, hx, hrun]
  exact hK

/-- A builtin of two. -/
theorem step_two {P : Program} {ops : Array Oper} {o : Oper} {a : Act} {w w' : World} {K : Act → World → Prop} {Q : Exit → Act → World → Prop} {E : Prop} {b : Builtin} {x y : Operand} {ts : Array TypeId} (u v : Value)
    (hg : o.guard = none) (hop : o.op = Op.call { callee := Callee.builtin b, args := #[x, y], argTypes := ts }) (hx : a.eval x = u) (hy : a.eval y = v) (r : Value) (hrun : ∀ cs, (builtin b ts o.type cs #[u, v]).run P w = .ok (.value r) w')
    (hK : K (a.put o.dst r) w') : if Region.wanted o (yielded ops a.tmps) = true then Oper.wp P o a w K Q else E := by
  have hw : Region.wanted o (yielded ops a.tmps) = true := by simp [Region.wanted, hg]
  rw [if_pos hw]
  unfold Oper.wp
  simp [execOp, hop, resolve, invoke, hx, hy, hrun]
  exact hK

theorem Try.cells5 : Try.prog.cellsOf 5 = 1 := by kernel_rfl

theorem freeze_other (w : World) (g n b : Nat) (h : b ≠ g) : (w.freeze ⟨g, 0, none⟩ n).heap[b]? = w.heap[b]? := by
  unfold World.freeze
  split
  · rfl
  · simp only [Array.getElem?_modify]
    rw [if_neg (fun e => h e.symm)]

theorem red_cell3 {w : World} {rb m : Nat} {p buf opn : Value} (h : w.heap[rb]? = some (.cells (redCells p buf opn m) 45 (0, 0))) : w.cell? ⟨rb, 3, none⟩ = some buf := by
  simp [World.cell?, h, redCells]

set_option maxHeartbeats 1000000 in
theorem str_nil (B rb m : Nat) (p opn : Value) (w : World) (h : w.heap[rb]? = some (.cells (redCells p (.slice none 0 0) opn m) 45 (0, 0))) :
    Calls Try.prog 26 #[.pointer (some ⟨rb, 2, none⟩)] w fun e w' => e = .returned (.string ⟨#[]⟩) ∧ w'.heap[rb]? = w.heap[rb]? ∧ Below B w w' := by
  have c1 : w.drew.cell? ⟨rb, 3, none⟩ = some (.slice none 0 0) := red_cell3 (w := w.drew) h
  clear h
  go_enter Try.func26, Try.ntmps26
  go_wp2
  go_region_law (first
    | (refine step_one (.slice none 0 0) (by rfl) (by rfl) (by rfl) (.pointer none) (fun _ => by rfl) ?_)
    | (refine step_two (.pointer none) (.int .i64 0) (by rfl) (by rfl) (by rfl) (by rfl) (.string ⟨#[]⟩) (fun _ => by rfl) ?_)
    | fail)
  all_goals (go_wp2; go_ret; exact ⟨rfl, rfl, Below.drew (Below.refl B w)⟩)

set_option maxHeartbeats 1000000 in
theorem str_room (B rb m g cap : Nat) (p opn : Value) (w : World) (hc0 : cap ≠ 0) (h : w.heap[rb]? = some (.cells (redCells p (.slice (some ⟨g, 0, none⟩) 0 cap) opn m) 45 (0, 0))) :
    Calls Try.prog 26 #[.pointer (some ⟨rb, 2, none⟩)] w fun e w' => e = .returned (.string ⟨#[]⟩) ∧ w'.heap[rb]? = w.heap[rb]? ∧ Below B w w' := by
  obtain ⟨c, rfl⟩ : ∃ c, cap = c + 1 := ⟨cap - 1, by omega⟩
  have c1 : w.drew.cell? ⟨rb, 3, none⟩ = some (.slice (some ⟨g, 0, none⟩) 0 (c + 1)) := red_cell3 (w := w.drew) h
  clear h hc0
  go_enter Try.func26, Try.ntmps26
  go_wp2
  go_region_law (first
    | (refine step_one (.slice (some ⟨g, 0, none⟩) 0 (c + 1)) (by rfl) (by rfl) (by rfl) (.pointer (some ⟨g, 0, none⟩)) (fun _ => by rfl) ?_)
    | (refine step_two (.pointer (some ⟨g, 0, none⟩)) (.int .i64 0) (by rfl) (by rfl) (by rfl) (by rfl) (.string ⟨#[]⟩) (fun _ => by rfl) ?_)
    | fail)
  all_goals (go_wp2; go_ret; exact ⟨rfl, rfl, Below.drew (Below.refl B w)⟩)

set_option maxHeartbeats 1000000 in
theorem str_noroom (B rb m g : Nat) (p opn : Value) (cur : Array Value) (w : World) (hBw : B ≤ w.heap.size) (h : w.heap[rb]? = some (.cells (redCells p (.slice (some ⟨g, 0, none⟩) 0 0) opn m) 45 (0, 0))) (hg : w.heap[g]? = some (.cells cur 5 (0, 0))) :
    Calls Try.prog 26 #[.pointer (some ⟨rb, 2, none⟩)] w fun e w' => e = .returned (.string ⟨#[]⟩) ∧ w'.heap[rb]? = w.heap[rb]? ∧ Below B w w' := by
  have hlt := block_lt h
  have HR : Hid ((w.alloc (.view ⟨g, 0, none⟩ 5)).heap[rb]? = w.heap[rb]?) := Lib.alloc_old w _ rb hlt
  have c1 : w.drew.cell? ⟨rb, 3, none⟩ = some (.slice (some ⟨g, 0, none⟩) 0 0) := red_cell3 (w := w.drew) h
  have hsh : w.drew.shape? g = some (5, cur.size) := by have hg' : w.drew.heap[g]? = some (.cells cur 5 (0, 0)) := hg; simp [World.shape?, hg']
  have HSH := Hid.mk hsh
  have c2 : (w.drew.alloc (.view ⟨g, 0, none⟩ 5)).cell? ⟨rb, 3, none⟩ = some (.slice (some ⟨g, 0, none⟩) 0 0) := red_cell3 (w := w.drew.alloc (.view ⟨g, 0, none⟩ 5)) ((Lib.alloc_old w.drew _ rb hlt).trans h)
  have c3 : (w.alloc (.view ⟨g, 0, none⟩ 5)).drew.cell? ⟨rb, 3, none⟩ = some (.slice (some ⟨g, 0, none⟩) 0 0) := c2
  have c0 : w.cell? ⟨rb, 3, none⟩ = some (.slice (some ⟨g, 0, none⟩) 0 0) := c1
  clear h hg hsh
  go_enter Try.func26, Try.ntmps26
  go_wp2
  go_region_law (first
    | (refine step_one (.slice (some ⟨g, 0, none⟩) 0 0) (w' := w.drew.alloc (.view ⟨g, 0, none⟩ 5)) (by rfl) (by rfl) (by rfl) (.pointer (some ⟨w.drew.heap.size, 0, none⟩)) (fun _ => by change Sem.run _ ((viewAt g >>= _) >>= _) _ = _; simp [viewAt, HSH.out, elemOf, run_underlying Try.underlying63]) ?_)
    | (refine step_two (.pointer (some ⟨w.drew.heap.size, 0, none⟩)) (.int .i64 0) (by rfl) (by rfl) (by rfl) (by rfl) (.string ⟨#[]⟩) (fun _ => by rfl) ?_)
    | fail)
  all_goals (go_wp2; go_ret; exact ⟨rfl, HR.out, (Below.drew (Below.refl B w)).alloc hBw _⟩)

set_option maxHeartbeats 1000000 in
theorem str_some (B rb m g cap : Nat) (p opn : Value) (cur : Array Value) (l : List UInt8) (w : World) (h0 : l ≠ []) (h : w.heap[rb]? = some (.cells (redCells p (.slice (some ⟨g, 0, none⟩) l.length cap) opn m) 45 (0, 0)))
    (hown : w.ownsRow B 5 1 (.slice (some ⟨g, 0, none⟩) l.length cap) l.length (Lib.byteCells l)) (hbg : B ≤ g) (hg : w.heap[g]? = some (.cells cur 5 (0, 0))) (hnc : l.length ≤ cap) (hcm : cap ≤ maxLen) (hcs : cur.size = cap * 1) :
    Calls Try.prog 26 #[.pointer (some ⟨rb, 2, none⟩)] w fun e w' => e = .returned (.string ⟨l.toArray⟩) ∧ w'.heap[rb]? = w.heap[rb]? ∧ Below B w w' := by
  have hl0 : l.length ≠ 0 := by simpa using h0
  have hne : rb ≠ g := by
    intro e; subst e
    rw [hg] at h
    simp at h
  have HR : Hid ((w.drew.freeze ⟨g, 0, none⟩ l.length).heap[rb]? = w.heap[rb]?) := freeze_other w.drew g l.length rb hne
  obtain ⟨c, rfl⟩ : ∃ c, cap = c + 1 := ⟨cap - 1, by omega⟩
  have c1 : w.drew.cell? ⟨rb, 3, none⟩ = some (.slice (some ⟨g, 0, none⟩) l.length (c + 1)) := red_cell3 (w := w.drew) h
  have hsh : w.drew.shape? g = some (5, cur.size) := by have hg' : w.drew.heap[g]? = some (.cells cur 5 (0, 0)) := hg; simp [World.shape?, hg']
  have hlb := Lib.run_loadBytes (P := Try.prog) w.drew l ⟨g, 0, none⟩ .empty (fun j x hx => hown.cells (g := g) rfl j (.int .u8 x.toNat) (by simp [Lib.byteCells, hx]))
  have hlies := Lib.liesAt_bytes (P := Try.prog) Try.cells5 (cur.size / Try.prog.cellsOf 5) l.length (by rw [Try.cells5]; omega)
  have hmax : IntKind.i64.max = 9223372036854775807 := rfl
  have h63 : (l.length : Int) ≤ 9223372036854775807 := by unfold maxLen at hcm; omega
  have HA := Hid.mk (And.intro hsh (And.intro hlb (And.intro hlies (And.intro hmax (And.intro h63 hl0)))))
  have HBF : Hid (Below B w (w.drew.freeze ⟨g, 0, none⟩ l.length)) := Lib.below_freeze (Below.drew (Below.refl B w)) (p := ⟨g, 0, none⟩) hbg _
  clear h hg hown hcs hl0 h0 hne hsh hlb hlies hmax h63
  go_enter Try.func26, Try.ntmps26
  go_wp2
  go_region_law (first
    | (refine step_one (.slice (some ⟨g, 0, none⟩) l.length (c + 1)) (by rfl) (by rfl) (by rfl) (.pointer (some ⟨g, 0, none⟩)) (fun _ => by rfl) ?_)
    | (refine step_two (.pointer (some ⟨g, 0, none⟩)) (.int .i64 l.length) (w' := w.drew.freeze ⟨g, 0, none⟩ l.length) (by rfl) (by rfl) (by rfl) (by rfl) (.string ⟨l.toArray⟩) (fun _ => by obtain ⟨e1, e2, e3, e4, e5, e7⟩ := HA.out; change Sem.run _ ((asInt (.int .i64 (l.length : Int)) >>= _) >>= _) _ = _; simp [asInt, asIntOf, e4, Int.not_lt.2 e5, e7, variablesAt, e1, elemOf, run_underlying Try.underlying63, e3, e2]; intro hneg; omega) ?_)
    | fail)
  all_goals (go_wp2; go_ret; exact ⟨rfl, HR.out, HBF.out⟩)

theorem str_any (B rb m : Nat) (l : List UInt8) (els : List (ByteArray × Bool)) (w : World) (h : RInv B rb m l els w) :
    Calls Try.prog 26 #[.pointer (some ⟨rb, 2, none⟩)] w fun e w' => e = .returned (.string ⟨l.toArray⟩) ∧ w'.heap[rb]? = w.heap[rb]? ∧ Below B w w' := by
  obtain ⟨p, hB, hBw, buf, opn, hb, h1, _⟩ : ∃ p, RAt B rb m p l els w := by
    rcases h with h | h
    · exact ⟨_, h⟩
    · exact ⟨_, h⟩
  rcases h1.2 with ⟨rfl, hz⟩ | ⟨g, cap, cur, rfl, hbg, hg, hnc, hcm, hcs, _⟩
  · have e : l = [] := by simpa using hz
    subst e
    exact str_nil B rb m p opn w hb
  · by_cases h0 : l = []
    · subst h0
      by_cases hc0 : cap = 0
      · subst hc0
        exact str_noroom B rb m g p opn cur w hBw hb hg
      · exact str_room B rb m g cap p opn w hc0 hb
    · exact str_some B rb m g cap p opn cur l w h0 hb h1 hbg hg hnc hcm hcs

set_option maxHeartbeats 400000 in
theorem markup_any (B rb m : Nat) (l : List UInt8) (els : List (ByteArray × Bool)) (w : World) (h : RInv B rb m l els w) :
    Calls Try.prog 15 #[.pointer (some ⟨rb, 0, none⟩)] w fun e w' => e = .returned (.string ⟨l.toArray⟩) ∧ w'.heap[rb]? = w.heap[rb]? ∧ Below B w w' := by
  have H := Hid.mk h
  clear h
  go_enter Try.func15, Try.ntmps15
  go_wp2_with fail
  refine (str_any B rb m l els _ H.out).mono ?_
  rintro e w' ⟨rfl, h1, h2⟩
  have H1 := Hid.mk h1
  have H2 := Hid.mk h2
  clear h1 h2
  go_wp2
  go_ret
  exact ⟨rfl, H1.out, H2.out⟩

end Go.Proofs.Qxb6602872a
