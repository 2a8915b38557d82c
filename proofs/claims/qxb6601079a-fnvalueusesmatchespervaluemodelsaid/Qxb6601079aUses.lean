/-
  What the operations do with each value: plain; the map of records as the call holds it.
-/
import Derived.Test.Qxb6601079aSplit
import Derived.Maps.OwnSet
namespace Go.Proofs.Qxb6601079a
open Go.RowKit

structure UseT where
  puts : Nat
  pcall : Int
  pret : Int
  pval : Int
  pput : Bool
  read : Bool
  first : Int
  last : Int
def useZ : UseT := ⟨0, 0, 0, 0, false, false, 0, 0⟩
def UseT.cell (u : UseT) : Nat → Value
  | 0 => .int .i64 (u.puts : Nat)
  | 1 => .int .i64 u.pcall
  | 2 => .int .i64 u.pret
  | 3 => .int .i32 u.pval
  | 4 => .bool u.pput
  | 5 => .bool u.read
  | 6 => .int .i64 u.first
  | _ => .int .i64 u.last
def updPut (u : UseT) (o : OpT) : UseT := ⟨u.puts + 1, o.call, o.ret, o.val, o.put, u.read, u.first, u.last⟩
def updNew (u : UseT) (o : OpT) : UseT := ⟨u.puts, u.pcall, u.pret, u.pval, u.pput, true, o.ret, o.call⟩
def updMore (u : UseT) (o : OpT) : UseT := ⟨u.puts, u.pcall, u.pret, u.pval, u.pput, u.read, min u.first o.ret, max u.last o.call⟩
def upd (u : UseT) (o : OpT) : UseT := if o.put = true then updPut u o else if u.read = false then updNew u o else updMore u o

def useOf (l : List OpT) (x : Int) : UseT := l.foldl (fun u o => if o.val = x then upd u o else u) useZ
def named (l : List OpT) (x : Int) : Bool := l.any (fun o => o.val == x)
def dcount (l : List OpT) : Nat → Nat
  | 0 => 0
  | k + 1 => dcount l k + if named (l.take k) (l.getD k opZ).val = true then 0 else 1

theorem take_snoc_op (l : List OpT) (k : Nat) (h : k < l.length) : l.take (k + 1) = l.take k ++ [l.getD k opZ] := by
  rw [List.take_succ_eq_append_getElem h]
  simp [List.getD_eq_getElem?_getD, h]
theorem useOf_snoc (l : List OpT) (o : OpT) (x : Int) : useOf (l ++ [o]) x = if o.val = x then upd (useOf l x) o else useOf l x := by
  simp [useOf, List.foldl_append]
theorem named_snoc (l : List OpT) (o : OpT) (x : Int) : named (l ++ [o]) x = (named l x || o.val == x) := by
  simp [named, List.any_append]
theorem useOf_unnamed : ∀ (l : List OpT) (x : Int), named l x = false → useOf l x = useZ := by
  intro l x h
  have : ∀ (l : List OpT) (u : UseT), named l x = false → l.foldl (fun u o => if o.val = x then upd u o else u) u = u := by
    intro l
    induction l with
    | nil => intro u _; rfl
    | cons o l ih =>
      intro u h
      simp only [named, List.any_cons, Bool.or_eq_false_iff, beq_eq_false_iff_ne, ne_eq] at h
      simp only [List.foldl_cons, if_neg h.1]
      exact ih u (by simpa [named] using h.2)
  exact this l useZ h
theorem puts_le (l : List OpT) (x : Int) : (useOf l x).puts ≤ l.length := by
  have : ∀ (l : List OpT) (u : UseT), (l.foldl (fun u o => if o.val = x then upd u o else u) u).puts ≤ u.puts + l.length := by
    intro l
    induction l with
    | nil => intro u; simp
    | cons o l ih =>
      intro u
      simp only [List.foldl_cons, List.length_cons]
      refine Nat.le_trans (ih _) ?_
      have : (if o.val = x then upd u o else u).puts ≤ u.puts + 1 := by
        unfold upd updPut updNew updMore
        repeat' split
        all_goals simp
      omega
  have := this l useZ
  simpa [useOf, useZ] using this

/-! ### The map -/

/-- How an element reads: nil, or the number of the block that it points to. -/
def ptrElem : Value → Option (DataW Unit × List MemPlace)
  | .pointer none => some (.nil, [])
  | .pointer (some a) => if a.off = 0 ∧ a.spot = none then some (.lit (.int .i64 a.block), []) else none
  | _ => none
theorem ptrElem_nil : ptrElem (.pointer none) = some (.nil, []) := rfl
theorem ptrElem_some (b : Nat) : ptrElem (.pointer (some ⟨b, 0, none⟩)) = some (.lit (.int .i64 b), []) := by simp [ptrElem]
theorem ptrElem_inv_nil {v : Value} {ps : List MemPlace} (h : ptrElem v = some (.nil, ps)) : v = .pointer none := by
  unfold ptrElem at h
  split at h
  · rfl
  · split at h <;> simp at h
  · simp at h
theorem ptrElem_inv_some {v : Value} {b : Nat} {ps : List MemPlace} (h : ptrElem v = some (.lit (.int .i64 b), ps)) : v = .pointer (some ⟨b, 0, none⟩) := by
  unfold ptrElem at h
  split at h
  · simp at h
  · rename_i a
    split at h
    · rename_i hc
      obtain ⟨bl, of, sp⟩ := a
      simp at h hc
      obtain ⟨rfl, rfl⟩ := hc
      rw [show bl = b by omega]
    · simp at h
  · simp at h

def wf32 (x : Int) : Prop := (Lit.int .i32 x).wf = true
def K32 (x : Int) : Lit := .int .i32 x

theorem law21 : Maps.Keyed Try.prog 21 := Maps.int_keyed Try.underlying21
theorem key21 {x : Int} (h : wf32 x) : keyOf Try.prog 21 (.int .i32 x) = some (K32 x) := Maps.keyOf_int_mk Try.underlying21 h

/-- THE MAP OF RECORDS in block M: the values 'nm' are there, each with a record of its own that holds 'us x'; 'cnt' of them. -/
structure UInv (M n cnt : Nat) (nm : Int → Bool) (us : Int → UseT) (w : World) (D : DataW Unit) : Prop where
  own : w.ownsMap Try.prog 21 ptrElem M n D
  size : Maps.size D = cnt
  here : ∀ x, wf32 x → nm x = true → ∃ b, M < b ∧ D.atKey (K32 x) .nil = .lit (.int .i64 b) ∧ w.rowIs b 58 8 (us x).cell
  gone : ∀ x, wf32 x → nm x = false → D.atKey (K32 x) .nil = .nil ∧ Maps.has D (K32 x) = false
  one : ∀ x y (b : Nat), wf32 x → wf32 y → D.atKey (K32 x) .nil = .lit (.int .i64 b) → D.atKey (K32 y) .nil = .lit (.int .i64 b) → x = y

theorem K32_key (x : Int) : WideAt.IsKeyLit (K32 x) := trivial
theorem K32_ne {x y : Int} (h : x ≠ y) : K32 x ≠ K32 y := by
  intro e; simp [K32] at e; exact h e

theorem UInv.grow {M n cnt : Nat} {nm : Int → Bool} {us : Int → UseT} {w w' : World} {D : DataW Unit} (h : UInv M n cnt nm us w D) (hb : Below w.heap.size w w') : UInv M n cnt nm us w' D := by
  refine ⟨?_, h.size, fun x hx hn => ?_, h.gone, h.one⟩
  · obtain ⟨es, clock, he, r⟩ := h.own
    exact ⟨es, clock, (hb.block M h.own.lt).trans he, r⟩
  · obtain ⟨b, h1, h2, h3⟩ := h.here x hx hn
    exact ⟨b, h1, h2, h3.of_block (hb.block b h3.lt)⟩

/-- A record is written. -/
theorem UInv.write {M n cnt : Nat} {nm : Int → Bool} {us : Int → UseT} {w w' : World} {D : DataW Unit} (h : UInv M n cnt nm us w D) {x : Int} (hx : wf32 x) (hn : nm x = true) {b : Nat} (hM : M < b)
    (hat : D.atKey (K32 x) .nil = .lit (.int .i64 b)) (hg : w.grownBy w' (some b)) {u : UseT} (hr : w'.rowIs b 58 8 u.cell) : UInv M n cnt nm (fun y => if y = x then u else us y) w' D := by
  refine ⟨h.own.kept hg (by simp; omega), h.size, fun y hy hny => ?_, h.gone, h.one⟩
  by_cases e : y = x
  · subst e
    exact ⟨b, hM, hat, by simpa using hr⟩
  · obtain ⟨b', h1, h2, h3⟩ := h.here y hy hny
    have hne : b' ≠ b := fun e2 => by subst e2; exact e (h.one y x b' hy hx h2 hat)
    refine ⟨b', h1, h2, ?_⟩
    rw [if_neg e]
    exact h3.of_block (hg.block b' h3.lt (by simpa using hne))

/-- A new record is laid into the map. -/
theorem UInv.new {M n cnt : Nat} {nm : Int → Bool} {us : Int → UseT} {w w' : World} {D : DataW Unit} (h : UInv M n cnt nm us w D) {x : Int} (hx : wf32 x) (hn : nm x = false) {b : Nat} (hM : M < b)
    (hfresh : ∀ y, wf32 y → nm y = true → D.atKey (K32 y) .nil ≠ .lit (.int .i64 b)) {u : UseT} (hr : w.rowIs b 58 8 u.cell)
    (hown : w'.ownsMap Try.prog 21 ptrElem M (n + 1) (D.put (K32 x) (.lit (.int .i64 b)))) (hg : w.grownBy w' (some M)) :
    UInv M (n + 1) (cnt + 1) (fun y => nm y || x == y) (fun y => if y = x then u else us y) w' (D.put (K32 x) (.lit (.int .i64 b))) := by
  have hmap := h.own.isMap
  have same : ∀ z, (D.put (K32 x) (.lit (.int .i64 b))).atKey (K32 x) z = .lit (.int .i64 b) := fun z => Maps.atKey_put_same hmap (K32_key x) _ _
  have other : ∀ y, y ≠ x → ∀ z, (D.put (K32 x) (.lit (.int .i64 b))).atKey (K32 y) z = D.atKey (K32 y) z := fun y hy z => Maps.atKey_put_other (K32_ne hy) _ _
  refine ⟨hown, ?_, fun y hy hny => ?_, fun y hy hny => ?_, fun y z c hy hz h1 h2 => ?_⟩
  · rw [Maps.size_put (h.own.tidy law21), (h.gone x hx hn).2, if_neg (by simp), h.size]
  · by_cases e : y = x
    · subst e
      exact ⟨b, hM, same _, by simpa using hr.of_block (hg.block b hr.lt (by simp; omega))⟩
    · have hny' : nm y = true := by simpa [Ne.symm e] using hny
      obtain ⟨b', h1, h2, h3⟩ := h.here y hy hny'
      refine ⟨b', h1, by rw [other y e]; exact h2, ?_⟩
      rw [if_neg e]
      exact h3.of_block (hg.block b' h3.lt (by simp; omega))
  · simp only [Bool.or_eq_false_iff, beq_eq_false_iff_ne, ne_eq] at hny
    have e : y ≠ x := Ne.symm hny.2
    rw [other y e, Maps.has_put_other (K32_ne e)]
    exact h.gone y hy hny.1
  · by_cases e1 : y = x
    · by_cases e2 : z = x
      · rw [e1, e2]
      · exfalso
        subst e1
        rw [same] at h1
        rw [other z e2] at h2
        have hc : c = b := by simp at h1; omega
        subst hc
        cases hz' : nm z with
        | true => exact hfresh z hz hz' h2
        | false => rw [(h.gone z hz hz').1] at h2; cases h2
    · by_cases e2 : z = x
      · exfalso
        subst e2
        rw [same] at h2
        rw [other y e1] at h1
        have hc : c = b := by simp at h2; omega
        subst hc
        cases hy' : nm y with
        | true => exact hfresh y hy hy' h1
        | false => rw [(h.gone y hy hy').1] at h1; cases h1
      · rw [other y e1] at h1
        rw [other z e2] at h2
        exact h.one y z c hy hz h1 h2

theorem UInv.start (w : World) (us : Int → UseT) : UInv w.heap.size 0 0 (fun _ => false) us (w.alloc (.map #[] 0)) (.map []) :=
  ⟨World.ownsMap_made w _ _ _, rfl, (fun _ _ h => by cases h), (fun _ _ _ => ⟨rfl, rfl⟩), (fun _ _ _ _ _ h _ => by cases h)⟩

theorem UInv.congr {M n cnt cnt' : Nat} {nm nm' : Int → Bool} {us us' : Int → UseT} {w : World} {D : DataW Unit} (h : UInv M n cnt nm us w D) (hc : cnt = cnt') (hn : ∀ x, nm x = nm' x) (hu : ∀ x, us x = us' x) : UInv M n cnt' nm' us' w D := by
  have e1 : nm = nm' := funext hn
  have e2 : us = us' := funext hu
  subst e1 e2 hc
  exact h
theorem UInv.mono {M n n' cnt : Nat} {nm : Int → Bool} {us : Int → UseT} {w : World} {D : DataW Unit} (h : UInv M n cnt nm us w D) (hn : n ≤ n') : UInv M n' cnt nm us w D :=
  ⟨h.own.mono hn, h.size, h.here, h.gone, h.one⟩

theorem row_put {w : World} {b : Nat} {u : UseT} (o : OpT) (p : Bool) (hp : p = o.put) (h : w.rowIs b 58 8 u.cell) :
    (((((w.setCell ⟨b, 0, none⟩ (.int .i64 ((u.puts : Int) + 1))).setCell ⟨b, 1, none⟩ (.int .i64 o.call)).setCell ⟨b, 2, none⟩ (.int .i64 o.ret)).setCell ⟨b, 3, none⟩ (.int .i32 o.val)).setCell ⟨b, 4, none⟩ (.bool p)).rowIs b 58 8 (updPut u o).cell := by
  subst hp
  refine (((((h.set _ _).set _ _).set _ _).set _ _).set _ _).congr (fun j hj => ?_)
  match j, hj with
  | 0, _ => rfl
  | 1, _ => rfl
  | 2, _ => rfl
  | 3, _ => rfl
  | 4, _ => rfl
  | 5, _ => rfl
  | 6, _ => rfl
  | 7, _ => rfl
theorem row_new {w : World} {b : Nat} {u : UseT} (o : OpT) (h : w.rowIs b 58 8 u.cell) :
    (((w.setCell ⟨b, 5, none⟩ (.bool true)).setCell ⟨b, 6, none⟩ (.int .i64 o.ret)).setCell ⟨b, 7, none⟩ (.int .i64 o.call)).rowIs b 58 8 (updNew u o).cell := by
  refine (((h.set _ _).set _ _).set _ _).congr (fun j hj => ?_)
  match j, hj with
  | 0, _ => rfl
  | 1, _ => rfl
  | 2, _ => rfl
  | 3, _ => rfl
  | 4, _ => rfl
  | 5, _ => rfl
  | 6, _ => rfl
  | 7, _ => rfl
theorem row_more {w : World} {b : Nat} {u : UseT} (o : OpT) (m x : Int) (hm : m = min u.first o.ret) (hx : x = max u.last o.call) (h : w.rowIs b 58 8 u.cell) :
    ((w.setCell ⟨b, 6, none⟩ (.int .i64 m)).setCell ⟨b, 7, none⟩ (.int .i64 x)).rowIs b 58 8 (updMore u o).cell := by
  subst hm hx
  refine ((h.set _ _).set _ _).congr (fun j hj => ?_)
  match j, hj with
  | 0, _ => rfl
  | 1, _ => rfl
  | 2, _ => rfl
  | 3, _ => rfl
  | 4, _ => rfl
  | 5, _ => rfl
  | 6, _ => rfl
  | 7, _ => rfl

/-- The eight cells of a record. -/
theorem use_cells {w : World} {b : Nat} {u : UseT} (h : w.rowIs b 58 8 u.cell) :
    (w.cell? ⟨b, 0, none⟩ = some (.int .i64 (u.puts : Nat)) ∧ w.cell? ⟨b, 1, none⟩ = some (.int .i64 u.pcall) ∧ w.cell? ⟨b, 2, none⟩ = some (.int .i64 u.pret) ∧ w.cell? ⟨b, 3, none⟩ = some (.int .i32 u.pval) ∧
     w.cell? ⟨b, 4, none⟩ = some (.bool u.pput) ∧ w.cell? ⟨b, 5, none⟩ = some (.bool u.read) ∧ w.cell? ⟨b, 6, none⟩ = some (.int .i64 u.first) ∧ w.cell? ⟨b, 7, none⟩ = some (.int .i64 u.last)) ∧ ∀ j, w.frozen? ⟨b, j, none⟩ = false :=
  ⟨⟨h.cell (by omega), h.cell (by omega), h.cell (by omega), h.cell (by omega), h.cell (by omega), h.cell (by omega), h.cell (by omega), h.cell (by omega)⟩, fun j => h.frozen j⟩

/-- One operation more: what the invariant says then. -/
theorem UInv.next {M n cnt : Nat} {l : List OpT} {k : Nat} {o : OpT} {w : World} {D : DataW Unit} {u : UseT} (hk : k < l.length) (ho : o = l.getD k opZ) (hcnt : cnt = dcount l k + if named (l.take k) o.val = true then 0 else 1)
    (hu : u = upd (useOf (l.take k) o.val) o) (h : UInv M n cnt (fun y => named (l.take k) y || o.val == y) (fun y => if y = o.val then u else useOf (l.take k) y) w D) (hn : n ≤ k + 1) :
    ∃ D, UInv M (k + 1) (dcount l (k + 1)) (named (l.take (k + 1))) (useOf (l.take (k + 1))) w D := by
  refine ⟨D, (h.mono hn).congr ?_ (fun x => ?_) (fun x => ?_)⟩
  · rw [hcnt, ho]; rfl
  · rw [take_snoc_op l k hk, named_snoc, ← ho]
  · rw [take_snoc_op l k hk, useOf_snoc, ← ho]
    by_cases e : x = o.val
    · subst e; simp [hu]
    · rw [if_neg e, if_neg (Ne.symm e)]

theorem UInv.next_old {M : Nat} {l : List OpT} {k : Nat} {o : OpT} {w w' : World} {D : DataW Unit} {u : UseT} {b : Nat} (hk : k < l.length) (ho : o = l.getD k opZ) (hnm : named (l.take k) o.val = true) (hwf : wf32 o.val)
    (hM : M < b) (hat : D.atKey (K32 o.val) .nil = .lit (.int .i64 b)) (h : UInv M k (dcount l k) (named (l.take k)) (useOf (l.take k)) w D) (hg : w.grownBy w' (some b)) (hr : w'.rowIs b 58 8 u.cell)
    (hu : u = upd (useOf (l.take k) o.val) o) : ∃ D, UInv M (k + 1) (dcount l (k + 1)) (named (l.take (k + 1))) (useOf (l.take (k + 1))) w' D := by
  have h1 := h.write hwf hnm hM hat hg hr
  refine UInv.next (cnt := dcount l k) hk ho (by rw [if_pos hnm]; rfl) hu (h1.congr rfl (fun x => ?_) (fun x => rfl)) (by omega)
  by_cases e : o.val = x
  · subst e; simp [hnm]
  · simp [e]

theorem upd_put {u : UseT} {o : OpT} (h : o.put = true) : updPut u o = upd u o := by simp [upd, h]
theorem upd_new {u : UseT} {o : OpT} (h : o.put = false) (hr : u.read = false) : updNew u o = upd u o := by simp [upd, h, hr]
theorem upd_more {u : UseT} {o : OpT} (h : o.put = false) (hr : u.read = true) : updMore u o = upd u o := by simp [upd, h, hr]

theorem grownBy_set {w w' : World} {b : Nat} (h : w.grownBy w' (some b)) (i : Nat) (v : Value) : w.grownBy (w'.setCell ⟨b, i, none⟩ v) (some b) :=
  ⟨h.os, h.tape, h.output, by simpa [World.setCell] using h.size, fun k hk hne => by
    rw [Below.heap_setCell _ _ _ _ (fun e => hne (by simp [e]))]
    exact h.block k hk hne⟩
theorem grownBy_rfl (w : World) (r : Option Nat) : w.grownBy w r := ⟨rfl, rfl, rfl, Nat.le_refl _, fun _ _ _ => rfl⟩

theorem rel_more {M : Nat} {l : List OpT} {k : Nat} {o : OpT} {w : World} {D : DataW Unit} {u : UseT} {b : Nat} {ob : Obj} (hk : k < l.length) (ho : o = l.getD k opZ) (hnm : named (l.take k) o.val = true) (hwf : wf32 o.val)
    (hM : M < b) (hat : D.atKey (K32 o.val) .nil = .lit (.int .i64 b)) (h : UInv M k (dcount l k) (named (l.take k)) (useOf (l.take k)) w D) (hu : u = useOf (l.take k) o.val) (hr : w.rowIs b 58 8 u.cell)
    (hp : o.put = false) (hrd : u.read = true) {m x : Int} (hm : m = min u.first o.ret) (hx : x = max u.last o.call) :
    ∃ D, UInv M (k + 1) (dcount l (k + 1)) (named (l.take (k + 1))) (useOf (l.take (k + 1))) (((w.setCell ⟨b, 6, none⟩ (.int .i64 m)).setCell ⟨b, 7, none⟩ (.int .i64 x)).alloc ob).drew.drew D := by
  obtain ⟨D', hD'⟩ := UInv.next_old hk ho hnm hwf hM hat h (grownBy_set (grownBy_set (grownBy_rfl _ _) _ _) _ _) (row_more o m x hm hx hr) (by rw [upd_more hp hrd, hu])
  exact ⟨D', (hD'.grow ((Below.refl _ _).alloc (Nat.le_refl _) _)).grow (Below.refl _ _).drew.drew⟩

def recZ : Obj := .cells #[.int .i64 0, .int .i64 0, .int .i64 0, .int .i32 0, .bool false, .bool false, .int .i64 0, .int .i64 0] 58
theorem new_rec (w : World) : (w.alloc recZ).rowIs w.heap.size 58 8 useZ.cell :=
  World.rowIs_alloc w _ 58 useZ.cell (fun i hi => by
    match i, hi with
    | 0, _ => rfl
    | 1, _ => rfl
    | 2, _ => rfl
    | 3, _ => rfl
    | 4, _ => rfl
    | 5, _ => rfl
    | 6, _ => rfl
    | 7, _ => rfl)

theorem UInv.next_new {M : Nat} {l : List OpT} {k : Nat} {o : OpT} {w w1 w' : World} {D : DataW Unit} {u : UseT} {ob : Obj} (hk : k < l.length) (ho : o = l.getD k opZ) (hnm : named (l.take k) o.val = false) (hwf : wf32 o.val)
    (h : UInv M k (dcount l k) (named (l.take k)) (useOf (l.take k)) w D)
    (hown : w1.ownsMap Try.prog 21 ptrElem M (k + 1) (D.put (K32 o.val) (.lit (.int .i64 ((w.heap.size + 1 : Nat) : Int))))) (hg1 : ((w.alloc ob).alloc recZ).grownBy w1 (some M))
    (hg : w1.grownBy w' (some (w.heap.size + 1))) (hr : w'.rowIs (w.heap.size + 1) 58 8 u.cell)
    (hu : u = upd useZ o) : ∃ D, UInv M (k + 1) (dcount l (k + 1)) (named (l.take (k + 1))) (useOf (l.take (k + 1))) w' D := by
  have hlt := h.own.lt
  have h2 : UInv M k (dcount l k) (named (l.take k)) (useOf (l.take k)) ((w.alloc ob).alloc recZ) D := (h.grow ((Below.refl _ _).alloc (Nat.le_refl _) _)).grow ((Below.refl _ _).alloc (Nat.le_refl _) _)
  have hz : ((w.alloc ob).alloc recZ).rowIs (w.heap.size + 1) 58 8 useZ.cell := by
    have := new_rec (w.alloc ob)
    simpa using this
  have h3 := h2.new hwf hnm (b := w.heap.size + 1) (by omega) (fun y hy hny he => by
    obtain ⟨b', _, h5, h6⟩ := h.here y hy hny
    rw [h5] at he
    have := h6.lt
    simp at he
    omega) hz hown hg1
  have hat : (D.put (K32 o.val) (.lit (.int .i64 ((w.heap.size + 1 : Nat) : Int)))).atKey (K32 o.val) .nil = .lit (.int .i64 ((w.heap.size + 1 : Nat) : Int)) := Maps.atKey_put_same h.own.isMap (K32_key _) _ _
  have h4 := h3.write hwf (by simp) (by omega) hat hg hr
  refine UInv.next (cnt := dcount l k + 1) (n := k + 1) hk ho (by rw [if_neg (by simp [hnm])]) (u := u) (by rw [hu, useOf_unnamed _ _ hnm]) (h4.congr rfl (fun _ => rfl) (fun x => ?_)) (Nat.le_refl _)
  by_cases e : x = o.val
  · simp [e]
  · simp [e]

/-- What stands behind the map's store: the record, and the operation's own box. -/
theorem new_facts {w w1 : World} {M : Nat} {cs : Array Value} (hM : M < w.heap.size) (hg1 : ((w.alloc (.cells cs 53)).alloc recZ).grownBy w1 (some M)) :
    w1.rowIs (w.heap.size + 1) 58 8 useZ.cell ∧ (∀ j, w1.cell? ⟨w.heap.size, j, none⟩ = cs[j]?) ∧ w.heap.size + 1 < w1.heap.size := by
  have hz : ((w.alloc (.cells cs 53)).alloc recZ).rowIs (w.heap.size + 1) 58 8 useZ.cell := by
    have := new_rec (w.alloc (.cells cs 53))
    simpa using this
  have hs := hg1.size
  simp at hs
  refine ⟨hz.of_block (hg1.block _ hz.lt (by simp; omega)), fun j => ?_, by omega⟩
  have hb := hg1.block w.heap.size (by simp; omega) (by simp; omega)
  have : ((w.alloc (.cells cs 53)).alloc recZ).heap[w.heap.size]? = some (.cells cs 53) := by
    rw [Below.heap_alloc _ _ _ (by simp)]
    exact Deep.blk_alloc_new _ _
  rw [this] at hb
  simp [World.cell?, hb]

theorem Hid.mk {p : Prop} (h : p) : Hid p := h

theorem new_all {w w1 : World} {M : Nat} {a b c : Value} {d : Value} (hM : M < w.heap.size) (hg1 : ((w.alloc (.cells #[a, b, c, d] 53)).alloc recZ).grownBy w1 (some M)) :
    ∃ u : UseT, Hid (u = useZ) ∧ u.puts ≤ 4096 ∧ Hid (w1.rowIs (w.heap.size + 1) 58 8 u.cell) ∧
    (w1.cell? ⟨w.heap.size + 1, 0, none⟩ = some (.int .i64 (u.puts : Nat)) ∧ w1.cell? ⟨w.heap.size + 1, 1, none⟩ = some (.int .i64 u.pcall) ∧ w1.cell? ⟨w.heap.size + 1, 2, none⟩ = some (.int .i64 u.pret) ∧ w1.cell? ⟨w.heap.size + 1, 3, none⟩ = some (.int .i32 u.pval) ∧
     w1.cell? ⟨w.heap.size + 1, 4, none⟩ = some (.bool u.pput) ∧ w1.cell? ⟨w.heap.size + 1, 5, none⟩ = some (.bool false) ∧ w1.cell? ⟨w.heap.size + 1, 6, none⟩ = some (.int .i64 u.first) ∧ w1.cell? ⟨w.heap.size + 1, 7, none⟩ = some (.int .i64 u.last)) ∧
     (∀ j, w1.frozen? ⟨w.heap.size + 1, j, none⟩ = false) ∧
    (w1.cell? ⟨w.heap.size, 0, none⟩ = some a ∧ w1.cell? ⟨w.heap.size, 1, none⟩ = some b ∧ w1.cell? ⟨w.heap.size, 2, none⟩ = some c ∧ w1.cell? ⟨w.heap.size, 3, none⟩ = some d) ∧ w.heap.size + 1 < w1.heap.size := by
  obtain ⟨h1, h2, h3⟩ := new_facts hM hg1
  obtain ⟨q, qf⟩ := use_cells h1
  exact ⟨useZ, rfl, by simp [useZ], h1, q, qf, ⟨h2 0, h2 1, h2 2, h2 3⟩, h3⟩

theorem below_new {w wr w1 : World} {ob rc : Obj} (hbel : Below w.heap.size w wr) (hg1 : ((wr.alloc ob).alloc rc).grownBy w1 (some w.heap.size)) : Below w.heap.size w w1 := by
  have := hbel.size
  exact ((hbel.alloc this _).alloc (by simp; omega) _).grown hg1 (by simp; omega) (fun k hk => by cases hk; exact Nat.le_refl _)

end Go.Proofs.Qxb6601079a
