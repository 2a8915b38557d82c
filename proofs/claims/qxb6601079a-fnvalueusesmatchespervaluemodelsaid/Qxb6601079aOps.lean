/-
  Slices of operations (four cells each): cloneOps, splitOps.
-/
import Derived.Test.Qxb6601079aBase
import Derived.Deep.MidRow
namespace Go.Proofs.Qxb6601079a
open Go.RowKit

structure OpT where
  call : Int
  ret : Int
  val : Int
  put : Bool
def opZ : OpT := ⟨0, 0, 0, false⟩
def OpT.cell (o : OpT) : Nat → Value
  | 0 => .int .i64 o.call
  | 1 => .int .i64 o.ret
  | 2 => .int .i32 o.val
  | _ => .bool o.put

/-- The cells of a list of operations from (b, off) on. -/
def OpsAt (w : World) (b off : Nat) (l : List OpT) : Prop := ∀ i, i < l.length → ∀ j, j < 4 → w.cell? ⟨b, off + i * 4 + j, none⟩ = some ((l.getD i opZ).cell j)

theorem Try.info39 : (Try.prog.info? 39).map (fun i => (i.zero, i.size, i.bytes)) = some (some (Value.agg #[.int .i64 0, .int .i64 0, .int .i32 0, .bool false]), 4, 24) := by kernel_rfl

theorem make_ops (n : Nat) (h : n ≤ 2097152) (w : World) :
    (Instr.makeSlice 30 (.int .i64 (n : Int)) (.int .i64 (n : Int))).run Try.prog w = .ok (.slice (some ⟨w.heap.size, 0, none⟩) n n) (w.alloc (.cells (madeCells #[.int .i64 0, .int .i64 0, .int .i32 0, .bool false] (n * 4)) 39)) := by
  obtain ⟨i, hi, h0, h1, h2⟩ := info_parts Try.info39
  have hr := run_make (P := Try.prog) w 30 39 i _ Try.underlying30 hi h0 .i64 .i64 n n (by omega) (by omega) (by rw [h2]; omega) (by omega)
  simp only [Int.toNat_natCast, h1] at hr
  exact hr

theorem nil30 (w : World) (a : Option Addr) (n c n' c' : Nat) : (binOp .eql 30 (.slice a n c) (.slice none n' c')).run Try.prog w = .ok (.bool a.isNone) w :=
  Lib.run_eql_slice_nil w _ _ a n c n' c' Try.underlying30

theorem OpT.cell_zero (j : Nat) (h : j < 4) : (#[Value.int .i64 0, .int .i64 0, .int .i32 0, .bool false] : Array Value)[j]? = some (opZ.cell j) := by
  match j, h with
  | 0, _ => rfl
  | 1, _ => rfl
  | 2, _ => rfl
  | 3, _ => rfl

/-- What make lays: n operations, all zero. -/
theorem made_ops (w : World) (n : Nat) (t : TypeId) : (w.alloc (.cells (madeCells #[.int .i64 0, .int .i64 0, .int .i32 0, .bool false] (n * 4)) t)).rowIs w.heap.size t (n * 4) (fun i => opZ.cell (i % 4)) :=
  ⟨_, Deep.blk_alloc_new _ _, size_madeCells _ _, fun i hi => by
    have := OpT.cell_zero (i % 4) (Nat.mod_lt _ (by omega))
    have h2 : i % 4 < 4 := Nat.mod_lt _ (by omega)
    simp only [madeCells, Array.getElem?_map, Array.getElem?_range, hi, if_true, Option.map_some, Option.some.injEq]
    have h3 := Option.some.inj ((Array.getElem?_eq_getElem (by simpa using h2)).symm.trans this)
    show (#[Value.int .i64 0, .int .i64 0, .int .i32 0, .bool false] : Array Value)[i % 4]! = _
    rw [getElem!_pos _ _ (by simpa using h2)]
    exact h3⟩

theorem div4 (k j : Nat) (h : j < 4) : (k * 4 + j) / 4 = k ∧ (k * 4 + j) % 4 = j := by omega

/-- Four stores, one operation. -/
theorem row_set4 {w : World} {b : Nat} {t : TypeId} {n : Nat} {zs : List OpT} {k : Nat} {o : OpT} (ho : o = zs.getD k opZ)
    (h : w.rowIs b t n (fun j => if j / 4 < k then (zs.getD (j / 4) opZ).cell (j % 4) else opZ.cell (j % 4))) :
    ((((w.setCell ⟨b, k * 4, none⟩ (.int .i64 o.call)).setCell ⟨b, k * 4 + 1, none⟩ (.int .i64 o.ret)).setCell ⟨b, k * 4 + 2, none⟩ (.int .i32 o.val)).setCell ⟨b, k * 4 + 3, none⟩ (.bool o.put)).rowIs b t n
      (fun j => if j / 4 < k + 1 then (zs.getD (j / 4) opZ).cell (j % 4) else opZ.cell (j % 4)) := by
  refine ((((h.set _ _).set _ _).set _ _).set _ _).congr (fun j _ => ?_)
  by_cases e : j / 4 = k
  · have hj : j = k * 4 ∨ j = k * 4 + 1 ∨ j = k * 4 + 2 ∨ j = k * 4 + 3 := by omega
    rcases hj with hj | hj | hj | hj
    · subst hj
      rw [if_neg (by omega), if_neg (by omega), if_neg (by omega), if_pos rfl, if_pos (by omega), (by omega : k * 4 / 4 = k), (by omega : k * 4 % 4 = 0), ← ho]
      rfl
    · subst hj
      rw [if_neg (by omega), if_neg (by omega), if_pos rfl, if_pos (by omega), (by omega : (k * 4 + 1) / 4 = k), (by omega : (k * 4 + 1) % 4 = 1), ← ho]
      rfl
    · subst hj
      rw [if_neg (by omega), if_pos rfl, if_pos (by omega), (by omega : (k * 4 + 2) / 4 = k), (by omega : (k * 4 + 2) % 4 = 2), ← ho]
      rfl
    · subst hj
      rw [if_pos rfl, if_pos (by omega), (by omega : (k * 4 + 3) / 4 = k), (by omega : (k * 4 + 3) % 4 = 3), ← ho]
      rfl
  · rw [if_neg (by omega), if_neg (by omega), if_neg (by omega), if_neg (by omega)]
    by_cases e2 : j / 4 < k
    · rw [if_pos e2, if_pos (by omega)]
    · rw [if_neg e2, if_neg (by omega)]

/-- The four cells of the next place, to be written. -/
theorem row_next {w : World} {b : Nat} {t : TypeId} {len : Nat} {f : Nat → Value} {k : Nat} (h : w.rowIs b t (len * 4) f) (hk : k < len) :
    (w.cell? ⟨b, k * 4, none⟩ = some (f (k * 4)) ∧ w.cell? ⟨b, k * 4 + 1, none⟩ = some (f (k * 4 + 1)) ∧ w.cell? ⟨b, k * 4 + 2, none⟩ = some (f (k * 4 + 2)) ∧ w.cell? ⟨b, k * 4 + 3, none⟩ = some (f (k * 4 + 3))) ∧
    w.frozen? ⟨b, k * 4, none⟩ = false ∧ w.frozen? ⟨b, k * 4 + 1, none⟩ = false ∧ w.frozen? ⟨b, k * 4 + 2, none⟩ = false ∧ w.frozen? ⟨b, k * 4 + 3, none⟩ = false :=
  ⟨⟨h.cell (by omega), h.cell (by omega), h.cell (by omega), h.cell (by omega)⟩, h.frozen _, h.frozen _, h.frozen _, h.frozen _⟩

set_option maxHeartbeats 1000000 in
theorem cloneOps_some (b off len cap : Nat) (zs : List OpT) (w : World) (hlen : len ≤ 4096) (hb : b < w.heap.size) (hl : len ≤ zs.length) (hc : OpsAt w b off zs) :
    Calls Try.prog 20 #[.slice (some ⟨b, off, none⟩) len cap] w fun e w' => e = .returned (.slice (some ⟨w.heap.size, 0, none⟩) len len) ∧ w'.rowIs w.heap.size 39 (len * 4) (fun i => (zs.getD (i / 4) opZ).cell (i % 4)) ∧ Below w.heap.size w w' := by
  have hmk := make_ops len (by omega)
  have hq := nil30
  have HC : Hid (OpsAt w b off zs) := hc
  clear hc
  go_enter Try.func20, Try.ntmps20
  go_wp2
  go_loopw [4] (fun i wr => ∃ k : Nat, k ≤ len ∧ i = .int .i64 k ∧ Hid (wr.rowIs w.heap.size 39 (len * 4) (fun j => if j / 4 < k then (zs.getD (j / 4) opZ).cell (j % 4) else opZ.cell (j % 4))) ∧ Hid (Below w.heap.size w wr)) (fun i _ => len - (intOf i).toNat)
  case atStart => exact ⟨0, Nat.zero_le _, rfl, (made_ops w _ _).congr (fun j _ => by simp), (Below.refl _ _).alloc (Nat.le_refl _) _⟩
  case round =>
    obtain ⟨k, hk, rfl, hrow, hbel⟩ := hrel
    by_cases hlt : k < len
    · obtain ⟨o, ho⟩ : ∃ o, o = zs.getD k opZ := ⟨_, rfl⟩
      have hcx : ∀ j, j < 4 → wr.cell? ⟨b, off + k * 4 + j, none⟩ = some (o.cell j) := fun j hj => by
        rw [ho]; exact (hbel.out.cell (p := ⟨b, off + k * 4 + j, none⟩) hb).trans (HC.out k (by omega) j hj)
      have c0 := hcx 0 (by omega)
      have c1 := hcx 1 (by omega)
      have c2 := hcx 2 (by omega)
      have c3 := hcx 3 (by omega)
      simp only [OpT.cell, Nat.add_zero] at c0 c1 c2 c3
      clear hcx
      have HO : Hid (o = zs.getD k opZ) := ho
      clear ho
      obtain ⟨⟨d0, d1, d2, d3⟩, f0, f1, f2, f3⟩ := row_next hrow.out hlt
      go_wp2
      go_roundw
      case rel => exact ⟨k + 1, by omega, by go_num, row_set4 HO.out hrow.out, (((hbel.out.setCell (Nat.le_refl _) _).setCell (Nat.le_refl _) _).setCell (Nat.le_refl _) _).setCell (Nat.le_refl _) _⟩
      case measure => simp [intOf]; omega
    · go_wp2
      go_ret
      exact ⟨rfl, hrow.out.congr (fun j hj => by simp [show j / 4 < k by omega]), hbel.out⟩
set_option maxHeartbeats 400000 in
theorem cloneOps_zero (x : Addr) (cap : Nat) (w : World) :
    Calls Try.prog 20 #[.slice (some x) 0 cap] w fun e w' => e = .returned (.slice (some ⟨w.heap.size, 0, none⟩) 0 0) ∧ w'.heap.size = w.heap.size + 1 ∧ Below w.heap.size w w' := by
  have hmk : ∀ w : World, (Instr.makeSlice 30 (.int .i64 0) (.int .i64 0)).run Try.prog w = .ok (.slice (some ⟨w.heap.size, 0, none⟩) 0 0) (w.alloc (.cells (madeCells #[.int .i64 0, .int .i64 0, .int .i32 0, .bool false] 0) 39)) := make_ops 0 (by omega)
  have hq := nil30
  go_enter Try.func20, Try.ntmps20
  go_wp2
  go_loop [4] (fun i => i = .int .i64 0) (fun _ => 0)
  case atStart => rfl
  case round =>
    subst hrel
    go_wp2
    go_ret
    exact ⟨rfl, by simp, (Below.refl _ _).alloc (Nat.le_refl _) _⟩

set_option maxHeartbeats 400000 in
theorem cloneOps_nil (w : World) : Calls Try.prog 20 #[.slice none 0 0] w fun e w' => e = .returned (.slice none 0 0) ∧ w' = w := by
  have hq := nil30
  go_enter Try.func20, Try.ntmps20
  go_wp2
  go_ret
  exact ⟨rfl, rfl⟩

/-- Where there is an element, the address is the head of a block and the cells hold l. -/
def Ov (w : World) (a : Option Addr) (l : List OpT) : Prop :=
  ∀ i, i < l.length → ∃ b, a = some ⟨b, 0, none⟩ ∧ b < w.heap.size ∧ ∀ j, j < 4 → w.cell? ⟨b, i * 4 + j, none⟩ = some ((l.getD i opZ).cell j)

theorem Ov.later {B : Nat} {w w' : World} {a : Option Addr} {l : List OpT} (h : Ov w a l) (hb : Below B w w') (hB : w.heap.size ≤ B) : Ov w' a l := fun i hi => by
  obtain ⟨b, ha, hlt, hc⟩ := h i hi
  exact ⟨b, ha, by have := hb.size; omega, fun j hj => (hb.cell (p := ⟨b, i * 4 + j, none⟩) (by show b < B; omega)).trans (hc j hj)⟩

/-- The four cells of one operation, written out. -/
theorem Ov.cells {w : World} {a : Option Addr} {l : List OpT} (h : Ov w a l) {i : Nat} (hi : i < l.length) : ∃ b, a = some ⟨b, 0, none⟩ ∧ b < w.heap.size ∧
    w.cell? ⟨b, i * 4, none⟩ = some (.int .i64 (l.getD i opZ).call) ∧ w.cell? ⟨b, i * 4 + 1, none⟩ = some (.int .i64 (l.getD i opZ).ret) ∧
    w.cell? ⟨b, i * 4 + 2, none⟩ = some (.int .i32 (l.getD i opZ).val) ∧ w.cell? ⟨b, i * 4 + 3, none⟩ = some (.bool (l.getD i opZ).put) := by
  obtain ⟨b, ha, hb, hc⟩ := h i hi
  exact ⟨b, ha, hb, hc 0 (by omega), hc 1 (by omega), hc 2 (by omega), hc 3 (by omega)⟩

/-- WHAT A LAW'S WALK IS TOLD OF A SLICE OF OPERATIONS THAT CAME IN. -/
def InOps (w : World) (a : Option Addr) (len cap : Nat) (zs : List OpT) : Prop :=
  (a = none ∧ len = 0 ∧ cap = 0 ∧ zs = []) ∨
  ∃ x, a = some x ∧ len ≤ cap ∧ cap ≤ maxLen ∧ zs.length = cap ∧ (∀ i, i < zs.length → ∀ j, j < 4 → w.cell? (x.add (i * 4 + j)) = some ((zs.getD i opZ).cell j))

theorem InOps.len_bd {w : World} {a : Option Addr} {len cap : Nat} {zs : List OpT} (h : InOps w a len cap zs) : len ≤ maxLen ∧ len ≤ zs.length := by
  rcases h with ⟨_, h, _, _⟩ | ⟨x, _, h1, h2, h3, _⟩
  · exact ⟨by omega, by omega⟩
  · exact ⟨by omega, by omega⟩

theorem getD_take_op (l : List OpT) (n i : Nat) (h : i < n) : (l.take n).getD i opZ = l.getD i opZ := by
  simp [List.getD_eq_getElem?_getD, h]

/-- cloneOps, whatever the slice. -/
theorem cloneOps_any (a : Option Addr) (len cap : Nat) (zs : List OpT) (w : World) (h : InOps w a len cap zs) (hlen : len ≤ 4096) :
    Calls Try.prog 20 #[.slice a len cap] w fun e w' => ∃ a' cap', e = .returned (.slice a' len cap') ∧ Ov w' a' (zs.take len) ∧ Below w.heap.size w w' := by
  rcases h with ⟨rfl, rfl, rfl, rfl⟩ | ⟨x, rfl, h1, _, h3, h4⟩
  · exact (cloneOps_nil w).mono fun e w' ⟨he, hw⟩ => ⟨none, 0, he, fun i hi => by simp at hi, hw ▸ Below.refl _ _⟩
  · by_cases h0 : len = 0
    · subst h0
      exact (cloneOps_zero x cap w).mono fun e w' ⟨he, hs, hb⟩ => ⟨_, _, he, fun i hi => by simp at hi, hb⟩
    · obtain ⟨b, off, spot⟩ := x
      have hc := h4 0 (by omega) 0 (by omega)
      have hspot : spot = none := by simpa [Addr.add] using World.cell?_spot hc
      subst hspot
      have hl : (zs.take len).length = len := by rw [List.length_take]; omega
      refine (cloneOps_some b off len cap zs w hlen (cell_lt hc) (by omega) (fun i hi j hj => by have := h4 i hi j hj; rwa [addr_add, ← Nat.add_assoc] at this)).mono fun e w' ⟨he, hrow, hb⟩ => ⟨_, _, he, fun i hi => ⟨w.heap.size, rfl, hrow.lt, fun j hj => ?_⟩, hb⟩
      rw [hl] at hi
      rw [getD_take_op _ _ _ hi, hrow.cell (by omega), (div4 i j hj).1, (div4 i j hj).2]

end Go.Proofs.Qxb6601079a
