/-
  ZZValueUses: the contract.
-/
import Derived.Test.Qxb6601079aVUses
import Derived.Deep.RegionHeld3
import Derived.BigRegion
namespace Go.Proofs.Qxb6601079a
open Go.RowKit

theorem Try.info53 : (Try.prog.info? 53).map (fun i => (i.zero, i.size, i.bytes)) = some (some (Value.agg #[.int .i64 0, .int .i64 0, .int .i32 0, .bool false]), 4, 24) := by kernel_rfl
theorem Try.info45 : (Try.prog.info? 45).map (fun i => (i.zero, i.size, i.bytes)) = some (some (Value.agg #[.bool false, .int .i64 0, .int .i64 0, .int .i64 0, .int .i32 0, .bool false, .bool false, .int .i64 0, .int .i64 0]), 9, 56) := by kernel_rfl

theorem make51 (n : Nat) (h : n ≤ 2097152) (w : World) :
    (Instr.makeSlice 51 (.int .i64 (n : Int)) (.int .i64 (n : Int))).run Try.prog w = .ok (.slice (some ⟨w.heap.size, 0, none⟩) n n) (w.alloc (.cells (madeCells #[.int .i64 0, .int .i64 0, .int .i32 0, .bool false] (n * 4)) 53)) := by
  obtain ⟨i, hi, h0, h1, h2⟩ := info_parts Try.info53
  have hr := run_make (P := Try.prog) w 51 53 i _ Try.underlying51 hi h0 .i64 .i64 n n (by omega) (by omega) (by rw [h2]; omega) (by omega)
  simp only [Int.toNat_natCast, h1] at hr
  exact hr
theorem make40 (n : Nat) (h : n ≤ 2097152) (w : World) :
    (Instr.makeSlice 40 (.int .i64 (n : Int)) (.int .i64 (n : Int))).run Try.prog w = .ok (.slice (some ⟨w.heap.size, 0, none⟩) n n) (w.alloc (.cells (madeCells #[.bool false, .int .i64 0, .int .i64 0, .int .i64 0, .int .i32 0, .bool false, .bool false, .int .i64 0, .int .i64 0] (n * 9)) 45)) := by
  obtain ⟨i, hi, h0, h1, h2⟩ := info_parts Try.info45
  have hr := run_make (P := Try.prog) w 40 45 i _ Try.underlying40 hi h0 .i64 .i64 n n (by omega) (by omega) (by rw [h2]; omega) (by omega)
  simp only [Int.toNat_natCast, h1] at hr
  exact hr

def cQ (qs : List Int) (j : Nat) : Value := .int .i32 (qs.getD j 0)

def outC (f : Bool) (u : UseT) : Nat → Value
  | 0 => .bool f
  | j + 1 => u.cell j
def outAt (l : List OpT) (qs : List Int) (i : Nat) : Nat → Value := outC (named l (qs.getD i 0)) (useOf l (qs.getD i 0))

theorem outZ_cell (j : Nat) (h : j < 9) : (#[Value.bool false, .int .i64 0, .int .i64 0, .int .i64 0, .int .i32 0, .bool false, .bool false, .int .i64 0, .int .i64 0] : Array Value)[j]? = some (outC false useZ j) := by
  match j, h with
  | 0, _ => rfl
  | 1, _ => rfl
  | 2, _ => rfl
  | 3, _ => rfl
  | 4, _ => rfl
  | 5, _ => rfl
  | 6, _ => rfl
  | 7, _ => rfl
  | 8, _ => rfl

theorem made_outs (w : World) (n : Nat) (t : TypeId) : (w.alloc (.cells (madeCells #[.bool false, .int .i64 0, .int .i64 0, .int .i64 0, .int .i32 0, .bool false, .bool false, .int .i64 0, .int .i64 0] (n * 9)) t)).rowIs w.heap.size t (n * 9) (fun i => outC false useZ (i % 9)) :=
  ⟨_, Deep.blk_alloc_new _ _, size_madeCells _ _, fun i hi => by
    have := outZ_cell (i % 9) (Nat.mod_lt _ (by omega))
    have h2 : i % 9 < 9 := Nat.mod_lt _ (by omega)
    simp only [madeCells, Array.getElem?_map, Array.getElem?_range, hi, if_true, Option.map_some, Option.some.injEq]
    have h3 := Option.some.inj ((Array.getElem?_eq_getElem (by simpa using h2)).symm.trans this)
    show (#[Value.bool false, .int .i64 0, .int .i64 0, .int .i64 0, .int .i32 0, .bool false, .bool false, .int .i64 0, .int .i64 0] : Array Value)[i % 9]! = _
    rw [getElem!_pos _ _ (by simpa using h2)]
    exact h3⟩

theorem row_set9 {w : World} {b : Nat} {t : TypeId} {n : Nat} {F : Nat → Nat → Value} {k : Nat} {u : UseT} (hF : F k = outC true u)
    (h : w.rowIs b t n (fun j => if j / 9 < k then F (j / 9) (j % 9) else outC false useZ (j % 9))) :
    (((((((((w.setCell ⟨b, k * 9, none⟩ (.bool true)).setCell ⟨b, k * 9 + 1, none⟩ (.int .i64 (u.puts : Nat))).setCell ⟨b, k * 9 + 2, none⟩ (.int .i64 u.pcall)).setCell ⟨b, k * 9 + 3, none⟩ (.int .i64 u.pret)).setCell ⟨b, k * 9 + 4, none⟩ (.int .i32 u.pval)).setCell ⟨b, k * 9 + 5, none⟩ (.bool u.pput)).setCell ⟨b, k * 9 + 6, none⟩ (.bool u.read)).setCell ⟨b, k * 9 + 7, none⟩ (.int .i64 u.first)).setCell ⟨b, k * 9 + 8, none⟩ (.int .i64 u.last)).rowIs b t n
      (fun j => if j / 9 < k + 1 then F (j / 9) (j % 9) else outC false useZ (j % 9)) := by
  refine (((((((((h.set _ _).set _ _).set _ _).set _ _).set _ _).set _ _).set _ _).set _ _).set _ _).congr (fun j _ => ?_)
  by_cases e : j / 9 = k
  · obtain ⟨i, hi, rfl⟩ : ∃ i, i < 9 ∧ j = k * 9 + i := ⟨j % 9, by omega, by omega⟩
    rw [(by omega : (k * 9 + i) / 9 = k), (by omega : (k * 9 + i) % 9 = i), hF, if_pos (by omega : k < k + 1)]
    match i, hi with
    | 0, _ => simp; rfl
    | 1, _ => simp; rfl
    | 2, _ => simp; rfl
    | 3, _ => simp; rfl
    | 4, _ => simp; rfl
    | 5, _ => simp; rfl
    | 6, _ => simp; rfl
    | 7, _ => simp; rfl
    | 8, _ => simp; rfl
  · rw [if_neg (by omega), if_neg (by omega), if_neg (by omega), if_neg (by omega), if_neg (by omega), if_neg (by omega), if_neg (by omega), if_neg (by omega), if_neg (by omega)]
    by_cases e2 : j / 9 < k
    · rw [if_pos e2, if_pos (by omega)]
    · rw [if_neg e2, if_neg (by omega)]

theorem row_skip9 {w : World} {b : Nat} {t : TypeId} {n : Nat} {F : Nat → Nat → Value} {k : Nat} (hF : F k = outC false useZ)
    (h : w.rowIs b t n (fun j => if j / 9 < k then F (j / 9) (j % 9) else outC false useZ (j % 9))) :
    w.rowIs b t n (fun j => if j / 9 < k + 1 then F (j / 9) (j % 9) else outC false useZ (j % 9)) := by
  refine h.congr (fun j _ => ?_)
  by_cases e : j / 9 = k
  · rw [if_neg (by omega), if_pos (by omega), e, hF]
  · by_cases e2 : j / 9 < k
    · rw [if_pos e2, if_pos (by omega)]
    · rw [if_neg e2, if_neg (by omega)]

/-- The nine cells of the next place, to be written. -/
theorem row_next9 {w : World} {b : Nat} {t : TypeId} {len : Nat} {f : Nat → Value} {k : Nat} (h : w.rowIs b t (len * 9) f) (hk : k < len) :
    (w.cell? ⟨b, k * 9, none⟩ = some (f (k * 9)) ∧ w.cell? ⟨b, k * 9 + 1, none⟩ = some (f (k * 9 + 1)) ∧ w.cell? ⟨b, k * 9 + 2, none⟩ = some (f (k * 9 + 2)) ∧ w.cell? ⟨b, k * 9 + 3, none⟩ = some (f (k * 9 + 3)) ∧ w.cell? ⟨b, k * 9 + 4, none⟩ = some (f (k * 9 + 4)) ∧ w.cell? ⟨b, k * 9 + 5, none⟩ = some (f (k * 9 + 5)) ∧ w.cell? ⟨b, k * 9 + 6, none⟩ = some (f (k * 9 + 6)) ∧ w.cell? ⟨b, k * 9 + 7, none⟩ = some (f (k * 9 + 7)) ∧ w.cell? ⟨b, k * 9 + 8, none⟩ = some (f (k * 9 + 8))) ∧
    ∀ j, w.frozen? ⟨b, j, none⟩ = false :=
  ⟨⟨h.cell (by omega), h.cell (by omega), h.cell (by omega), h.cell (by omega), h.cell (by omega), h.cell (by omega), h.cell (by omega), h.cell (by omega), h.cell (by omega)⟩, fun j => h.frozen j⟩

theorem ov_of_row {w : World} {b : Nat} {t : TypeId} {l : List OpT} (h : w.rowIs b t (l.length * 4) (fun j => (l.getD (j / 4) opZ).cell (j % 4))) : Ov w (some ⟨b, 0, none⟩) l := fun i hi =>
  ⟨b, rfl, h.lt, fun j hj => by rw [h.cell (by omega), (div4 i j hj).1, (div4 i j hj).2]⟩

theorem cell_drew' (w : World) (a : Addr) : w.drew.cell? a = w.cell? a := rfl
theorem cell_set_ne {b b' : Nat} (h : b ≠ b') (w : World) (o o' : Nat) (v : Value) : (w.setCell ⟨b', o', none⟩ v).cell? ⟨b, o, none⟩ = w.cell? ⟨b, o, none⟩ :=
  World.cell?_of_block (w := w) (Below.heap_setCell w _ _ _ h)

set_option maxHeartbeats 2000000 in
theorem zz_any (bc br bv bp bq : Nat) (l : List OpT) (qs : List Int) (w : World) (hlen : l.length ≤ 4096) (hq : qs.length ≤ 4097) (hwf : ∀ o ∈ l, wf32 o.val) (hwq : ∀ x ∈ qs, wf32 x)
    (rc : w.rowIs bc 2 l.length (cCall l)) (rr : w.rowIs br 2 l.length (cRet l)) (rv : w.rowIs bv 21 l.length (cVal l)) (rp : w.rowIs bp 4 l.length (cPut l)) (rq : w.rowIs bq 21 qs.length (cQ qs)) :
    Calls Try.prog 22 #[.slice (some ⟨bc, 0, none⟩) l.length l.length, .slice (some ⟨br, 0, none⟩) l.length l.length, .slice (some ⟨bv, 0, none⟩) l.length l.length, .slice (some ⟨bp, 0, none⟩) l.length l.length, .slice (some ⟨bq, 0, none⟩) qs.length qs.length] w fun e w' =>
      (∃ P, e = .returned (.tuple #[.int .i64 (dcount l l.length : Nat), .slice (some ⟨P, 0, none⟩) qs.length qs.length]) ∧ w'.rowIs P 45 (qs.length * 9) (fun j => outAt l qs (j / 9) (j % 9)) ∧ w.heap.size ≤ P) ∧ Below w.heap.size w w' := by
  have m51 := make51 l.length (by omega)
  have m40 := make40 qs.length (by omega)
  have RC := Hid.mk rc
  have RR := Hid.mk rr
  have RV := Hid.mk rv
  have RP := Hid.mk rp
  have RQ := Hid.mk rq
  have HW := Hid.mk hwf
  have HWQ := Hid.mk hwq
  have lc := rc.lt
  have lr := rr.lt
  have lv := rv.lt
  have lp := rp.lt
  have lq := rq.lt
  clear rc rr rv rp rq hwf hwq
  go_enter Try.func22, Try.ntmps22
  go_wp2
  go_loopw [23] (fun i wr => ∃ k : Nat, k ≤ l.length ∧ i = .int .i64 k ∧ Hid (wr.rowIs w.heap.size 53 (l.length * 4) (fun j => if j / 4 < k then (l.getD (j / 4) opZ).cell (j % 4) else opZ.cell (j % 4))) ∧ Hid (Below w.heap.size w wr)) (fun i _ => l.length - (intOf i).toNat)
  case atStart => exact ⟨0, Nat.zero_le _, rfl, (made_ops w _ _).congr (fun j _ => by simp), (Below.refl _ _).alloc (Nat.le_refl _) _⟩
  case round =>
    obtain ⟨k, hk, rfl, hrow, hbel⟩ := hrel
    by_cases hlt : k < l.length
    · have e0 := (hbel.out.cell (p := ⟨bc, k, none⟩) lc).trans (RC.out.cell hlt)
      have e1 := (hbel.out.cell (p := ⟨br, k, none⟩) lr).trans (RR.out.cell hlt)
      have e2 := (hbel.out.cell (p := ⟨bv, k, none⟩) lv).trans (RV.out.cell hlt)
      have e3 := (hbel.out.cell (p := ⟨bp, k, none⟩) lp).trans (RP.out.cell hlt)
      simp only [cCall, cRet, cVal, cPut] at e0 e1 e2 e3
      obtain ⟨o, ho⟩ : ∃ o, o = l.getD k opZ := ⟨_, rfl⟩
      rw [← ho] at e0 e1 e2 e3
      have HO : Hid (o = l.getD k opZ) := ho
      clear ho
      obtain ⟨⟨d0, d1, d2, d3⟩, f0, f1, f2, f3⟩ := row_next hrow.out hlt
      have hk1 : (0 : Int) ≤ (k : Int) := by omega
      have hk2 : (k : Int) < (l.length : Int) := by omega
      go_wp2
      go_region
      go_wp2
      go_roundw
      case rel => exact ⟨k + 1, by omega, by go_num, (row_set4 HO.out hrow.out).drew, ((((hbel.out.setCell (Nat.le_refl _) _).setCell (Nat.le_refl _) _).setCell (Nat.le_refl _) _).setCell (Nat.le_refl _) _).drew⟩
      case measure => simp [intOf]; omega
    · have hrow' : wr.rowIs w.heap.size 53 (l.length * 4) (fun j => (l.getD (j / 4) opZ).cell (j % 4)) := hrow.out.congr (fun j hj => by rw [if_pos (by omega)])
      have HB1 := hbel
      have hwlt := hrow'.lt
      have HOV := Hid.mk (ov_of_row hrow')
      clear hrow hrow' hbel
      go_wp2_with fail
      refine (vuses_some w.heap.size l.length l wr hlen hwlt HW.out HOV.out).mono ?_
      rintro e w2 ⟨rfl, ⟨D, hD⟩, hb2⟩
      have HD := Hid.mk hD
      have HB2 := Hid.mk (HB1.out.trans (hb2.mono HB1.out.size))
      clear hD hb2 HB1
      have lM := HD.out.own.lt
      have hsz2 := HB2.out.size
      go_wp2
      go_loopw [54] (fun i wq => ∃ k : Nat, k ≤ qs.length ∧ i = .int .i64 k ∧ Hid (wq.rowIs w2.heap.size 45 (qs.length * 9) (fun j => if j / 9 < k then outAt l qs (j / 9) (j % 9) else outC false useZ (j % 9))) ∧ Hid (Below w2.heap.size w2 wq)) (fun i _ => qs.length - (intOf i).toNat)
      case atStart => exact ⟨0, Nat.zero_le _, rfl, (made_outs w2 _ _).congr (fun j _ => by simp), (Below.refl _ _).alloc (Nat.le_refl _) _⟩
      case round =>
        obtain ⟨q, hq1, rfl, hrow, hbq⟩ := hrel
        have HUq := Hid.mk (HD.out.grow hbq.out)
        by_cases hlt2 : q < qs.length
        · obtain ⟨x, hx⟩ : ∃ x, x = qs.getD q 0 := ⟨_, rfl⟩
          have hwx : wf32 x := by rw [hx]; exact HWQ.out _ (by rw [List.getD_eq_getElem?_getD, List.getElem?_eq_getElem hlt2]; exact List.getElem_mem hlt2)
          have hcx : wr.cell? ⟨bq, q, none⟩ = some (.int .i32 x) := by
            rw [hx]
            exact ((hbq.out.cell (p := ⟨bq, q, none⟩) (by show bq < w2.heap.size; omega)).trans (HB2.out.cell (p := ⟨bq, q, none⟩) lq)).trans (RQ.out.cell hlt2)
          have HX := Hid.mk hx
          obtain ⟨v, ps, hrun, hv⟩ := HUq.out.own.lookup law21 Try.underlying54 (zero56 _) ptrElem_nil (key21 hwx)
          cases hnm : named l x with
          | true =>
            obtain ⟨b2, hM2, hat, hrec⟩ := HUq.out.here x hwx hnm
            obtain ⟨b2', hM2', hat', hrec'⟩ := HD.out.here x hwx hnm
            have hbb : b2' = b2 := by rw [hat] at hat'; simp at hat'; omega
            subst hbb
            have lb2 := hrec'.lt
            rw [hat] at hv
            rw [ptrElem_inv_some hv] at hrun
            obtain ⟨u, hu⟩ : ∃ u, u = useOf l x := ⟨_, rfl⟩
            rw [← hu] at hrec
            have HF : Hid (outAt l qs q = outC true u) := by show outC _ _ = _; rw [← HX.out, hnm, hu]
            obtain ⟨⟨q0, q1, q2, q3, q4, q5, q6, q7⟩, qf⟩ := use_cells hrec
            obtain ⟨⟨d0, d1, d2, d3, d4, d5, d6, d7, d8⟩, df⟩ := row_next9 hrow.out hlt2
            have hne : b2' ≠ w2.heap.size := by omega
            have hk1 : (0 : Int) ≤ (q : Int) := by omega
            have hk2 : (q : Int) < (qs.length : Int) := by omega
            clear hv hat hat' hrec hrec' hu hnm hwx hx ps v
            go_wp2
            go_region_held3 (fun w' => w'.cell? ⟨b2', 0, none⟩ = some (.int .i64 (u.puts : Nat)) ∧ w'.cell? ⟨b2', 1, none⟩ = some (.int .i64 u.pcall) ∧ w'.cell? ⟨b2', 2, none⟩ = some (.int .i64 u.pret) ∧ w'.cell? ⟨b2', 3, none⟩ = some (.int .i32 u.pval) ∧ w'.cell? ⟨b2', 4, none⟩ = some (.bool u.pput) ∧ w'.cell? ⟨b2', 5, none⟩ = some (.bool u.read) ∧ w'.cell? ⟨b2', 6, none⟩ = some (.int .i64 u.first) ∧ w'.cell? ⟨b2', 7, none⟩ = some (.int .i64 u.last)) ((refine ⟨?_, ?_, ?_, ?_, ?_, ?_, ?_, ?_⟩ <;> (simp only [cell_drew', cell_set_ne hne]; assumption))) (fail)
            go_wp2
            go_roundw
            case rel => exact ⟨q + 1, by omega, by go_num, (row_set9 HF.out hrow.out).drew, (((((((((hbq.out.setCell (Nat.le_refl _) _).setCell (Nat.le_refl _) _).setCell (Nat.le_refl _) _).setCell (Nat.le_refl _) _).setCell (Nat.le_refl _) _).setCell (Nat.le_refl _) _).setCell (Nat.le_refl _) _).setCell (Nat.le_refl _) _).setCell (Nat.le_refl _) _).drew⟩
            case measure => simp [intOf]; omega
          | false =>
            rw [(HUq.out.gone x hwx hnm).1] at hv
            rw [ptrElem_inv_nil hv] at hrun
            have HF : Hid (outAt l qs q = outC false useZ) := by show outC _ _ = _; rw [← HX.out, hnm, useOf_unnamed _ _ hnm]
            clear hv hnm hwx hx ps v
            go_wp2
            go_roundw
            case rel => exact ⟨q + 1, by omega, by go_num, row_skip9 HF.out hrow.out, hbq⟩
            case measure => simp [intOf]; omega
        · go_wp2_with (at_len; refine wpList_len_own _ rfl _ 54 rfl 21 56 Try.underlying54 _ _ _ _ rfl HUq.out.own ?_)
          go_ret2
          rw [HUq.out.size]
          exact ⟨⟨w2.heap.size, rfl, hrow.out.congr (fun j hj => by rw [if_pos (by omega)]), by omega⟩, HB2.out.trans (hbq.out.mono hsz2)⟩
end Go.Proofs.Qxb6601079a
