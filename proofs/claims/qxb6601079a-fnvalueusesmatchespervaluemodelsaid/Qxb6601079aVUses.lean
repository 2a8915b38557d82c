/-
  valueUses: the contract.
-/
import Derived.Test.Qxb6601079aUses
namespace Go.Proofs.Qxb6601079a
open Go.RowKit

theorem zero56 (w : World) : (zeroValue 56).run Try.prog w = .ok (.pointer none) w := by kernel_rfl

set_option maxHeartbeats 1000000 in
theorem vuses_some (b cap : Nat) (l : List OpT) (w : World) (hlen : l.length ≤ 4096) (hb : b < w.heap.size) (hwf : ∀ o ∈ l, wf32 o.val) (hc : Ov w (some ⟨b, 0, none⟩) l) :
    Calls Try.prog 32 #[.slice (some ⟨b, 0, none⟩) l.length cap] w fun e w' =>
      e = .returned (.map (some w.heap.size)) ∧ (∃ D, UInv w.heap.size l.length (dcount l l.length) (named l) (useOf l) w' D) ∧ Below w.heap.size w w' := by
  have HC : Hid (Ov w (some ⟨b, 0, none⟩) l) := hc
  have HW : Hid (∀ o ∈ l, wf32 o.val) := hwf
  clear hc hwf
  have hmm := @run_makeMap Try.prog
  go_enter Try.func32, Try.ntmps32
  go_wp2
  go_loopw [10] (fun i wr => ∃ k : Nat, k ≤ l.length ∧ i = .int .i64 k ∧ Hid (∃ D, UInv w.heap.size k (dcount l k) (named (l.take k)) (useOf (l.take k)) wr D) ∧ Hid (Below w.heap.size w wr)) (fun i _ => l.length - (intOf i).toNat)
  case atStart => exact ⟨0, Nat.zero_le _, rfl, ⟨_, UInv.start w _⟩, (Below.refl _ _).alloc (Nat.le_refl _) _⟩
  case round =>
    obtain ⟨k, hk, rfl, hinv, hbel⟩ := hrel
    by_cases hlt : k < l.length
    · obtain ⟨D, hD⟩ := hinv.out
      obtain ⟨b', hb', _, c0, c1, c2, c3⟩ := HC.out.cells hlt
      simp only [Option.some.injEq, Addr.mk.injEq, and_true] at hb'
      subst hb'
      have e0 := (hbel.out.cell (p := ⟨b, k * 4, none⟩) hb).trans c0
      have e1 := (hbel.out.cell (p := ⟨b, k * 4 + 1, none⟩) hb).trans c1
      have e2 := (hbel.out.cell (p := ⟨b, k * 4 + 2, none⟩) hb).trans c2
      have e3 := (hbel.out.cell (p := ⟨b, k * 4 + 3, none⟩) hb).trans c3
      obtain ⟨o, ho⟩ : ∃ o, o = l.getD k opZ := ⟨_, rfl⟩
      rw [← ho] at e0 e1 e2 e3
      have HO : Hid (o = l.getD k opZ) := ho
      clear c0 c1 c2 c3 ho
      have hwv : wf32 o.val := by rw [HO.out]; exact HW.out _ (by rw [List.getD_eq_getElem?_getD, List.getElem?_eq_getElem hlt]; exact List.getElem_mem hlt)
      have HWV : Hid (wf32 o.val) := hwv
      have hU1 : UInv w.heap.size k (dcount l k) (named (l.take k)) (useOf (l.take k)) (wr.alloc (.cells #[.int .i64 o.call, .int .i64 o.ret, .int .i32 o.val, .bool o.put] 53)) D := hD.grow ((Below.refl _ _).alloc (Nat.le_refl _) _)
      have hMlt := hD.own.lt
      cases hnm : named (l.take k) o.val with
      | true =>
        obtain ⟨b2, hM2, hat, hrow⟩ := hD.here o.val hwv hnm
        have hb2 := hrow.lt
        obtain ⟨v, ps, hrun, hv⟩ := hU1.own.lookup law21 Try.underlying54 (zero56 _) ptrElem_nil (key21 hwv)
        rw [hat] at hv
        rw [ptrElem_inv_some hv] at hrun
        obtain ⟨u, hu⟩ : ∃ u, u = useOf (l.take k) o.val := ⟨_, rfl⟩
        have hpl : u.puts ≤ 4096 := by have := puts_le (l.take k) o.val; rw [← hu] at this; simp at this; omega
        rw [← hu] at hrow
        have HU : Hid (u = useOf (l.take k) o.val) := hu
        have HD : Hid (UInv w.heap.size k (dcount l k) (named (l.take k)) (useOf (l.take k)) wr D) := hD
        have HU1 := hU1
        have HU1' : Hid (UInv w.heap.size k (dcount l k) (named (l.take k)) (useOf (l.take k)) (wr.alloc (.cells #[.int .i64 o.call, .int .i64 o.ret, .int .i32 o.val, .bool o.put] 53)) D) := hU1
        have HAT : Hid (D.atKey (K32 o.val) .nil = .lit (.int .i64 b2)) := hat
        have HNM : Hid (named (l.take k) o.val = true) := hnm
        have HROW : Hid (wr.rowIs b2 58 8 u.cell) := hrow
        obtain ⟨⟨q0, q1, q2, q3, q4, q5, q6, q7⟩, qf⟩ := use_cells hrow
        clear hD hU1 HU1 hv hat hnm hrow hu hinv hwv ps v
        have hne : b2 ≠ wr.heap.size := by omega
        cases hput : o.put with
        | true =>
          have HP : Hid (o.put = true) := hput
          rw [hput] at e3 hrun HU1'
          go_wp2
          go_roundw
          case rel =>
            obtain ⟨D', hD'⟩ := UInv.next_old hlt HO.out HNM.out HWV.out hM2 HAT.out HD.out (grownBy_set (grownBy_set (grownBy_set (grownBy_set (grownBy_set (grownBy_rfl _ _) _ _) _ _) _ _) _ _) _ _) (row_put o true HP.out.symm HROW.out) (by rw [upd_put HP.out, HU.out])
            exact ⟨k + 1, by omega, by go_num, ⟨D', hD'.grow ((Below.refl _ _).alloc (Nat.le_refl _) _)⟩, (((((hbel.out.setCell (Nat.le_of_lt hM2) _).setCell (Nat.le_of_lt hM2) _).setCell (Nat.le_of_lt hM2) _).setCell (Nat.le_of_lt hM2) _).setCell (Nat.le_of_lt hM2) _).alloc (by simp; omega) _⟩
          case measure => simp [intOf]; omega
        | false =>
          have HP : Hid (o.put = false) := hput
          rw [hput] at e3 hrun HU1'
          cases hread : u.read with
          | true =>
            have HRD : Hid (u.read = true) := hread
            rw [hread] at q5
            go_wp2
            go_region
            all_goals go_wp2
            all_goals go_region
            all_goals go_wp2
            all_goals
              go_roundw
              case rel =>
                exact ⟨k + 1, by omega, by go_num, rel_more hlt HO.out HNM.out HWV.out hM2 HAT.out HD.out HU.out HROW.out HP.out HRD.out (by omega) (by split <;> omega), ((((hbel.out.setCell (Nat.le_of_lt hM2) _).setCell (Nat.le_of_lt hM2) _).alloc (by simp; omega) _).drew).drew⟩
              case measure => simp [intOf]; omega
          | false =>
            have HRD : Hid (u.read = false) := hread
            rw [hread] at q5
            go_wp2
            go_region
            all_goals go_wp2
            go_roundw
            case rel =>
              obtain ⟨D', hD'⟩ := UInv.next_old hlt HO.out HNM.out HWV.out hM2 HAT.out HD.out (grownBy_set (grownBy_set (grownBy_set (grownBy_rfl _ _) _ _) _ _) _ _) (row_new o HROW.out) (by rw [upd_new HP.out HRD.out, HU.out])
              exact ⟨k + 1, by omega, by go_num, ⟨D', (hD'.grow ((Below.refl _ _).alloc (Nat.le_refl _) _)).grow (Below.refl _ _).drew⟩, ((((hbel.out.setCell (Nat.le_of_lt hM2) _).setCell (Nat.le_of_lt hM2) _).setCell (Nat.le_of_lt hM2) _).alloc (by simp; omega) _).drew⟩
            case measure => simp [intOf]; omega
      | false =>
        obtain ⟨v, ps, hrun, hv⟩ := hU1.own.lookup law21 Try.underlying54 (zero56 _) ptrElem_nil (key21 hwv)
        rw [(hD.gone o.val hwv hnm).1] at hv
        rw [ptrElem_inv_nil hv] at hrun
        have HD : Hid (UInv w.heap.size k (dcount l k) (named (l.take k)) (useOf (l.take k)) wr D) := hD
        have HNM : Hid (named (l.take k) o.val = false) := hnm
        clear hD hU1 hv hnm hinv hwv ps v
        cases hput : o.put with
        | true =>
          have HP : Hid (o.put = true) := hput
          rw [hput] at e3 hrun
          go_wp2_with (at_mapUpdate; refine wpList_mapUpdate_own _ rfl _ _ _ 54 rfl 21 56 law21 Try.underlying54 ptrElem w.heap.size k D rfl ((HD.out.own.alloc _).alloc _) (by unfold maxLen; omega) _ _ (K32 o.val) rfl rfl (key21 HWV.out) (.lit (.int .i64 ((wr.heap.size + 1 : Nat) : Int))) [] (ptrElem_some _) ?_; intro w1 hown1 hgrow1; obtain ⟨u, HU, hpl, HROW, ⟨q0, q1, q2, q3, q4, q5, q6, q7⟩, qf, ⟨i0, i1, i2, i3⟩, hsz1⟩ := new_all hMlt hgrow1; have HOWN := Hid.mk hown1; have HG1 := Hid.mk hgrow1; clear hown1 hgrow1)
          go_roundw
          case rel =>
            have hle : w.heap.size ≤ wr.heap.size + 1 := by omega
            exact ⟨k + 1, by omega, by go_num, UInv.next_new hlt HO.out HNM.out HWV.out HD.out HOWN.out HG1.out (grownBy_set (grownBy_set (grownBy_set (grownBy_set (grownBy_set (grownBy_rfl _ _) _ _) _ _) _ _) _ _) _ _) (row_put o true HP.out.symm HROW.out) (by rw [upd_put HP.out, HU.out]), (((((below_new hbel.out HG1.out).setCell hle _).setCell hle _).setCell hle _).setCell hle _).setCell hle _⟩
          case measure => simp [intOf]; omega
        | false =>
          have HP : Hid (o.put = false) := hput
          rw [hput] at e3 hrun
          go_wp2_with (at_mapUpdate; refine wpList_mapUpdate_own _ rfl _ _ _ 54 rfl 21 56 law21 Try.underlying54 ptrElem w.heap.size k D rfl ((HD.out.own.alloc _).alloc _) (by unfold maxLen; omega) _ _ (K32 o.val) rfl rfl (key21 HWV.out) (.lit (.int .i64 ((wr.heap.size + 1 : Nat) : Int))) [] (ptrElem_some _) ?_; intro w1 hown1 hgrow1; obtain ⟨u, HU, hpl, HROW, ⟨q0, q1, q2, q3, q4, q5, q6, q7⟩, qf, ⟨i0, i1, i2, i3⟩, hsz1⟩ := new_all hMlt hgrow1; have HOWN := Hid.mk hown1; have HG1 := Hid.mk hgrow1; clear hown1 hgrow1)
          go_region
          all_goals go_wp2
          go_roundw
          case rel =>
            have hle : w.heap.size ≤ wr.heap.size + 1 := by omega
            have hrd : u.read = false := by rw [HU.out]; rfl
            obtain ⟨D', hD'⟩ := UInv.next_new hlt HO.out HNM.out HWV.out HD.out HOWN.out HG1.out (grownBy_set (grownBy_set (grownBy_set (grownBy_rfl _ _) _ _) _ _) _ _) (row_new o HROW.out) (by rw [upd_new HP.out hrd, HU.out])
            exact ⟨k + 1, by omega, by go_num, ⟨D', hD'.grow (Below.refl _ _).drew⟩, ((((below_new hbel.out HG1.out).setCell hle _).setCell hle _).setCell hle _).drew⟩
          case measure => simp [intOf]; omega
    · go_wp2
      go_ret
      have e : k = l.length := by omega
      subst e
      have h := hinv.out
      rw [List.take_length] at h
      exact ⟨rfl, h, hbel.out⟩
end Go.Proofs.Qxb6601079a
