/-
  The law FnValueUsesMatchesPerValueModel, walked.
-/
import Derived.Test.Qxb6601079aUMod
namespace Go.Proofs.Qxb6601079a
open Go.RowKit

set_option maxHeartbeats 400000 in
theorem zz19_any (a0 : Option Addr) (len0 cap0 : Nat) (i : Int) (w : World) (h0 : len0 ≤ maxLen) :
    Calls Try.prog 19 #[.slice a0 len0 cap0, .int .i32 i] w fun e w' => e = .returned (.bool (decide (len0 ≤ 1048576))) ∧ w' = w := by
  unfold maxLen at h0
  by_cases c0 : len0 ≤ 1048576
  · go_enter Try.func19, Try.ntmps19
    go_wp2
    go_ret
    exact ⟨by simp [c0], rfl⟩
  · go_enter Try.func19, Try.ntmps19
    go_wp2
    go_ret
    exact ⟨by simp [c0], rfl⟩

theorem umod_at (a : Option Addr) (n cap : Nat) (l : List OpT) (x : Int) (f : Bool) (u : UseT) (w : World) (hn : n = l.length) (hlen : l.length ≤ 4096) (hv : Ov w a l) (hf : f = named l x) (hu : u = useOf l x) :
    Calls Try.prog 24 #[.slice a n cap, .int .i32 x] w fun e w' => e = .returned (.agg #[.bool f, .int .i64 (u.puts : Nat), .int .i64 u.pcall, .int .i64 u.pret, .int .i32 u.pval, .bool u.pput, .bool u.read, .int .i64 u.first, .int .i64 u.last]) ∧ Below w.heap.size w w' := by
  subst hn hf hu
  exact umod_any a cap l x w hlen hv

theorem zz_at (bc br bv bp bq m : Nat) (l : List OpT) (qs : List Int) (w : World) (hm : m = qs.length) (hlen : l.length ≤ 4096) (hq : qs.length ≤ 4097) (hwf : ∀ o ∈ l, wf32 o.val) (hwq : ∀ x ∈ qs, wf32 x)
    (rc : w.rowIs bc 2 l.length (cCall l)) (rr : w.rowIs br 2 l.length (cRet l)) (rv : w.rowIs bv 21 l.length (cVal l)) (rp : w.rowIs bp 4 l.length (cPut l)) (rq : w.rowIs bq 21 m (cQ qs)) :
    Calls Try.prog 22 #[.slice (some ⟨bc, 0, none⟩) l.length l.length, .slice (some ⟨br, 0, none⟩) l.length l.length, .slice (some ⟨bv, 0, none⟩) l.length l.length, .slice (some ⟨bp, 0, none⟩) l.length l.length, .slice (some ⟨bq, 0, none⟩) m m] w fun e w' =>
      (∃ P, e = .returned (.tuple #[.int .i64 (dcount l l.length : Nat), .slice (some ⟨P, 0, none⟩) m m]) ∧ w'.rowIs P 45 (m * 9) (fun j => outAt l qs (j / 9) (j % 9)) ∧ w.heap.size ≤ P) ∧ Below w.heap.size w w' := by
  subst hm
  exact zz_any bc br bv bp bq l qs w hlen hq hwf hwq rc rr rv rp rq

theorem qs_at (l : List OpT) (other : Int) (j : Nat) (h : j < l.length + 1) : (if j = l.length then Value.int .i32 other else upTo l.length (cVal l) (.int .i32 0) j) = cQ (l.map (·.val) ++ [other]) j := by
  unfold cQ
  by_cases e : j = l.length
  · subst e
    simp [List.getD_eq_getElem?_getD]
  · have hj : j < l.length := by omega
    rw [if_neg e, upTo_all _ _ _ _ hj, cVal, List.getD_eq_getElem?_getD, List.getD_eq_getElem?_getD, List.getElem?_append_left (by simpa using hj)]
    simp [hj]

theorem got_cells {w : World} {b : Nat} {t : TypeId} {n q : Nat} {F : Nat → Nat → Value} {f : Bool} {u : UseT} (h : w.rowIs b t (n * 9) (fun j => F (j / 9) (j % 9))) (hq : q < n) (hF : F q = outC f u) :
    w.cell? ⟨b, q * 9, none⟩ = some (.bool f) ∧ w.cell? ⟨b, q * 9 + 1, none⟩ = some (.int .i64 (u.puts : Nat)) ∧ w.cell? ⟨b, q * 9 + 2, none⟩ = some (.int .i64 u.pcall) ∧ w.cell? ⟨b, q * 9 + 3, none⟩ = some (.int .i64 u.pret) ∧ w.cell? ⟨b, q * 9 + 4, none⟩ = some (.int .i32 u.pval) ∧
     w.cell? ⟨b, q * 9 + 5, none⟩ = some (.bool u.pput) ∧ w.cell? ⟨b, q * 9 + 6, none⟩ = some (.bool u.read) ∧ w.cell? ⟨b, q * 9 + 7, none⟩ = some (.int .i64 u.first) ∧ w.cell? ⟨b, q * 9 + 8, none⟩ = some (.int .i64 u.last) := by
  have key : ∀ i, i < 9 → w.cell? ⟨b, q * 9 + i, none⟩ = some (outC f u i) := fun i hi => by
    rw [h.cell (by omega), (by omega : (q * 9 + i) / 9 = q), (by omega : (q * 9 + i) % 9 = i), hF]
  exact ⟨key 0 (by omega), key 1 (by omega), key 2 (by omega), key 3 (by omega), key 4 (by omega), key 5 (by omega), key 6 (by omega), key 7 (by omega), key 8 (by omega)⟩

set_option maxHeartbeats 4000000 in
set_option maxRecDepth 100000 in
theorem vlaw_main (a0 : Option Addr) (len0 cap0 : Nat) (zs : List OpT) (other : Int) (w : World) (w0 : InOps w a0 len0 cap0 zs) (hwz : ∀ o ∈ zs, wf32 o.val) (hwo : wf32 other)
   (m0 : len0 ≤ maxLen) (h0 : len0 ≤ 4096) :
    Calls Try.prog 7 #[.slice a0 len0 cap0, .int .i32 other] w fun e w' => e = .returned (.bool true) ∧ Below w.heap.size w w' := by
  have z0l := w0.len_bd.2
  have h20 : len0 ≤ 1048576 := by omega
  have HWZ := Hid.mk hwz
  have HWO := Hid.mk hwo
  clear hwz hwo
  go_enter Try.func7, Try.ntmps7
  go_wp2_with fail
  refine (zz19_any _ _ _ _ _ m0).mono ?_
  rintro e w' ⟨rfl, rfl⟩
  go_wp2_with fail
  refine (cloneOps_any _ _ _ _ _ w0 h0).mono ?_
  rintro e wa ⟨a, cap, rfl, hv, hb1⟩
  obtain ⟨l, hl⟩ : ∃ l, l = zs.take len0 := ⟨_, rfl⟩
  have hll : l.length = len0 := by rw [hl, List.length_take]; omega
  rw [← hl] at hv
  have HWL : Hid (∀ o ∈ l, wf32 o.val) := fun o ho => HWZ.out o (by rw [hl] at ho; exact List.mem_of_mem_take ho)
  subst hll
  have HB1 := Hid.mk hb1
  have HV := Hid.mk hv
  clear hl z0l hv hb1 w0 HWZ m0 h20
  go_wp2_with fail
  refine (split_any a cap l _ h0 HV.out).mono ?_
  rintro e wb ⟨rfl, r0, r1, r2, r3, hb2⟩
  have HR := Hid.mk (And.intro r0 (And.intro r1 (And.intro r2 r3)))
  have HB2 := Hid.mk hb2
  have s2 := r3.lt
  clear r0 r1 r2 r3 hb2
  have hmk := make34 (l.length + 1) (by omega)
  rw [show ((l.length + 1 : Nat) : Int) = (l.length : Int) + 1 by omega] at hmk
  have HVB := Hid.mk (HV.out.later HB2.out (Nat.le_refl _))
  have HBB := Hid.mk (HB1.out.trans (HB2.out.mono HB1.out.size))
  clear HV HB1 HB2
  go_wp2
  go_loopw [11] (fun i wr => ∃ k : Nat, k ≤ l.length ∧ i = .int .i64 k ∧ Hid (wr.rowIs wb.heap.size 21 (l.length + 1) (upTo k (cVal l) (.int .i32 0))) ∧ Hid (Below wb.heap.size wb wr)) (fun i _ => l.length - (intOf i).toNat)
  case atStart => exact ⟨0, Nat.zero_le _, rfl, (World.rowIs_made wb _ _ _).congr (fun j _ => upTo_zero _ _ j), (Below.refl _ _).alloc (Nat.le_refl _) _⟩
  case round =>
    obtain ⟨k, hk, rfl, hrow, hbel⟩ := hrel
    by_cases hlt : k < l.length
    · obtain ⟨b, rfl, hb, _, _, c2, _⟩ := HVB.out.cells hlt
      obtain ⟨y, hy⟩ : ∃ y, y = (l.getD k opZ).val := ⟨_, rfl⟩
      rw [← hy] at c2
      have e2 := (hbel.out.cell (p := ⟨b, k * 4 + 2, none⟩) hb).trans c2
      have HY := Hid.mk hy
      have d2 := hrow.out.cell (i := k) (by omega)
      have f2 := hrow.out.frozen k
      clear c2 hy
      go_wp2
      go_roundw
      case rel => exact ⟨k + 1, by omega, by go_num, (hrow.out.set _ _).congr (fun j _ => by rw [← upTo_step, cVal, ← HY.out]), hbel.out.setCell (Nat.le_refl _) _⟩
      case measure => simp [intOf]; omega
    · have HK : Hid (k = l.length) := by show k = l.length; omega
      have d2 := hrow.out.cell (i := l.length) (by omega)
      have f2 := hrow.out.frozen l.length
      have HBW := Hid.mk (hbel.out.setCell (p := ⟨wb.heap.size, l.length, none⟩) (Nat.le_refl _) (.int .i32 other))
      have HQ : Hid ((wr.setCell ⟨wb.heap.size, l.length, none⟩ (.int .i32 other)).rowIs wb.heap.size 21 (l.length + 1) (cQ (l.map (·.val) ++ [other]))) := by
        have h := hrow.out
        rw [HK.out] at h
        exact (h.set l.length (.int .i32 other)).congr (fun j hj => qs_at l other j hj)
      have HWQ : Hid (∀ x ∈ l.map (·.val) ++ [other], wf32 x) := by
        intro x hx
        rcases List.mem_append.1 hx with hx | hx
        · obtain ⟨o, ho, rfl⟩ := List.mem_map.1 hx
          exact HWL.out o ho
        · rw [List.mem_singleton.1 hx]; exact HWO.out
      clear hrow hbel
      go_wp2_with fail
      obtain ⟨r0, r1, r2, r3⟩ := HR.out
      refine (zz_at _ _ _ _ _ (l.length + 1) l (l.map (·.val) ++ [other]) _ (by simp) h0 (by simp; omega) HWL.out HWQ.out (r0.of_block (HBW.out.block _ r0.lt)) (r1.of_block (HBW.out.block _ r1.lt)) (r2.of_block (HBW.out.block _ r2.lt)) (r3.of_block (HBW.out.block _ r3.lt)) HQ.out).mono ?_
      rintro e wc ⟨⟨P, rfl, hout, hP⟩, hbc⟩
      have HVW := HVB.out.later HBW.out (Nat.le_refl _)
      have HVC := Hid.mk (HVW.later hbc (Nat.le_refl _))
      have HBC := Hid.mk (HBB.out.trans ((HBW.out.trans (hbc.mono HBW.out.size)).mono HBB.out.size))
      have HOUT := Hid.mk hout
      have HQC := Hid.mk (HQ.out.of_block (hbc.block _ HQ.out.lt))
      clear r0 r1 r2 r3 hbc hout HR HVB HBB HQ HBW HVW hP
      go_wp2_with fail
      refine (dist_any _ _ l _ h0 HVC.out).mono ?_
      rintro e wd ⟨rfl, hbd⟩
      have HVD := Hid.mk (HVC.out.later hbd (Nat.le_refl _))
      have HOUTD := Hid.mk (HOUT.out.of_block (hbd.block _ HOUT.out.lt))
      have HQD := Hid.mk (HQC.out.of_block (hbd.block _ HQC.out.lt))
      have HBD := Hid.mk (HBC.out.trans (hbd.mono HBC.out.size))
      clear hbd HVC HOUT HQC HBC
      generalize dcount l l.length = dc
      go_wp2
      go_loopw [14] (fun i wr => ∃ k : Nat, k ≤ l.length + 1 ∧ i = .int .i64 k ∧ Hid (Below wd.heap.size wd wr)) (fun i _ => l.length + 1 - (intOf i).toNat)
      case atStart => exact ⟨0, Nat.zero_le _, rfl, Below.refl _ _⟩
      case round =>
        rename_i wr
        obtain ⟨q, hq, rfl, hbel⟩ := hrel
        by_cases hlt2 : q ≤ l.length
        · obtain ⟨x, hx⟩ : ∃ x, x = (l.map (·.val) ++ [other]).getD q 0 := ⟨_, rfl⟩
          obtain ⟨f, hf⟩ : ∃ f, f = named l x := ⟨_, rfl⟩
          obtain ⟨u, hu⟩ : ∃ u, u = useOf l x := ⟨_, rfl⟩
          have hO : outAt l (l.map (·.val) ++ [other]) q = outC f u := by rw [outAt, ← hx, hf, hu]
          have HOR := HOUTD.out.of_block (hbel.out.block _ HOUTD.out.lt)
          have HQR := (HQD.out.of_block (hbel.out.block _ HQD.out.lt)).cell (i := q) (by omega)
          rw [cQ, ← hx] at HQR
          have HVR := Hid.mk (HVD.out.later hbel.out (Nat.le_refl _))
          obtain ⟨g0, g1, g2, g3, g4, g5, g6, g7, g8⟩ := got_cells HOR (by omega) hO
          have HF := Hid.mk hf
          have HU := Hid.mk hu
          have hq1 : (0 : Int) ≤ (q : Int) := by omega
          have hq2 : (q : Int) < (l.length : Int) + 1 := by omega
          have hq3 : (q : Int) ≤ (l.length : Int) := by omega
          have hPlt := HOR.lt
          have hQlt := HQD.out.lt
          have hdr := hbel.out.size
          clear hx hf hu hO HOR
          go_wp2
          go_region_held3 (fun w' => w'.cell? ⟨P, q * 9, none⟩ = some (.bool f) ∧ w'.cell? ⟨P, q * 9 + 1, none⟩ = some (.int .i64 (u.puts : Nat)) ∧ w'.cell? ⟨P, q * 9 + 2, none⟩ = some (.int .i64 u.pcall) ∧ w'.cell? ⟨P, q * 9 + 3, none⟩ = some (.int .i64 u.pret) ∧ w'.cell? ⟨P, q * 9 + 4, none⟩ = some (.int .i32 u.pval) ∧ w'.cell? ⟨P, q * 9 + 5, none⟩ = some (.bool u.pput) ∧ w'.cell? ⟨P, q * 9 + 6, none⟩ = some (.bool u.read) ∧ w'.cell? ⟨P, q * 9 + 7, none⟩ = some (.int .i64 u.first) ∧ w'.cell? ⟨P, q * 9 + 8, none⟩ = some (.int .i64 u.last) ∧ w'.cell? ⟨wb.heap.size, q, none⟩ = some (.int .i32 x)) ((first | exact ⟨g0, g1, g2, g3, g4, g5, g6, g7, g8, HQR⟩ | exact ⟨cell_later hb9 g0, cell_later hb9 g1, cell_later hb9 g2, cell_later hb9 g3, cell_later hb9 g4, cell_later hb9 g5, cell_later hb9 g6, cell_later hb9 g7, cell_later hb9 g8, cell_later hb9 HQR⟩)) ((go_at_call 24; refine (umod_at a _ _ l x f u _ rfl h0 (by exact HVR.out) HF.out HU.out).mono ?_; rintro e w9 ⟨rfl, hb9⟩))
          have HB9 : Hid (Below wd.heap.size wd w9) := by
            have h : Below wr.heap.size wr w9 := (Below.refl _ wr).drew.trans hb9
            exact hbel.out.trans (h.mono hdr)
          clear g0 g1 g2 g3 g4 g5 g6 g7 g8 HQR hb9 HVR HF HU
          go_wp2
          go_roundw
          case rel => exact ⟨q + 1, by omega, by go_num, HB9⟩
          case measure => simp [intOf]; omega
        · go_wp2
          go_ret
          exact ⟨rfl, HBD.out.trans (hbel.out.mono HBD.out.size)⟩
set_option maxHeartbeats 400000 in
theorem vlaw (a0 : Option Addr) (len0 cap0 : Nat) (zs : List OpT) (other : Int) (w : World) (w0 : InOps w a0 len0 cap0 zs) (hwz : ∀ o ∈ zs, wf32 o.val) (hwo : wf32 other) :
    Calls Try.prog 7 #[.slice a0 len0 cap0, .int .i32 other] w fun e w' => e = .returned (.bool true) ∧ Below w.heap.size w w' := by
  have m0 := w0.len_bd.1
  by_cases h0 : len0 ≤ 4096
  · exact vlaw_main a0 len0 cap0 zs other w w0 hwz hwo m0 h0
  · clear w0 hwz hwo
    by_cases h20 : len0 ≤ 1048576
    · go_enter Try.func7, Try.ntmps7
      go_wp2_with (go_at_call 19; refine (zz19_any _ _ _ _ _ m0).mono ?_; rintro e w' ⟨rfl, rfl⟩)
      go_ret
      exact ⟨rfl, Below.refl _ _⟩
    · go_enter Try.func7, Try.ntmps7
      go_wp2_with (go_at_call 19; refine (zz19_any _ _ _ _ _ m0).mono ?_; rintro e w' ⟨rfl, rfl⟩)
      go_ret
      exact ⟨rfl, Below.refl _ _⟩

end Go.Proofs.Qxb6601079a
