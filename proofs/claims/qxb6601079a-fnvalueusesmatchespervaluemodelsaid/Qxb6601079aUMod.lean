/-
  useModel: the contract.
-/
import Derived.Test.Qxb6601079aZZ
import Derived.Test.Qxb6601079aDist
namespace Go.Proofs.Qxb6601079a
open Go.RowKit

/-! ### Plain: the fields one by one -/
theorem puts_snoc (l : List OpT) (o : OpT) (x : Int) : (useOf (l ++ [o]) x).puts = (useOf l x).puts + if (o.val == x && o.put) = true then 1 else 0 := by
  rw [useOf_snoc]
  by_cases h : o.val = x
  · rw [if_pos h]
    cases hp : o.put
    · cases hr : (useOf l x).read
      · rw [← upd_new hp hr]; simp [updNew]
      · rw [← upd_more hp hr]; simp [updMore]
    · rw [← upd_put hp]; simp [updPut, h]
  · rw [if_neg h]
    simp [h]

/-- The four fields of the last put. -/
def pf (u : UseT) : Int × Int × Int × Bool := (u.pcall, u.pret, u.pval, u.pput)
def isPut (x : Int) (o : OpT) : Bool := o.val == x && o.put

theorem pf_upd_get (u : UseT) (o : OpT) (h : o.put = false) : pf (upd u o) = pf u := by
  cases hr : u.read
  · rw [← upd_new h hr]; rfl
  · rw [← upd_more h hr]; rfl
theorem pf_foldl (x : Int) : ∀ (l : List OpT) (u : UseT), l.any (isPut x) = false → pf (l.foldl (fun u o => if o.val = x then upd u o else u) u) = pf u
  | [], u, _ => rfl
  | o :: l, u, h => by
    simp only [List.any_cons, Bool.or_eq_false_iff] at h
    simp only [List.foldl_cons]
    rw [pf_foldl x l _ h.2]
    by_cases e : o.val = x
    · rw [if_pos e]
      have := h.1
      simp only [isPut, e, beq_self_eq_true, Bool.true_and] at this
      exact pf_upd_get u o this
    · rw [if_neg e]

theorem useOf_split (l : List OpT) (k : Nat) (x : Int) : useOf l x = (l.drop k).foldl (fun u o => if o.val = x then upd u o else u) (useOf (l.take k) x) := by
  unfold useOf
  rw [← List.foldl_append, List.take_append_drop]

theorem pf_none (l : List OpT) (x : Int) (h : (l.drop 0).any (isPut x) = false) : pf (useOf l x) = (0, 0, 0, false) := by
  rw [useOf_split l 0 x, pf_foldl x _ _ h]; rfl
theorem pf_hit (l : List OpT) (x : Int) (j : Nat) (hj : j < l.length) (h : (l.drop (j + 1)).any (isPut x) = false) (hp : isPut x (l.getD j opZ) = true) :
    pf (useOf l x) = ((l.getD j opZ).call, (l.getD j opZ).ret, x, true) := by
  rw [useOf_split l (j + 1) x, pf_foldl x _ _ h, take_snoc_op l j hj, useOf_snoc]
  simp only [isPut, Bool.and_eq_true, beq_iff_eq] at hp
  rw [if_pos hp.1, ← upd_put hp.2]
  simp only [updPut, pf, hp.1, hp.2]
theorem any_drop_step (l : List OpT) (x : Int) (j : Nat) (hj : j < l.length) (h : (l.drop (j + 1)).any (isPut x) = false) (hp : isPut x (l.getD j opZ) = false) : (l.drop j).any (isPut x) = false := by
  rw [List.drop_eq_getElem_cons hj, List.any_cons, h]
  have : l.getD j opZ = l[j] := by simp [List.getD_eq_getElem?_getD, hj]
  rw [← this, hp]; rfl

/-- The three fields of the reads. -/
def rf (u : UseT) : Bool × Int × Int := (u.read, u.first, u.last)
theorem rf_skip (l : List OpT) (o : OpT) (x : Int) (h : (o.val != x || o.put) = true) : rf (useOf (l ++ [o]) x) = rf (useOf l x) := by
  rw [useOf_snoc]
  by_cases e : o.val = x
  · rw [if_pos e]
    have hp : o.put = true := by simpa [e] using h
    simp [upd, hp, updPut, rf]
  · rw [if_neg e]
theorem rf_new (l : List OpT) (o : OpT) (x : Int) (h : (o.val == x) = true) (hp : o.put = false) (hr : (useOf l x).read = false) : rf (useOf (l ++ [o]) x) = (true, o.ret, o.call) := by
  rw [useOf_snoc, if_pos (by simpa using h)]
  simp [upd, hp, hr, updNew, rf]
theorem rf_more (l : List OpT) (o : OpT) (x : Int) (h : (o.val == x) = true) (hp : o.put = false) (hr : (useOf l x).read = true) : rf (useOf (l ++ [o]) x) = (true, min (useOf l x).first o.ret, max (useOf l x).last o.call) := by
  rw [useOf_snoc, if_pos (by simpa using h)]
  simp [upd, hp, hr, updMore, rf]

def mk3 (n : Nat) (p : Int × Int × Int × Bool) (r : Bool × Int × Int) : UseT := ⟨n, p.1, p.2.1, p.2.2.1, p.2.2.2, r.1, r.2.1, r.2.2⟩
theorem mk3_eta (u : UseT) : mk3 u.puts (pf u) (rf u) = u := rfl

def recOut : Obj := .cells #[.bool false, .int .i64 0, .int .i64 0, .int .i64 0, .int .i32 0, .bool false, .bool false, .int .i64 0, .int .i64 0] 45
theorem new_out (w : World) : (w.alloc recOut).rowIs w.heap.size 45 9 (outC false useZ) :=
  World.rowIs_alloc w _ 45 (outC false useZ) (fun i hi => outZ_cell i hi)

theorem out_cells {w : World} {b : Nat} {f : Bool} {u : UseT} (h : w.rowIs b 45 9 (outC f u)) :
    (w.cell? ⟨b, 0, none⟩ = some (.bool f) ∧ w.cell? ⟨b, 1, none⟩ = some (.int .i64 (u.puts : Nat)) ∧ w.cell? ⟨b, 2, none⟩ = some (.int .i64 u.pcall) ∧ w.cell? ⟨b, 3, none⟩ = some (.int .i64 u.pret) ∧ w.cell? ⟨b, 4, none⟩ = some (.int .i32 u.pval) ∧
     w.cell? ⟨b, 5, none⟩ = some (.bool u.pput) ∧ w.cell? ⟨b, 6, none⟩ = some (.bool u.read) ∧ w.cell? ⟨b, 7, none⟩ = some (.int .i64 u.first) ∧ w.cell? ⟨b, 8, none⟩ = some (.int .i64 u.last)) ∧ ∀ j, w.frozen? ⟨b, j, none⟩ = false :=
  ⟨⟨h.cell (by omega), h.cell (by omega), h.cell (by omega), h.cell (by omega), h.cell (by omega), h.cell (by omega), h.cell (by omega), h.cell (by omega), h.cell (by omega)⟩, fun j => h.frozen j⟩

section
variable {w : World} {b : Nat} {f : Bool} {n : Nat} {p : Int × Int × Int × Bool} {r : Bool × Int × Int}
theorem out_set0 (h : w.rowIs b 45 9 (outC f (mk3 n p r))) : (w.setCell ⟨b, 0, none⟩ (.bool true)).rowIs b 45 9 (outC true (mk3 n p r)) := by
  refine (h.set _ _).congr (fun j hj => ?_)
  match j, hj with
  | 0, _ => rfl
  | 1, _ => rfl
  | 2, _ => rfl
  | 3, _ => rfl
  | 4, _ => rfl
  | 5, _ => rfl
  | 6, _ => rfl
  | 7, _ => rfl
  | 8, _ => rfl
theorem out_set1 (h : w.rowIs b 45 9 (outC f (mk3 n p r))) : (w.setCell ⟨b, 1, none⟩ (.int .i64 ((n : Int) + 1))).rowIs b 45 9 (outC f (mk3 (n + 1) p r)) := by
  refine (h.set _ _).congr (fun j hj => ?_)
  match j, hj with
  | 0, _ => rfl
  | 1, _ => rfl
  | 2, _ => rfl
  | 3, _ => rfl
  | 4, _ => rfl
  | 5, _ => rfl
  | 6, _ => rfl
  | 7, _ => rfl
  | 8, _ => rfl
theorem out_setP (c t v : Int) (h : w.rowIs b 45 9 (outC f (mk3 n p r))) : ((((w.setCell ⟨b, 2, none⟩ (.int .i64 c)).setCell ⟨b, 3, none⟩ (.int .i64 t)).setCell ⟨b, 4, none⟩ (.int .i32 v)).setCell ⟨b, 5, none⟩ (.bool true)).rowIs b 45 9 (outC f (mk3 n (c, t, v, true) r)) := by
  refine ((((h.set _ _).set _ _).set _ _).set _ _).congr (fun j hj => ?_)
  match j, hj with
  | 0, _ => rfl
  | 1, _ => rfl
  | 2, _ => rfl
  | 3, _ => rfl
  | 4, _ => rfl
  | 5, _ => rfl
  | 6, _ => rfl
  | 7, _ => rfl
  | 8, _ => rfl
theorem out_setR (c t : Int) (h : w.rowIs b 45 9 (outC f (mk3 n p r))) : (((w.setCell ⟨b, 6, none⟩ (.bool true)).setCell ⟨b, 7, none⟩ (.int .i64 t)).setCell ⟨b, 8, none⟩ (.int .i64 c)).rowIs b 45 9 (outC f (mk3 n p (true, t, c))) := by
  refine (((h.set _ _).set _ _).set _ _).congr (fun j hj => ?_)
  match j, hj with
  | 0, _ => rfl
  | 1, _ => rfl
  | 2, _ => rfl
  | 3, _ => rfl
  | 4, _ => rfl
  | 5, _ => rfl
  | 6, _ => rfl
  | 7, _ => rfl
  | 8, _ => rfl
theorem out_set7 (t : Int) (h : w.rowIs b 45 9 (outC f (mk3 n p r))) : (w.setCell ⟨b, 7, none⟩ (.int .i64 t)).rowIs b 45 9 (outC f (mk3 n p (r.1, t, r.2.2))) := by
  refine (h.set _ _).congr (fun j hj => ?_)
  match j, hj with
  | 0, _ => rfl
  | 1, _ => rfl
  | 2, _ => rfl
  | 3, _ => rfl
  | 4, _ => rfl
  | 5, _ => rfl
  | 6, _ => rfl
  | 7, _ => rfl
  | 8, _ => rfl
theorem out_set8 (t : Int) (h : w.rowIs b 45 9 (outC f (mk3 n p r))) : (w.setCell ⟨b, 8, none⟩ (.int .i64 t)).rowIs b 45 9 (outC f (mk3 n p (r.1, r.2.1, t))) := by
  refine (h.set _ _).congr (fun j hj => ?_)
  match j, hj with
  | 0, _ => rfl
  | 1, _ => rfl
  | 2, _ => rfl
  | 3, _ => rfl
  | 4, _ => rfl
  | 5, _ => rfl
  | 6, _ => rfl
  | 7, _ => rfl
  | 8, _ => rfl
end

def aggOf (f : Bool) (u : UseT) : Value := .agg #[.bool f, .int .i64 (u.puts : Nat), .int .i64 u.pcall, .int .i64 u.pret, .int .i32 u.pval, .bool u.pput, .bool u.read, .int .i64 u.first, .int .i64 u.last]

/-- What the loops carry: the result's block untouched, the variable's block, old memory. -/
def UM (w wr : World) (f : Bool) (u : UseT) : Prop :=
  wr.rowIs w.heap.size 45 9 (outC false useZ) ∧ wr.rowIs (w.heap.size + 1) 45 9 (outC f u) ∧ Below w.heap.size w wr

theorem UM.start (w : World) : UM w ((w.alloc recOut).alloc recOut) false useZ := by
  refine ⟨(new_out w).alloc _, ?_, ((Below.refl _ _).alloc (Nat.le_refl _) _).alloc (by simp) _⟩
  have := new_out (w.alloc recOut)
  simpa using this
theorem UM.set {w wr wr' : World} {f f' : Bool} {u u' : UseT} (h : UM w wr f u) (hg : wr.grownBy wr' (some (w.heap.size + 1))) (hr : wr'.rowIs (w.heap.size + 1) 45 9 (outC f' u')) : UM w wr' f' u' :=
  ⟨h.1.of_block (hg.block _ h.1.lt (by simp)), hr, h.2.2.grown hg h.2.2.size (fun k hk => by cases hk; omega)⟩
theorem UM.drewN {w wr : World} {f : Bool} {u : UseT} (h : UM w wr f u) (n : Nat) : UM w (wr.drewN n) f u :=
  ⟨h.1.of_block rfl, h.2.1.of_block rfl, below_drewN h.2.2 n⟩
theorem UM.to {w wr : World} {f f' : Bool} {u u' : UseT} (h : UM w wr f u) (hf : f = f') (hu : u = u') : UM w wr f' u' := by subst hf hu; exact h

theorem named_snoc_hit (l : List OpT) (o : OpT) (x : Int) (h : (o.val == x) = true) : true = named (l ++ [o]) x := by rw [named_snoc, h]; simp
theorem named_snoc_miss (l : List OpT) (o : OpT) (x : Int) (h : (o.val == x) = false) : named l x = named (l ++ [o]) x := by rw [named_snoc, h]; simp

set_option maxHeartbeats 4000000 in
set_option maxRecDepth 100000 in
theorem umod_any (a : Option Addr) (cap : Nat) (l : List OpT) (x : Int) (w : World) (hlen : l.length ≤ 4096) (hv : Ov w a l) :
    Calls Try.prog 24 #[.slice a l.length cap, .int .i32 x] w fun e w' => e = .returned (aggOf (named l x) (useOf l x)) ∧ Below w.heap.size w w' := by
  have HV := Hid.mk hv
  clear hv
  go_enter Try.func24, Try.ntmps24
  go_wp2
  go_loopw [6] (fun i wr => ∃ k : Nat, k ≤ l.length ∧ i = .int .i64 k ∧ Hid (UM w wr (named (l.take k) x) (mk3 (useOf (l.take k) x).puts (0, 0, 0, false) (false, 0, 0)))) (fun i _ => l.length - (intOf i).toNat)
  case atStart => exact ⟨0, Nat.zero_le _, rfl, UM.start w⟩
  case round =>
    obtain ⟨k, hk, rfl, hum⟩ := hrel
    by_cases hlt : k < l.length
    · obtain ⟨b, rfl, hb, _, _, c2, c3⟩ := HV.out.cells hlt
      have hsn := take_snoc_op l k hlt
      obtain ⟨o, ho⟩ : ∃ o, o = l.getD k opZ := ⟨_, rfl⟩
      rw [← ho] at c2 c3 hsn
      have HSN := Hid.mk hsn
      obtain ⟨r1, r2, hbel⟩ := hum.out
      have e2 := (hbel.cell (p := ⟨b, k * 4 + 2, none⟩) hb).trans c2
      have e3 := (hbel.cell (p := ⟨b, k * 4 + 3, none⟩) hb).trans c3
      have hne : b ≠ w.heap.size + 1 := by omega
      obtain ⟨⟨q0, q1, q2, q3, q4, q5, q6, q7, q8⟩, qf⟩ := out_cells r2
      have hpl := puts_le (l.take k) x
      rw [List.length_take] at hpl
      obtain ⟨n, hn⟩ : ∃ n, n = (useOf (l.take k) x).puts := ⟨_, rfl⟩
      rw [← hn] at hum q1 hpl
      have HN := Hid.mk hn
      have hn4 : n ≤ 4096 := by omega
      have HUM := hum
      simp only [mk3] at q1
      clear c2 c3 ho hsn r1 r2 hbel hn hum q2 q3 q4 q5 q6 q7 q8 hpl
      cases hx : (o.val == x) with
      | true =>
        cases hp : o.put with
        | true =>
          have HP := Hid.mk hp
          rw [hp] at e3
          clear hp
          go_wp2
          go_roundw
          case rel => exact ⟨k + 1, by omega, by go_num, (HUM.out.set (grownBy_set (grownBy_set (grownBy_rfl _ _) _ _) _ _) (out_set1 (out_set0 HUM.out.2.1))).to (by rw [HSN.out]; exact named_snoc_hit _ _ _ hx) (by rw [HSN.out, puts_snoc, hx, HP.out, ← HN.out]; rfl)⟩
          case measure => simp [intOf]; omega
        | false =>
          have HP := Hid.mk hp
          rw [hp] at e3
          clear hp
          go_wp2
          go_roundw
          case rel => exact ⟨k + 1, by omega, by go_num, (HUM.out.set (grownBy_set (grownBy_rfl _ _) _ _) (out_set0 HUM.out.2.1)).to (by rw [HSN.out]; exact named_snoc_hit _ _ _ hx) (by rw [HSN.out, puts_snoc, hx, HP.out, ← HN.out]; rfl)⟩
          case measure => simp [intOf]; omega
      | false =>
        go_wp2
        go_roundw
        case rel => exact ⟨k + 1, by omega, by go_num, HUM.out.to (by rw [HSN.out]; exact named_snoc_miss _ _ _ hx) (by rw [HSN.out, puts_snoc, hx, ← HN.out]; rfl)⟩
        case measure => simp [intOf]; omega
    · have HUM : Hid (UM w wr (named l x) (mk3 (useOf l x).puts (0, 0, 0, false) (false, 0, 0))) := by
        have := hum.out
        rwa [show k = l.length by omega, List.take_length] at this
      clear hum
      go_wp2
      go_loopw [7] (fun t wr => ∃ i : Int, -1 ≤ i ∧ i < l.length ∧ t = .int .i64 i ∧ Hid ((l.drop (i + 1).toNat).any (isPut x) = false) ∧ Hid (UM w wr (named l x) (mk3 (useOf l x).puts (0, 0, 0, false) (false, 0, 0)))) (fun t _ => (intOf t + 1).toNat)
      case atStart => exact ⟨(l.length : Int) - 1, by omega, by omega, rfl, (by rw [show ((l.length : Int) - 1 + 1).toNat = l.length by omega, List.drop_length]; rfl), HUM⟩
      case round =>
        rename_i wr
        obtain ⟨i, hi1, hi2, rfl, hnp, hum⟩ := hrel
        by_cases hi : 0 ≤ i
        · obtain ⟨j, rfl⟩ : ∃ j : Nat, i = j := ⟨i.toNat, by omega⟩
          have hlt : j < l.length := by omega
          have hnp' : (l.drop (j + 1)).any (isPut x) = false := by have := hnp.out; rwa [show ((j : Int) + 1).toNat = j + 1 by omega] at this
          have HNP := Hid.mk hnp'
          obtain ⟨b, rfl, hb, c0, c1, c2, c3⟩ := HV.out.cells hlt
          obtain ⟨o, ho⟩ : ∃ o, o = l.getD j opZ := ⟨_, rfl⟩
          rw [← ho] at c0 c1 c2 c3
          have HO := Hid.mk ho
          obtain ⟨r1, r2, hbel⟩ := hum.out
          have e0 := (hbel.cell (p := ⟨b, j * 4, none⟩) hb).trans c0
          have e1 := (hbel.cell (p := ⟨b, j * 4 + 1, none⟩) hb).trans c1
          have e2 := (hbel.cell (p := ⟨b, j * 4 + 2, none⟩) hb).trans c2
          have e3 := (hbel.cell (p := ⟨b, j * 4 + 3, none⟩) hb).trans c3
          have hne : b ≠ w.heap.size + 1 := by omega
          obtain ⟨⟨q0, q1, q2, q3, q4, q5, q6, q7, q8⟩, qf⟩ := out_cells r2
          have HUMj := hum
          clear c0 c1 c2 c3 ho r1 r2 hbel hum q0 q1 q6 q7 q8 HUM hnp hnp' hi1
          cases hx : (o.val == x) with
          | true =>
            cases hp : o.put with
            | true =>
              have HP := Hid.mk hp
              rw [hp] at e3
              clear hp
              have HPF : Hid (pf (useOf l x) = (o.call, o.ret, x, true)) := by
                show _ = _
                rw [HO.out]
                exact pf_hit l x j hlt HNP.out (by rw [isPut, ← HO.out, hx, HP.out]; rfl)
              have HUM3 : Hid (UM w ((((wr.setCell ⟨w.heap.size + 1, 2, none⟩ (.int .i64 o.call)).setCell ⟨w.heap.size + 1, 3, none⟩ (.int .i64 o.ret)).setCell ⟨w.heap.size + 1, 4, none⟩ (.int .i32 x)).setCell ⟨w.heap.size + 1, 5, none⟩ (.bool true)) (named l x) (mk3 (useOf l x).puts (pf (useOf l x)) (false, 0, 0))) :=
                (HUMj.out.set (grownBy_set (grownBy_set (grownBy_set (grownBy_set (grownBy_rfl _ _) _ _) _ _) _ _) _ _) (out_setP o.call o.ret x HUMj.out.2.1)).to rfl (by rw [HPF.out])
              go_wp2
              go_loopw [8] (fun i wr => ∃ k : Nat, k ≤ l.length ∧ i = .int .i64 k ∧ Hid (UM w wr (named l x) (mk3 (useOf l x).puts (pf (useOf l x)) (rf (useOf (l.take k) x))))) (fun i _ => l.length - (intOf i).toNat)
              case atStart => exact ⟨0, Nat.zero_le _, rfl, HUM3.out⟩
              case round =>
                rename_i wr
                obtain ⟨k, hk, rfl, hum⟩ := hrel
                by_cases hlt : k < l.length
                · obtain ⟨b3, hb3, _, c0, c1, c2, c3⟩ := HV.out.cells hlt
                  simp only [Option.some.injEq, Addr.mk.injEq, and_true] at hb3
                  subst hb3
                  have hsn := take_snoc_op l k hlt
                  obtain ⟨o, ho⟩ : ∃ o, o = l.getD k opZ := ⟨_, rfl⟩
                  rw [← ho] at c0 c1 c2 c3 hsn
                  have HSN := Hid.mk hsn
                  obtain ⟨r1, r2, hbel⟩ := hum.out
                  have e0 := (hbel.cell (p := ⟨b, k * 4, none⟩) hb).trans c0
                  have e1 := (hbel.cell (p := ⟨b, k * 4 + 1, none⟩) hb).trans c1
                  have e2 := (hbel.cell (p := ⟨b, k * 4 + 2, none⟩) hb).trans c2
                  have e3 := (hbel.cell (p := ⟨b, k * 4 + 3, none⟩) hb).trans c3
                  have hne : b ≠ w.heap.size + 1 := by omega
                  obtain ⟨⟨q0, q1, q2, q3, q4, q5, q6, q7, q8⟩, qf⟩ := out_cells r2
                  obtain ⟨u, hu⟩ : ∃ u, u = useOf (l.take k) x := ⟨_, rfl⟩
                  rw [← hu] at hum q6 q7 q8
                  have HU := Hid.mk hu
                  have HUM := hum
                  have hk1 : (0 : Int) ≤ (k : Int) := by omega
                  have hk2 : (k : Int) < (l.length : Int) := by omega
                  simp only [mk3, rf] at q6 q7 q8
                  clear c0 c1 c2 c3 ho hsn r1 r2 hbel hu hum q0 q1 q2 q3 q4 q5 HUM3
                  cases hx : (o.val == x) with
                  | true =>
                    have hx2 : (o.val != x) = false := by simpa using hx
                    cases hp : o.put with
                    | true =>
                      have HP := Hid.mk hp
                      rw [hp] at e3
                      clear hp
                      go_wp2
                      go_roundw
                      case rel => exact ⟨k + 1, by omega, by go_num, HUM.out.to rfl (by rw [HSN.out, rf_skip _ _ _ (by rw [HP.out]; simp), ← HU.out])⟩
                      case measure => first | (simp [intOf]; done) | (simp [intOf]; omega)
                    | false =>
                      have HP := Hid.mk hp
                      rw [hp] at e3
                      clear hp
                      cases hr : u.read with
                      | false =>
                        have HR := Hid.mk hr
                        rw [hr] at q6
                        clear hr
                        go_wp2
                        go_roundw
                        case rel => exact ⟨k + 1, by omega, by go_num, (HUM.out.set (grownBy_set (grownBy_set (grownBy_set (grownBy_rfl _ _) _ _) _ _) _ _) (out_setR o.call o.ret HUM.out.2.1)).to rfl (by rw [HSN.out, rf_new _ _ _ hx HP.out (by rw [← HU.out]; exact HR.out)])⟩
                        case measure => first | (simp [intOf]; done) | (simp [intOf]; omega)
                      | true =>
                        have HR := Hid.mk hr
                        rw [hr] at q6
                        clear hr
                        have HM : Hid (rf (useOf (l.take (k + 1)) x) = (true, min u.first o.ret, max u.last o.call)) := by
                          show _ = _
                          rw [HSN.out, rf_more _ _ _ hx HP.out (by rw [← HU.out]; exact HR.out), ← HU.out]
                        by_cases h1 : o.ret < u.first
                        · by_cases h2 : u.last < o.call
                          · go_wp2
                            go_quiet (fail)
                            go_wp2
                            go_quiet (fail)
                            go_wp2
                            go_roundw
                            case rel => exact ⟨k + 1, by omega, by go_num, (((HUM.out.drewN _).drewN _).set (grownBy_set (grownBy_set (grownBy_rfl _ _) _ _) _ _) (out_set8 o.call (out_set7 o.ret ((HUM.out.drewN _).drewN _).2.1))).to rfl (by rw [HM.out]; simp only [rf, HR.out]; rw [show min u.first o.ret = o.ret by omega, show max u.last o.call = o.call by omega])⟩
                            case measure => first | (simp [intOf]; done) | (simp [intOf]; omega)
                          · go_wp2
                            go_quiet (fail)
                            go_wp2
                            go_quiet (fail)
                            go_wp2
                            go_roundw
                            case rel => exact ⟨k + 1, by omega, by go_num, (((HUM.out.drewN _).drewN _).set (grownBy_set (grownBy_rfl _ _) _ _) (out_set7 o.ret ((HUM.out.drewN _).drewN _).2.1)).to rfl (by rw [HM.out]; simp only [rf, HR.out]; rw [show min u.first o.ret = o.ret by omega, show max u.last o.call = u.last by omega])⟩
                            case measure => first | (simp [intOf]; done) | (simp [intOf]; omega)
                        · by_cases h2 : u.last < o.call
                          · go_wp2
                            go_quiet (fail)
                            go_wp2
                            go_quiet (fail)
                            go_wp2
                            go_roundw
                            case rel => exact ⟨k + 1, by omega, by go_num, ((HUM.out.drewN _).set (grownBy_set (grownBy_rfl _ _) _ _) (out_set8 o.call (HUM.out.drewN _).2.1)).to rfl (by rw [HM.out]; simp only [rf, HR.out]; rw [show min u.first o.ret = u.first by omega, show max u.last o.call = o.call by omega])⟩
                            case measure => first | (simp [intOf]; done) | (simp [intOf]; omega)
                          · go_wp2
                            go_quiet (fail)
                            go_wp2
                            go_quiet (fail)
                            go_wp2
                            go_roundw
                            case rel => exact ⟨k + 1, by omega, by go_num, (HUM.out.drewN _).to rfl (by rw [HM.out]; simp only [rf, HR.out]; rw [show min u.first o.ret = u.first by omega, show max u.last o.call = u.last by omega])⟩
                            case measure => first | (simp [intOf]; done) | (simp [intOf]; omega)
                  | false =>
                    have hx2 : (o.val != x) = true := by simpa using hx
                    go_wp2
                    go_roundw
                    case rel => exact ⟨k + 1, by omega, by go_num, HUM.out.to rfl (by rw [HSN.out, rf_skip _ _ _ (by rw [hx2]; simp), ← HU.out])⟩
                    case measure => first | (simp [intOf]; done) | (simp [intOf]; omega)
                · have HF : Hid (UM w wr (named l x) (useOf l x)) := by
                    have := hum.out
                    rwa [show k = l.length by omega, List.take_length, mk3_eta] at this
                  obtain ⟨r1, r2, hbel⟩ := HF.out
                  obtain ⟨⟨q0, q1, q2, q3, q4, q5, q6, q7, q8⟩, qf⟩ := out_cells r2
                  obtain ⟨⟨d0, d1, d2, d3, d4, d5, d6, d7, d8⟩, df⟩ := out_cells r1
                  have HBEL := Hid.mk hbel
                  clear r1 r2 hbel hum HUM3 HF
                  go_wp2
                  exact bodyPost_ret (v := aggOf (named l x) (useOf l x)) (by simp [results, Try.results24, go_sem, aggOf, d0, d1, d2, d3, d4, d5, d6, d7, d8]) rfl ⟨rfl, ((((((((HBEL.out.setCell (Nat.le_refl _) _).setCell (Nat.le_refl _) _).setCell (Nat.le_refl _) _).setCell (Nat.le_refl _) _).setCell (Nat.le_refl _) _).setCell (Nat.le_refl _) _).setCell (Nat.le_refl _) _).setCell (Nat.le_refl _) _).setCell (Nat.le_refl _) _⟩
            | false =>
              have HP := Hid.mk hp
              rw [hp] at e3
              clear hp
              go_wp2
              go_roundw
              case rel => exact ⟨(j : Int) - 1, by omega, by omega, rfl, (by rw [show ((j : Int) - 1 + 1).toNat = j by omega]; exact any_drop_step l x j hlt HNP.out (by rw [isPut, ← HO.out, HP.out]; simp)), HUMj⟩
              case measure => first | (simp [intOf]; done) | (simp [intOf]; omega)
          | false =>
            go_wp2
            go_roundw
            case rel => exact ⟨(j : Int) - 1, by omega, by omega, rfl, (by rw [show ((j : Int) - 1 + 1).toNat = j by omega]; exact any_drop_step l x j hlt HNP.out (by rw [isPut, ← HO.out, hx]; rfl)), HUMj⟩
            case measure => first | (simp [intOf]; done) | (simp [intOf]; omega)
        · have HUM3 : Hid (UM w wr (named l x) (mk3 (useOf l x).puts (pf (useOf l x)) (false, 0, 0))) := by
            have h := hnp.out
            rw [show (i + 1).toNat = 0 by omega] at h
            rw [pf_none l x h]
            exact hum
          clear hum hnp HUM
          go_wp2
          go_loopw [8] (fun i wr => ∃ k : Nat, k ≤ l.length ∧ i = .int .i64 k ∧ Hid (UM w wr (named l x) (mk3 (useOf l x).puts (pf (useOf l x)) (rf (useOf (l.take k) x))))) (fun i _ => l.length - (intOf i).toNat)
          case atStart => exact ⟨0, Nat.zero_le _, rfl, HUM3.out⟩
          case round =>
            rename_i wr
            obtain ⟨k, hk, rfl, hum⟩ := hrel
            by_cases hlt : k < l.length
            · obtain ⟨b, rfl, hb, c0, c1, c2, c3⟩ := HV.out.cells hlt
              have hsn := take_snoc_op l k hlt
              obtain ⟨o, ho⟩ : ∃ o, o = l.getD k opZ := ⟨_, rfl⟩
              rw [← ho] at c0 c1 c2 c3 hsn
              have HSN := Hid.mk hsn
              obtain ⟨r1, r2, hbel⟩ := hum.out
              have e0 := (hbel.cell (p := ⟨b, k * 4, none⟩) hb).trans c0
              have e1 := (hbel.cell (p := ⟨b, k * 4 + 1, none⟩) hb).trans c1
              have e2 := (hbel.cell (p := ⟨b, k * 4 + 2, none⟩) hb).trans c2
              have e3 := (hbel.cell (p := ⟨b, k * 4 + 3, none⟩) hb).trans c3
              have hne : b ≠ w.heap.size + 1 := by omega
              obtain ⟨⟨q0, q1, q2, q3, q4, q5, q6, q7, q8⟩, qf⟩ := out_cells r2
              obtain ⟨u, hu⟩ : ∃ u, u = useOf (l.take k) x := ⟨_, rfl⟩
              rw [← hu] at hum q6 q7 q8
              have HU := Hid.mk hu
              have HUM := hum
              have hk1 : (0 : Int) ≤ (k : Int) := by omega
              have hk2 : (k : Int) < (l.length : Int) := by omega
              simp only [mk3, rf] at q6 q7 q8
              clear c0 c1 c2 c3 ho hsn r1 r2 hbel hu hum q0 q1 q2 q3 q4 q5 HUM3
              cases hx : (o.val == x) with
              | true =>
                have hx2 : (o.val != x) = false := by simpa using hx
                cases hp : o.put with
                | true =>
                  have HP := Hid.mk hp
                  rw [hp] at e3
                  clear hp
                  go_wp2
                  go_roundw
                  case rel => exact ⟨k + 1, by omega, by go_num, HUM.out.to rfl (by rw [HSN.out, rf_skip _ _ _ (by rw [HP.out]; simp), ← HU.out])⟩
                  case measure => first | (simp [intOf]; done) | (simp [intOf]; omega)
                | false =>
                  have HP := Hid.mk hp
                  rw [hp] at e3
                  clear hp
                  cases hr : u.read with
                  | false =>
                    have HR := Hid.mk hr
                    rw [hr] at q6
                    clear hr
                    go_wp2
                    go_roundw
                    case rel => exact ⟨k + 1, by omega, by go_num, (HUM.out.set (grownBy_set (grownBy_set (grownBy_set (grownBy_rfl _ _) _ _) _ _) _ _) (out_setR o.call o.ret HUM.out.2.1)).to rfl (by rw [HSN.out, rf_new _ _ _ hx HP.out (by rw [← HU.out]; exact HR.out)])⟩
                    case measure => first | (simp [intOf]; done) | (simp [intOf]; omega)
                  | true =>
                    have HR := Hid.mk hr
                    rw [hr] at q6
                    clear hr
                    have HM : Hid (rf (useOf (l.take (k + 1)) x) = (true, min u.first o.ret, max u.last o.call)) := by
                      show _ = _
                      rw [HSN.out, rf_more _ _ _ hx HP.out (by rw [← HU.out]; exact HR.out), ← HU.out]
                    by_cases h1 : o.ret < u.first
                    · by_cases h2 : u.last < o.call
                      · go_wp2
                        go_quiet (fail)
                        go_wp2
                        go_quiet (fail)
                        go_wp2
                        go_roundw
                        case rel => exact ⟨k + 1, by omega, by go_num, (((HUM.out.drewN _).drewN _).set (grownBy_set (grownBy_set (grownBy_rfl _ _) _ _) _ _) (out_set8 o.call (out_set7 o.ret ((HUM.out.drewN _).drewN _).2.1))).to rfl (by rw [HM.out]; simp only [rf, HR.out]; rw [show min u.first o.ret = o.ret by omega, show max u.last o.call = o.call by omega])⟩
                        case measure => first | (simp [intOf]; done) | (simp [intOf]; omega)
                      · go_wp2
                        go_quiet (fail)
                        go_wp2
                        go_quiet (fail)
                        go_wp2
                        go_roundw
                        case rel => exact ⟨k + 1, by omega, by go_num, (((HUM.out.drewN _).drewN _).set (grownBy_set (grownBy_rfl _ _) _ _) (out_set7 o.ret ((HUM.out.drewN _).drewN _).2.1)).to rfl (by rw [HM.out]; simp only [rf, HR.out]; rw [show min u.first o.ret = o.ret by omega, show max u.last o.call = u.last by omega])⟩
                        case measure => first | (simp [intOf]; done) | (simp [intOf]; omega)
                    · by_cases h2 : u.last < o.call
                      · go_wp2
                        go_quiet (fail)
                        go_wp2
                        go_quiet (fail)
                        go_wp2
                        go_roundw
                        case rel => exact ⟨k + 1, by omega, by go_num, ((HUM.out.drewN _).set (grownBy_set (grownBy_rfl _ _) _ _) (out_set8 o.call (HUM.out.drewN _).2.1)).to rfl (by rw [HM.out]; simp only [rf, HR.out]; rw [show min u.first o.ret = u.first by omega, show max u.last o.call = o.call by omega])⟩
                        case measure => first | (simp [intOf]; done) | (simp [intOf]; omega)
                      · go_wp2
                        go_quiet (fail)
                        go_wp2
                        go_quiet (fail)
                        go_wp2
                        go_roundw
                        case rel => exact ⟨k + 1, by omega, by go_num, (HUM.out.drewN _).to rfl (by rw [HM.out]; simp only [rf, HR.out]; rw [show min u.first o.ret = u.first by omega, show max u.last o.call = u.last by omega])⟩
                        case measure => first | (simp [intOf]; done) | (simp [intOf]; omega)
              | false =>
                have hx2 : (o.val != x) = true := by simpa using hx
                go_wp2
                go_roundw
                case rel => exact ⟨k + 1, by omega, by go_num, HUM.out.to rfl (by rw [HSN.out, rf_skip _ _ _ (by rw [hx2]; simp), ← HU.out])⟩
                case measure => first | (simp [intOf]; done) | (simp [intOf]; omega)
            · have HF : Hid (UM w wr (named l x) (useOf l x)) := by
                have := hum.out
                rwa [show k = l.length by omega, List.take_length, mk3_eta] at this
              obtain ⟨r1, r2, hbel⟩ := HF.out
              obtain ⟨⟨q0, q1, q2, q3, q4, q5, q6, q7, q8⟩, qf⟩ := out_cells r2
              obtain ⟨⟨d0, d1, d2, d3, d4, d5, d6, d7, d8⟩, df⟩ := out_cells r1
              have HBEL := Hid.mk hbel
              clear r1 r2 hbel hum HUM3 HF
              go_wp2
              exact bodyPost_ret (v := aggOf (named l x) (useOf l x)) (by simp [results, Try.results24, go_sem, aggOf, d0, d1, d2, d3, d4, d5, d6, d7, d8]) rfl ⟨rfl, ((((((((HBEL.out.setCell (Nat.le_refl _) _).setCell (Nat.le_refl _) _).setCell (Nat.le_refl _) _).setCell (Nat.le_refl _) _).setCell (Nat.le_refl _) _).setCell (Nat.le_refl _) _).setCell (Nat.le_refl _) _).setCell (Nat.le_refl _) _).setCell (Nat.le_refl _) _⟩

end Go.Proofs.Qxb6601079a
