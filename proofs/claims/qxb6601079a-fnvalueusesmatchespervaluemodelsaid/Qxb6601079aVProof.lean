/-
  The proof of the given statement FnValueUsesMatchesPerValueModelSaid: the walk is 'vlaw' (Qxb6601079aVLaw); here the row's step.
-/
import Derived.Test.Qxb6601079aVLaw
import Derived.ProofKit
import Derived.OpenShut
import Derived.ShutString
import Derived.ChangeOld
import Derived.Deep.Slices
import Derived.Lib.SmallJoins
namespace Go.Proofs.Qxb6601079a.fnValueUsesMatchesPerValueModel
open Go.ChangeShapes Go.WideShapes Go.ChangeAt Go.RowKit
set_option linter.unusedVariables false

theorem own : ownKnob Try.prog.godebug = none := by kernel_rfl
theorem laidOut : laidOutB Try.prog = true := by kernel_rfl
theorem cells39 : Try.prog.cellsOf 39 = 4 := by kernel_rfl
theorem cells2 : Try.prog.cellsOf 2 = 1 := by kernel_rfl
theorem cells21 : Try.prog.cellsOf 21 = 1 := by kernel_rfl
theorem cells4 : Try.prog.cellsOf 4 = 1 := by kernel_rfl

/-- One operation's cells, from its reading. -/
theorem open_op {H : Type} {enc : TypeId × Value → H} {w : World} {base : Nat} {sp : Nat → Bool} {held : Bool} {n : Nat} {cs : List Value} {x : DataW H × List MemPlace}
    (h : DataW.trod enc Try.prog w base sp held n 39 cs = some x) : ∃ o : OpT, (∀ j, j < 4 → cs[j]? = some (o.cell j)) ∧ wf32 o.val := by
  obtain ⟨y0, y1, y2, y3, m, _, hl, h0, h1, h2, h3⟩ := Joins.trod_struct4 Try.underlying39 h
  rw [cells39] at hl
  match cs, hl with
  | [c0, c1, c2, c3], _ =>
    simp only [cells2, cells21, cells4, List.drop_zero, List.take_succ_cons, List.take_zero, List.drop_succ_cons] at h0 h1 h2 h3
    obtain ⟨a, e0, _, _⟩ := DataW.trod_int Try.underlying2 h0
    obtain ⟨b, e1, _, _⟩ := DataW.trod_int Try.underlying2 h1
    obtain ⟨c, e2, _, hw⟩ := DataW.trod_int Try.underlying21 h2
    obtain ⟨d, e3, _⟩ := DataW.trod_bool Try.underlying4 h3
    simp only [List.cons.injEq, and_true] at e0 e1 e2 e3
    subst e0 e1 e2 e3
    refine ⟨⟨a, b, c, d⟩, fun j hj => ?_, hw⟩
    match j, hj with
    | 0, _ => rfl
    | 1, _ => rfl
    | 2, _ => rfl
    | 3, _ => rfl

/-- From one operation at each index to one list. -/
theorem list_of {n : Nat} {p : Nat → OpT → Prop} (h : ∀ i, i < n → ∃ o, p i o) : ∃ zs : List OpT, zs.length = n ∧ ∀ i, i < n → p i (zs.getD i opZ) := by
  obtain ⟨f, hf⟩ := @Deep.choose_lt OpT ⟨opZ⟩ n p h
  refine ⟨(List.range n).map f, by simp, fun i hi => ?_⟩
  have : ((List.range n).map f).getD i opZ = f i := by simp [List.getD_eq_getElem?_getD, hi]
  rw [this]
  exact hf i hi

set_option maxRecDepth 100000 in
theorem lifted (os : Os) (started : os.Started) (H : Type) (enc : TypeId × Value → H) :
    ReturnsInHanded {} Try.checked os 7 .any (Rows.fnValueUsesMatchesPerValueModelSpec.pre6 enc Try.prog Try.f7 Rows.fnValueUsesMatchesPerValueModelRow.domain false) (Rows.fnValueUsesMatchesPerValueModelSpec.post enc Try.prog Try.f7 false true false false) := by
  refine returnsInHanded_of_change (C := Try.checked) own started (by kernel_rfl) Try.func7
    (ChangeSpec.witness6 (enc := enc) (C := Try.checked) false ⟨#[], #[.slice none 0 0, .int .i32 0], []⟩ 8 (by kernel_rfl) (by kernel_rfl) (by kernel_rfl) (by kernel_rfl)) ?_
  intro W base args ds gs before hval0 hW hcnd _
  have hval : ∀ (j : Nat) t v, Try.f7.params[j]? = some t → args[j]? = some v → Value.okWide Try.prog W .any base t v := hval0
  have hW' := hW
  obtain ⟨p, q, hA0, hV, rfl, hfz, hnd⟩ := hW
  have hA : DataW.TrodAll enc Try.prog W 0 (fun _ => true) true Try.f7.params.toList args.toList ds p := hA0
  rw [Try.params7] at hA hval
  obtain ⟨v0, vs0, d0, ds0, p0, q0, hargs, rfl, rfl, h0, r0⟩ := trodAll_cons hA
  obtain ⟨v1, vs1, d1, ds1, p1, q1, rfl, rfl, rfl, h1, r1⟩ := trodAll_cons r0
  obtain ⟨rfl, rfl, rfl⟩ := trodAll_nil r1
  obtain rfl : args = #[v0, v1] := by cases args; simp_all
  obtain ⟨rfl, rfl⟩ := trodVars_none hV
  obtain ⟨a0, len0, cap0, rfl⟩ := okWide_slice Try.underlying30 (hval 0 30 v0 rfl rfl)
  have k0 := h0
  have lt0 : ∀ x ∈ p0, x.block < W.heap.size := by obtain ⟨m, hm⟩ := k0; exact DataW.trod_lt m _ _ _ hm
  obtain ⟨zs, w0, hwz⟩ : ∃ zs, InOps W a0 len0 cap0 zs ∧ ∀ o ∈ zs, wf32 o.val := by
    obtain ⟨fuel, hf⟩ := h0
    rcases Deep.open_slice Try.underlying30 hf with ⟨hcs, _⟩ | ⟨x, l, c, m, n, D, Pl, hcs, _, hl, hm, hmm, _, hx⟩
    · simp [Value.cells] at hcs
      obtain ⟨rfl, rfl, rfl⟩ := hcs
      exact ⟨[], .inl ⟨rfl, rfl, rfl, rfl⟩, by simp⟩
    · simp [Value.cells] at hcs
      obtain ⟨rfl, rfl, rfl⟩ := hcs
      simp at hmm
      subst hmm
      obtain ⟨zs, hzl, hz⟩ := list_of (n := m) (p := fun i o => (∀ j, j < 4 → W.cell? (x.add (i * 4 + j)) = some (o.cell j)) ∧ wf32 o.val) (fun i hi => by
        obtain ⟨cs, hc1, hc2⟩ := hx i hi
        obtain ⟨o, ho, hw⟩ := open_op hc2
        obtain ⟨_, _, hcell⟩ := World.cells?_some hc1
        rw [cells39] at hcell
        refine ⟨o, fun j hj => ?_, hw⟩
        rw [← Deep.add_add, hcell j hj, ho j hj])
      refine ⟨zs, .inr ⟨_, rfl, hl, hm, hzl, fun i hi j hj => (hz i (by omega)).1 j hj⟩, fun o ho => ?_⟩
      obtain ⟨i, hi, rfl⟩ := List.mem_iff_getElem.1 ho
      have := (hz i (by omega)).2
      rwa [List.getD_eq_getElem?_getD, List.getElem?_eq_getElem hi] at this
  obtain ⟨a1, rfl, rfl, rfl, w1⟩ := open_int Try.underlying21 (hval 1 21 v1 rfl rfl) h1
  clear hA0 hval0
  refine (vlaw a0 len0 cap0 zs a1 W w0 hwz w1).mono fun e W' ⟨he, bel⟩ => ?_
  subst he
  exact ⟨_, rfl, _, _, _, [], _, [], hW', trodAll_mk1 (shut_bool Try.underlying4 _), (trodAll_cons_mk (Below.trod laidOut (by kernel_rfl) (of_decide_eq_true (by kernel_rfl)) k0 bel lt0) (trodAll_cons_mk (shut_int Try.underlying21 w1) trodAll_mk0)), rfl, bel.frame _, fun h => by cases h⟩

theorem over : Rows.fnValueUsesMatchesPerValueModelRow.holds Try.pinned (OpenSpec.ofChange Rows.fnValueUsesMatchesPerValueModelSpec) :=
  OpenClaim.holds_of_wide 7 Try.f7 rfl rfl rfl rfl rfl rfl rfl ⟨rfl, rfl, rfl, rfl, rfl⟩ rfl rfl rfl rfl rfl (by kernel_rfl) Try.func7 (by kernel_rfl)
    (of_decide_eq_true (by kernel_rfl)) (by unfold Func.isWrapper; first | (rw [if_pos (by decide +kernel)]; kernel_rfl) | (rw [if_neg (by decide +kernel)]; exact ⟨rfl, rfl⟩))
    (fun os started H enc _ => lifted os started H enc)

end Go.Proofs.Qxb6601079a.fnValueUsesMatchesPerValueModel
namespace Go.Proofs.Qxb6601079a
theorem fnValueUsesMatchesPerValueModel_proved : Rows.FnValueUsesMatchesPerValueModelSaid := fnValueUsesMatchesPerValueModel.over
end Go.Proofs.Qxb6601079a
