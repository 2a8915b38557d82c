/-
  The proof of the given statement FnEndClosesThroughTheInnermostOfItsNameSaid: the walk is 'law5'; here the row's step.
-/
import Derived.Test.Qxb6602872aLaw5
import Derived.ProofKit
import Derived.OpenShut
import Derived.ShutString
import Derived.ChangeOld
import Derived.Deep.Slices
import Derived.SliceStrings
namespace Go.Proofs.Qxb6602872a.fnEndClosesThroughTheInnermostOfItsName
open Go.ChangeShapes Go.WideShapes Go.ChangeAt Go.RowKit
open Go.ChangeMaps (open_string shut_string)
set_option linter.unusedVariables false

theorem own : ownKnob Try.prog.godebug = none := by kernel_rfl
theorem laidOut : laidOutB Try.prog = true := by kernel_rfl
theorem cells9 : Try.prog.cellsOf 9 = 1 := by kernel_rfl
theorem cells4 : Try.prog.cellsOf 4 = 1 := by kernel_rfl

/-- A slice of strings that came in. -/
theorem open_names {H : Type} {enc : TypeId × Value → H} {w : World} {d : DataW H} {p : List MemPlace} {a : Option Addr} {len cap : Nat} (h : DataW.Trod enc Try.prog w 0 (fun _ => true) true 25 (.slice a len cap) d p) :
    ∃ ns : List ByteArray, ns.length = len ∧ InRow w a ns.length cap (cS ns) ∧ ∀ s ∈ ns, s.size ≤ maxLen := by
  obtain ⟨fuel, hf⟩ := h
  rcases open_strings Try.underlying25 Try.underlying9 cells9 hf with ⟨hcs, _⟩ | ⟨x, l, c, ss, hcs, _, hl, hm, hz, _, hcell, hws⟩
  · simp [Value.cells] at hcs
    obtain ⟨rfl, rfl, rfl⟩ := hcs
    exact ⟨[], rfl, .inl ⟨rfl, rfl, rfl⟩, by simp⟩
  · simp [Value.cells] at hcs
    obtain ⟨rfl, rfl, rfl⟩ := hcs
    have hz' : ss.length = cap := by simpa using hz
    have hlen : (ss.take len).length = len := by rw [List.length_take]; omega
    refine ⟨ss.take len, hlen, ?_, fun s hs => hws s (List.mem_of_mem_take hs)⟩
    rw [hlen]
    refine .inr ⟨_, rfl, hl, hm, fun i hi => ?_⟩
    have := hcell i (by omega)
    rw [this, cS]
    congr 2
    simp [List.getD_eq_getElem?_getD, hi, noS]

/-- A slice of bools that came in. -/
theorem open_kept {H : Type} {enc : TypeId × Value → H} {w : World} {d : DataW H} {p : List MemPlace} {a : Option Addr} {len cap : Nat} (h : DataW.Trod enc Try.prog w 0 (fun _ => true) true 26 (.slice a len cap) d p) :
    ∃ ks : List Bool, ks.length = len ∧ InRow w a ks.length cap (cB ks) := by
  obtain ⟨fuel, hf⟩ := h
  rcases Deep.open_slice1 Try.underlying26 cells4 hf with ⟨hcs, _⟩ | ⟨x, l, c, m, n, V, D, Pl, hcs, _, hl, hm, hmm, _, hx⟩
  · simp [Value.cells] at hcs
    obtain ⟨rfl, rfl, rfl⟩ := hcs
    exact ⟨[], rfl, .inl ⟨rfl, rfl, rfl⟩⟩
  · simp [Value.cells] at hcs
    obtain ⟨rfl, rfl, rfl⟩ := hcs
    simp at hmm
    subst hmm
    obtain ⟨f, hf2⟩ := Deep.choose_lt (α := Bool) (n := m) (p := fun i b => V i = .bool b) (fun i hi => by
      obtain ⟨b, e, _⟩ := DataW.trod_bool Try.underlying4 (hx i hi).2
      exact ⟨b, by simpa using e⟩)
    refine ⟨(List.range len).map f, by simp, ?_⟩
    rw [show ((List.range len).map f).length = len by simp]
    refine .inr ⟨_, rfl, hl, hm, fun i hi => ?_⟩
    rw [(hx i (by omega)).1, hf2 i (by omega), cB]
    congr 2
    simp [List.getD_eq_getElem?_getD, hi]

set_option maxRecDepth 100000 in
theorem lifted (os : Os) (started : os.Started) (H : Type) (enc : TypeId × Value → H) :
    ReturnsInHanded {} Try.checked os 5 .any (Rows.fnEndClosesThroughTheInnermostOfItsNameSpec.pre6 enc Try.prog Try.f5 Rows.fnEndClosesThroughTheInnermostOfItsNameRow.domain false) (Rows.fnEndClosesThroughTheInnermostOfItsNameSpec.post enc Try.prog Try.f5 false true false false) := by
  refine returnsInHanded_of_change (C := Try.checked) own started (by kernel_rfl) Try.func5
    (ChangeSpec.witness6 (enc := enc) (C := Try.checked) false ⟨#[], #[.slice none 0 0, .slice none 0 0, .string ⟨#[]⟩, .string ⟨#[]⟩], []⟩ 8 (by kernel_rfl) (by kernel_rfl) (by kernel_rfl) (by kernel_rfl)) ?_
  intro W base args ds gs before hval0 hW hcnd _
  have hval : ∀ (j : Nat) t v, Try.f5.params[j]? = some t → args[j]? = some v → Value.okWide Try.prog W .any base t v := hval0
  have hW' := hW
  obtain ⟨p, q, hA0, hV, rfl, hfz, hnd⟩ := hW
  have hA : DataW.TrodAll enc Try.prog W 0 (fun _ => true) true Try.f5.params.toList args.toList ds p := hA0
  rw [Try.params5] at hA hval
  obtain ⟨v0, vs0, d0, ds0, p0, q0, hargs, rfl, rfl, h0, r0⟩ := trodAll_cons hA
  obtain ⟨v1, vs1, d1, ds1, p1, q1, rfl, rfl, rfl, h1, r1⟩ := trodAll_cons r0
  obtain ⟨v2, vs2, d2, ds2, p2, q2, rfl, rfl, rfl, h2, r2⟩ := trodAll_cons r1
  obtain ⟨v3, vs3, d3, ds3, p3, q3, rfl, rfl, rfl, h3, r3⟩ := trodAll_cons r2
  obtain ⟨rfl, rfl, rfl⟩ := trodAll_nil r3
  obtain rfl : args = #[v0, v1, v2, v3] := by cases args; simp_all
  obtain ⟨rfl, rfl⟩ := trodVars_none hV
  obtain ⟨a0, len0, cap0, rfl⟩ := okWide_slice Try.underlying25 (hval 0 25 v0 rfl rfl)
  obtain ⟨a1, len1, cap1, rfl⟩ := okWide_slice Try.underlying26 (hval 1 26 v1 rfl rfl)
  have k0 := h0
  have lt0 : ∀ x ∈ p0, x.block < W.heap.size := by obtain ⟨m, hm⟩ := k0; exact DataW.trod_lt m _ _ _ hm
  have k1 := h1
  have lt1 : ∀ x ∈ p1, x.block < W.heap.size := by obtain ⟨m, hm⟩ := k1; exact DataW.trod_lt m _ _ _ hm
  obtain ⟨ns, hn, w0, hs⟩ := open_names h0
  obtain ⟨ks, hk, w1⟩ := open_kept h1
  obtain ⟨s, rfl, rfl, rfl, hps⟩ := open_string Try.underlying9 (hval 2 9 v2 rfl rfl) h2
  obtain ⟨u, rfl, rfl, rfl, hqs⟩ := open_string Try.underlying9 (hval 3 9 v3 rfl rfl) h3
  subst hn hk
  clear hA0 hval0
  refine (law5 a0 a1 cap0 cap1 ns ks s u W w0 w1 hs hps hqs).mono fun e W' ⟨he, bel⟩ => ?_
  subst he
  exact ⟨_, rfl, _, _, _, [], _, [], hW', trodAll_mk1 (shut_bool Try.underlying4 _), (trodAll_cons_mk (Below.trod laidOut (by kernel_rfl) (of_decide_eq_true (by kernel_rfl)) k0 bel lt0) (trodAll_cons_mk (Below.trod laidOut (by kernel_rfl) (of_decide_eq_true (by kernel_rfl)) k1 bel lt1) (trodAll_cons_mk (shut_string Try.underlying9 hps) (trodAll_cons_mk (shut_string Try.underlying9 hqs) trodAll_mk0)))), rfl, bel.frame _, fun h => by cases h⟩

theorem over : Rows.fnEndClosesThroughTheInnermostOfItsNameRow.holds Try.pinned (OpenSpec.ofChange Rows.fnEndClosesThroughTheInnermostOfItsNameSpec) :=
  OpenClaim.holds_of_wide 5 Try.f5 rfl rfl rfl rfl rfl rfl rfl ⟨rfl, rfl, rfl, rfl, rfl⟩ rfl rfl rfl rfl rfl (by kernel_rfl) Try.func5 (by kernel_rfl)
    (of_decide_eq_true (by kernel_rfl)) (by unfold Func.isWrapper; first | (rw [if_pos (by decide +kernel)]; kernel_rfl) | (rw [if_neg (by decide +kernel)]; exact ⟨rfl, rfl⟩))
    (fun os started H enc _ => lifted os started H enc)

end Go.Proofs.Qxb6602872a.fnEndClosesThroughTheInnermostOfItsName
namespace Go.Proofs.Qxb6602872a
theorem fnEndClosesThroughTheInnermostOfItsName_proved : Rows.FnEndClosesThroughTheInnermostOfItsNameSaid := fnEndClosesThroughTheInnermostOfItsName.over
end Go.Proofs.Qxb6602872a
