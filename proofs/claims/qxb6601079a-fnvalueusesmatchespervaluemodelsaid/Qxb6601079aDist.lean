/-
  distinctValues: the contract.
-/
import Derived.Test.Qxb6601079aUses
import Derived.Deep.QuietTactic
import Derived.BigQuiet
import Derived.WalkSmall
namespace Go.Proofs.Qxb6601079a
open Go.RowKit

theorem named_take_hit (l : List OpT) (j k : Nat) (x : Int) (hj : j < k) (hk : k ≤ l.length) (h : (l.getD j opZ).val = x) : named (l.take k) x = true := by
  unfold named
  rw [List.any_eq_true]
  refine ⟨l.getD j opZ, ?_, by simpa using h⟩
  rw [List.getD_eq_getElem?_getD, List.getElem?_eq_getElem (by omega)]
  simp only [Option.getD_some]
  rw [← List.getElem_take (j := k) (h := by rw [List.length_take]; omega)]
  exact List.getElem_mem _

theorem named_step (l : List OpT) (j : Nat) (x : Int) (hj : j < l.length) (h0 : named (l.take j) x = false) (h : ((l.getD j opZ).val == x) = false) : named (l.take (j + 1)) x = false := by
  rw [take_snoc_op l j hj, named_snoc, h0, h]; rfl

theorem dcount_le (l : List OpT) : ∀ k, dcount l k ≤ k
  | 0 => Nat.le_refl _
  | k + 1 => by have := dcount_le l k; simp only [dcount]; split <;> omega

theorem dcount_hit (l : List OpT) (k : Nat) (x : Int) {dk : Nat} (hx : x = (l.getD k opZ).val) (hd : dk = dcount l k) (h : named (l.take k) x = true) : dk = dcount l (k + 1) := by
  simp only [dcount, ← hx, h, if_true, ← hd, Nat.add_zero]
theorem dcount_miss (l : List OpT) (k : Nat) (x : Int) {dk : Nat} (hx : x = (l.getD k opZ).val) (hd : dk = dcount l k) (h : named (l.take k) x = false) : dk + 1 = dcount l (k + 1) := by
  simp only [dcount, ← hx, h, ← hd]; rfl
theorem ret_val {r k : Nat} (h : r = k) : Value.int .i64 (r : Int) = .int .i64 (k : Int) := by rw [h]
theorem ret_val1 {r k : Nat} (h : r + 1 = k) : Value.int .i64 ((r : Int) + 1) = .int .i64 (k : Int) := by rw [← h]; rfl

set_option maxHeartbeats 1000000 in
theorem dist_any (a : Option Addr) (cap : Nat) (l : List OpT) (w : World) (hlen : l.length ≤ 4096) (hv : Ov w a l) :
    Calls Try.prog 23 #[.slice a l.length cap] w fun e w' => e = .returned (.int .i64 (dcount l l.length : Nat)) ∧ Below w.heap.size w w' := by
  have HV := Hid.mk hv
  clear hv
  go_enter Try.func23, Try.ntmps23
  go_wp2
  go_loopw [3, 4] (fun c i wr => ∃ k : Nat, k ≤ l.length ∧ i = .int .i64 k ∧ c = .int .i64 (dcount l k : Nat) ∧ Hid (Below w.heap.size w wr)) (fun _ i _ => l.length - (intOf i).toNat)
  case atStart => exact ⟨0, Nat.zero_le _, rfl, rfl, Below.refl _ _⟩
  case round =>
    obtain ⟨k, hk, rfl, rfl, hbel⟩ := hrel
    by_cases hlt : k < l.length
    · obtain ⟨b, rfl, hb, _, _, c2, _⟩ := HV.out.cells hlt
      obtain ⟨x, hx⟩ : ∃ x, x = (l.getD k opZ).val := ⟨_, rfl⟩
      rw [← hx] at c2
      have HX := Hid.mk hx
      have HC2 := Hid.mk c2
      have hdc := dcount_le l k
      obtain ⟨dk, hdk⟩ : ∃ dk, dk = dcount l k := ⟨_, rfl⟩
      rw [← hdk] at hdc ⊢
      have HDK := Hid.mk hdk
      clear hx c2 hdk
      go_wp2
      go_loopw [5, 6] (fun s j wq => ∃ i : Nat, i ≤ k ∧ j = .int .i64 i ∧ s = .bool false ∧ Hid (named (l.take i) x = false) ∧ Hid (Below w.heap.size w wq)) (fun _ j _ => k - (intOf j).toNat)
      case atStart => exact ⟨0, Nat.zero_le _, rfl, rfl, rfl, hbel⟩
      case round =>
        obtain ⟨i, hi, rfl, rfl, hn, hbq⟩ := hrel
        by_cases hlt2 : i < k
        · obtain ⟨b', hb', _, _, _, c2', _⟩ := HV.out.cells (i := i) (by omega)
          simp only [Option.some.injEq, Addr.mk.injEq, and_true] at hb'
          subst hb'
          obtain ⟨y, hy⟩ : ∃ y, y = (l.getD i opZ).val := ⟨_, rfl⟩
          rw [← hy] at c2'
          have HY := Hid.mk hy
          have g1 := (hbq.out.cell (p := ⟨b, k * 4 + 2, none⟩) hb).trans HC2.out
          have g2 := (hbq.out.cell (p := ⟨b, i * 4 + 2, none⟩) hb).trans c2'
          have hi1 : (0 : Int) ≤ (i : Int) := by omega
          have hi2 : (i : Int) < (l.length : Int) := by omega
          have hk1 : (0 : Int) ≤ (k : Int) := by omega
          have hk2 : (k : Int) < (l.length : Int) := by omega
          clear hy c2'
          cases hxy : (y == x) with
          | true =>
            have HT : Hid (named (l.take k) x = true) := named_take_hit l i k x hlt2 hk (by rw [← HY.out]; simpa using hxy)
            go_wp2
            go_quiet (fail)
            go_wp2
            go_roundw
            case rel => exact ⟨k + 1, by omega, by go_num, ret_val (dcount_hit l k x HX.out HDK.out HT.out), below_drewN hbq.out _⟩
            case measure => simp [intOf]; omega
          | false =>
            have HT : Hid (named (l.take (i + 1)) x = false) := named_step l i x (by omega) hn.out (by rw [← HY.out]; exact hxy)
            go_wp2
            go_quiet (fail)
            go_wp2
            go_roundw
            case rel => exact ⟨i + 1, by omega, by go_num, rfl, HT, below_drewN hbq.out _⟩
            case measure => simp [intOf]; omega
        · have HT : Hid (named (l.take k) x = false) := by have := hn.out; rwa [show i = k by omega] at this
          go_wp2
          go_roundw
          case rel => exact ⟨k + 1, by omega, by go_num, ret_val1 (dcount_miss l k x HX.out HDK.out HT.out), hbq⟩
          case measure => simp [intOf]; omega
    · have e : k = l.length := by omega
      have HE := Hid.mk e
      clear e
      go_wp2
      go_ret
      exact ⟨by have e := HE.out; subst e; rfl, hbel.out⟩

end Go.Proofs.Qxb6601079a
