/-
  stringMask, skipModel: contracts; the law FnSkipValueMatchesTwoPassModel, walked.
-/
import Derived.Test.Qxb6601079aShift
namespace Go.Proofs.Qxb6601079a
open Go.RowKit

def stepS (st : Nat) (c : Int) : Nat :=
  if st = 0 then (if c = 34 then 1 else 0) else if st = 1 then (if c = 92 then 2 else if c = 34 then 0 else 1) else 1
def stAt (l : List Int) (i : Nat) : Nat → Nat
  | 0 => 0
  | k + 1 => stepS (stAt l i k) (l.getD (i + k) 0)
def maskB (l : List Int) (i k : Nat) : Bool := stAt l i k != 0 || l.getD (i + k) 0 == 34

theorem stepS_le (st : Nat) (c : Int) : stepS st c ≤ 2 := by
  unfold stepS; repeat' split
  all_goals omega
theorem stAt_le (l : List Int) (i : Nat) : ∀ k, stAt l i k ≤ 2
  | 0 => by simp [stAt]
  | k + 1 => stepS_le _ _

theorem sv_masked (l : List Int) (i k d : Nat) (hk : i + k < l.length) (hm : maskB l i k = true) : sv (l.drop (i + k)) (stAt l i k) d (i + k) = sv (l.drop (i + (k + 1))) (stAt l i (k + 1)) d (i + (k + 1)) := by
  have h2 := stAt_le l i k
  rw [drop_step l (i + k) hk]
  simp only [maskB, Bool.or_eq_true, bne_iff_ne, beq_iff_eq, ne_eq] at hm
  simp only [stAt, stepS, ← Nat.add_assoc]
  generalize stAt l i k = s at *
  generalize l.getD (i + k) 0 = c at *
  match s, h2 with
  | 0, _ =>
    have hc : c = 34 := by simpa using hm
    simp [sv, hc]
  | 1, _ =>
    by_cases h1 : c = 92
    · simp [sv, h1]
    · by_cases h2 : c = 34 <;> simp [sv, h1, h2]
  | 2, _ => simp [sv]

theorem unmasked (l : List Int) (i k : Nat) (hm : maskB l i k = false) : stAt l i k = 0 ∧ stAt l i (k + 1) = 0 ∧ (l.getD (i + k) 0 == 34) = false := by
  simp only [maskB, Bool.or_eq_false_iff, bne_eq_false_iff_eq] at hm
  refine ⟨hm.1, ?_, hm.2⟩
  have := hm.2
  simp only [beq_eq_false_iff_ne, ne_eq] at this
  simp only [stAt, stepS, hm.1, if_true]
  rw [if_neg this]

theorem sv_last (l : List Int) (i k d : Nat) (hk : l.length = i + k) : sv (l.drop (i + k)) (stAt l i k) d (i + k) = if stAt l i k = 2 then l.length + 1 else l.length := by
  rw [drop_over l (i + k) (by omega)]
  simp only [sv, hk]

theorem Try.info4 : (Try.prog.info? 4).map (fun i => (i.zero, i.size, i.bytes)) = some (some (Value.bool false), 1, 1) := by kernel_rfl

theorem make_bools (n : Nat) (h : n ≤ 2097152) (w : World) :
    (Instr.makeSlice 35 (.int .i64 (n : Int)) (.int .i64 (n : Int))).run Try.prog w = .ok (.slice (some ⟨w.heap.size, 0, none⟩) n n) (w.alloc (.cells (madeCells #[.bool false] n) 4)) :=
  run_make_row' (P := Try.prog) 35 4 (.bool false) 1 Try.underlying35 Try.info4 rfl .i64 .i64 n (by omega) (by omega) w

theorem mask_step (l : List Int) (i k j : Nat) : (if j = k then Value.bool (maskB l i k) else if j < k then .bool (maskB l i j) else .bool false) = (if j < k + 1 then Value.bool (maskB l i j) else .bool false) := by
  by_cases e : j = k
  · subst e; simp
  · by_cases e2 : j < k
    · simp [e, e2, show j < k + 1 by omega]
    · simp [e, e2, show ¬ j < k + 1 by omega]

theorem mask_pass (l : List Int) (i k j : Nat) (h : maskB l i k = false) : (if j < k then Value.bool (maskB l i j) else .bool false) = (if j < k + 1 then Value.bool (maskB l i j) else .bool false) := by
  by_cases e : j = k
  · subst e; simp [h]
  · by_cases e2 : j < k
    · simp [e2, show j < k + 1 by omega]
    · simp [e2, show ¬ j < k + 1 by omega]

set_option maxHeartbeats 2000000 in
theorem mask_any (b cap : Nat) (l : List Int) (i n : Nat) (w : World) (hl : l.length ≤ 2097152) (hi : l.length = i + n) (hb : b < w.heap.size)
    (hc : ∀ i, i < l.length → w.cell? ⟨b, i, none⟩ = some (.int .u8 (l.getD i 0))) :
    Calls Try.prog 29 #[.slice (some ⟨b, 0, none⟩) l.length cap, .int .i64 i] w fun e w' => e = .returned (.tuple #[.slice (some ⟨w.heap.size, 0, none⟩) n n, .int .i64 (stAt l i n : Nat)]) ∧ w'.rowIs w.heap.size 4 n (fun k => .bool (maskB l i k)) ∧ Below w.heap.size w w' := by
  have HC : Hid (∀ i, i < l.length → w.cell? ⟨b, i, none⟩ = some (.int .u8 (l.getD i 0))) := hc
  have HI : Hid (l.length = i + n) := hi
  have hn : i ≤ l.length := by omega
  have hn2 : n ≤ l.length := by omega
  have hmk := make_bools n (by omega)
  rw [show (n : Int) = (l.length : Int) - (i : Int) by omega] at hmk
  clear hc hi
  go_enter Try.func29, Try.ntmps29
  go_wp2
  go_loopw [8, 9] (fun s t wr => ∃ k : Nat, k ≤ n ∧ t = .int .i64 k ∧ s = .int .i64 (stAt l i k : Nat) ∧ Hid (wr.rowIs w.heap.size 4 n (fun j => if j < k then .bool (maskB l i j) else .bool false)) ∧ Hid (Below w.heap.size w wr)) (fun _ t _ => n - (intOf t).toNat)
  case atStart => exact ⟨0, Nat.zero_le _, rfl, rfl, (World.rowIs_made w _ _ _).congr (fun j _ => by simp), (Below.refl _ _).alloc (Nat.le_refl _) _⟩
  case round =>
    obtain ⟨k, hk, rfl, rfl, hrow, hbel⟩ := hrel
    by_cases hlt : k < n
    · have hlt1 : (k : Int) < (l.length : Int) - (i : Int) := by have := HI.out; omega
      have hik : i + k < l.length := by have := HI.out; omega
      obtain ⟨c, hcd⟩ : ∃ c, c = l.getD (i + k) 0 := ⟨_, rfl⟩
      have hcell : wr.cell? ⟨b, i + k, none⟩ = some (.int .u8 c) := by rw [hcd]; exact (hbel.out.cell (p := ⟨b, i + k, none⟩) hb).trans (HC.out _ hik)
      have hcy : wr.cell? ⟨w.heap.size, k, none⟩ = some (.bool false) := by have := hrow.out.cell hlt; simpa using this
      have hfy : wr.frozen? ⟨w.heap.size, k, none⟩ = false := hrow.out.frozen k
      obtain ⟨s, hs⟩ : ∃ s, s = stAt l i k := ⟨_, rfl⟩
      have hs2 := stAt_le l i k
      have hst : stAt l i (k + 1) = stepS s c := by rw [hs, hcd]; rfl
      have hmk' : maskB l i k = (s != 0 || c == 34) := by rw [hs, hcd]; rfl
      rw [← hs] at hs2 ⊢
      have HST : Hid (stAt l i (k + 1) = stepS s c) := hst
      have HM : Hid (maskB l i k = (s != 0 || c == 34)) := hmk'
      clear hs hcd hst hmk'
      rcases (by omega : s = 0 ∨ s = 1 ∨ s = 2) with rfl | rfl | rfl
      · by_cases h1 : (c == 34) = true
        · have HST' : Hid (stAt l i (k + 1) = 1) := by show _ = 1; rw [HST.out]; simp [stepS]; simpa using h1
          have HM' : Hid (maskB l i k = true) := by show _ = true; rw [HM.out]; simp; simpa using h1
          go_wp2
          go_roundw
          case rel => exact ⟨k + 1, by omega, by go_num, by rw [HST'.out]; rfl, ((hrow.out.set _ _).congr (fun j _ => by rw [← mask_step, HM'.out])), hbel.out.setCell (Nat.le_refl _) _⟩
          case measure => simp [intOf]; omega
        · simp only [Bool.not_eq_true] at h1
          have HST' : Hid (stAt l i (k + 1) = 0) := by show _ = 0; rw [HST.out]; simp [stepS]; simpa using h1
          have HM' : Hid (maskB l i k = false) := by show _ = false; rw [HM.out]; simp; simpa using h1
          go_wp2
          go_roundw
          case rel => exact ⟨k + 1, by omega, by go_num, by rw [HST'.out], (hrow.out.congr (fun j _ => mask_pass l i k j HM'.out)), hbel.out⟩
          case measure => simp [intOf]; omega
      · have HM' : Hid (maskB l i k = true) := by show _ = true; rw [HM.out]; rfl
        by_cases h1 : (c == 92) = true
        · have HST' : Hid (stAt l i (k + 1) = 2) := by show _ = 2; rw [HST.out]; simp only [beq_iff_eq] at h1; simp [stepS, h1]
          go_wp2
          go_roundw
          case rel => exact ⟨k + 1, by omega, by go_num, by rw [HST'.out]; rfl, ((hrow.out.set _ _).congr (fun j _ => by rw [← mask_step, HM'.out])), hbel.out.setCell (Nat.le_refl _) _⟩
          case measure => simp [intOf]; omega
        · simp only [Bool.not_eq_true] at h1
          by_cases h2 : (c == 34) = true
          · have HST' : Hid (stAt l i (k + 1) = 0) := by show _ = 0; rw [HST.out]; simp only [beq_iff_eq] at h2; simp [stepS, h2]
            go_wp2
            go_roundw
            case rel => exact ⟨k + 1, by omega, by go_num, by rw [HST'.out]; rfl, ((hrow.out.set _ _).congr (fun j _ => by rw [← mask_step, HM'.out])), hbel.out.setCell (Nat.le_refl _) _⟩
            case measure => simp [intOf]; omega
          · simp only [Bool.not_eq_true] at h2
            have HST' : Hid (stAt l i (k + 1) = 1) := by show _ = 1; rw [HST.out]; simp only [beq_eq_false_iff_ne, ne_eq] at h1 h2; simp [stepS, h1, h2]
            go_wp2
            go_roundw
            case rel => exact ⟨k + 1, by omega, by go_num, by rw [HST'.out], ((hrow.out.set _ _).congr (fun j _ => by rw [← mask_step, HM'.out])), hbel.out.setCell (Nat.le_refl _) _⟩
            case measure => simp [intOf]; omega
      · have HM' : Hid (maskB l i k = true) := by show _ = true; rw [HM.out]; rfl
        have HST' : Hid (stAt l i (k + 1) = 1) := by show _ = 1; rw [HST.out]; simp [stepS]
        go_wp2
        go_roundw
        case rel => exact ⟨k + 1, by omega, by go_num, by rw [HST'.out]; rfl, ((hrow.out.set _ _).congr (fun j _ => by rw [← mask_step, HM'.out])), hbel.out.setCell (Nat.le_refl _) _⟩
        case measure => simp [intOf]; omega
    · have hlt1 : (l.length : Int) - (i : Int) ≤ (k : Int) := by have := HI.out; omega
      have HK : Hid (k = n) := by show k = n; omega
      go_wp2
      go_ret2
      exact ⟨by have e := HK.out; subst e; rfl, hrow.out.congr (fun j hj => by simp [HK.out, hj]), hbel.out⟩

theorem ret_nat' {r i k : Nat} (h : r = i + k) : Ending.returned (.int .i64 ((i : Int) + (k : Int))) = .returned (.int .i64 (r : Int)) := by rw [h]; rfl
theorem ret_nat1 {r i : Nat} (h : r = i + 1) : Ending.returned (.int .i64 ((i : Int) + 1)) = .returned (.int .i64 (r : Int)) := by rw [h]; rfl

set_option maxHeartbeats 400000 in
theorem model_past (a : Option Addr) (cap n i : Nat) (w : World) (h : n ≤ i) :
    Calls Try.prog 12 #[.slice a n cap, .int .i64 i] w fun e w' => e = .returned (.int .i64 i) ∧ w' = w := by
  go_enter Try.func12, Try.ntmps12
  go_wp2
  go_ret
  exact ⟨rfl, rfl⟩

set_option maxHeartbeats 2000000 in
theorem model_in (b cap : Nat) (l : List Int) (i n : Nat) (w : World) (hl : l.length ≤ 2097152) (hi : l.length = i + n) (h0 : 0 < n) (hb : b < w.heap.size)
    (hc : ∀ i, i < l.length → w.cell? ⟨b, i, none⟩ = some (.int .u8 (l.getD i 0))) :
    Calls Try.prog 12 #[.slice (some ⟨b, 0, none⟩) l.length cap, .int .i64 i] w fun e w' => e = .returned (.int .i64 (sv (l.drop i) 0 0 i : Nat)) ∧ Below w.heap.size w w' := by
  have HC : Hid (∀ i, i < l.length → w.cell? ⟨b, i, none⟩ = some (.int .u8 (l.getD i 0))) := hc
  have HI : Hid (l.length = i + n) := hi
  have hn : i < l.length := by omega
  have hn2 : n ≤ l.length := by omega
  clear hc hi
  obtain ⟨R, hR⟩ : ∃ R, R = sv (l.drop i) 0 0 i := ⟨_, rfl⟩
  rw [← hR]
  have HR : Hid (R = sv (l.drop i) 0 0 i) := hR
  clear hR
  go_enter Try.func12, Try.ntmps12
  go_wp2_with fail
  refine (mask_any b cap l i n _ hl HI.out hb HC.out).mono ?_
  rintro e w1 ⟨rfl, hrow, hbel⟩
  have HROW : Hid (w1.rowIs w.heap.size 4 n (fun k => .bool (maskB l i k))) := hrow
  have HBEL : Hid (Below w.heap.size w w1) := hbel
  clear hrow hbel
  obtain ⟨S, hS⟩ : ∃ S, S = stAt l i n := ⟨_, rfl⟩
  rw [← hS]
  have HS : Hid (S = stAt l i n) := hS
  have hS2 : S ≤ 2 := by rw [hS]; exact stAt_le _ _ _
  clear hS
  go_wp2
  go_loop [8, 9] (fun u t => ∃ k d : Nat, k ≤ n ∧ d ≤ k ∧ t = .int .i64 k ∧ u = .int .i64 d ∧ Hid (R = sv (l.drop (i + k)) (stAt l i k) d (i + k))) (fun _ t => n - (intOf t).toNat)
  case atStart => exact ⟨0, 0, Nat.zero_le _, Nat.le_refl _, rfl, rfl, HR.out⟩
  case round =>
    obtain ⟨k, d, hk1, hk2, rfl, rfl, HK⟩ := hrel
    by_cases hlt : k < n
    · have hlt1 : (k : Int) < (l.length : Int) - (i : Int) := by have := HI.out; omega
      have hik : i + k < l.length := by have := HI.out; omega
      have hmc := HROW.out.cell hlt
      by_cases hm : maskB l i k = true
      · rw [hm] at hmc
        go_wp2
        go_round
        case rel => exact ⟨k + 1, d, by omega, by omega, by go_num, rfl, HK.out.trans (sv_masked l i k d hik hm)⟩
        case measure => simp [intOf]; omega
      · simp only [Bool.not_eq_true] at hm
        rw [hm] at hmc
        obtain ⟨us1, us2, h1⟩ := unmasked l i k hm
        have HK2 := HK.out
        rw [us1] at HK2
        have HK0 : Hid (R = sv (l.drop (i + k)) 0 d (i + k)) := HK2
        have US2 : Hid (stAt l i (k + 1) = 0) := us2
        obtain ⟨c, hcd⟩ : ∃ c, c = l.getD (i + k) 0 := ⟨_, rfl⟩
        have hcell : w1.cell? ⟨b, i + k, none⟩ = some (.int .u8 c) := by rw [hcd]; exact (HBEL.out.cell (p := ⟨b, i + k, none⟩) hb).trans (HC.out _ hik)
        rw [← hcd] at h1
        have HCD : Hid (c = l.getD (i + k) 0) := hcd
        clear hcd us1 us2 HK2 HK
        by_cases h2 : (c == 123) = true
        · go_wp2
          go_round
          case rel => exact ⟨k + 1, d + 1, by omega, by omega, by go_num, by go_num, by rw [US2.out]; exact HK0.out.trans (sv_open l (i + k) d c hik HCD.out h1 (Or.inl h2))⟩
          case measure => simp [intOf]; omega
        · simp only [Bool.not_eq_true] at h2
          by_cases h3 : (c == 91) = true
          · go_wp2
            go_round
            case rel => exact ⟨k + 1, d + 1, by omega, by omega, by go_num, by go_num, by rw [US2.out]; exact HK0.out.trans (sv_open l (i + k) d c hik HCD.out h1 (Or.inr h3))⟩
            case measure => simp [intOf]; omega
          · simp only [Bool.not_eq_true] at h3
            by_cases hd : d = 0
            · have hdb : ((d : Int) == 0) = true := by simp [hd]
              have HD : Hid (d = 0) := hd
              clear hd
              by_cases h4 : (c == 125) = true
              · go_wp2
                go_ret
                exact ⟨ret_nat' (HK0.out.trans (sv_close0 l (i + k) d c hik HCD.out h1 h2 h3 (Or.inl h4) HD.out)), HBEL.out⟩
              · simp only [Bool.not_eq_true] at h4
                by_cases h5 : (c == 93) = true
                · go_wp2
                  go_ret
                  exact ⟨ret_nat' (HK0.out.trans (sv_close0 l (i + k) d c hik HCD.out h1 h2 h3 (Or.inr h5) HD.out)), HBEL.out⟩
                · simp only [Bool.not_eq_true] at h5
                  by_cases h6 : (c == 44) = true
                  · go_wp2
                    go_ret
                    exact ⟨ret_nat' (HK0.out.trans (sv_stop l (i + k) d c hik HCD.out h1 h2 h3 h4 h5 HD.out (Or.inl h6))), HBEL.out⟩
                  · simp only [Bool.not_eq_true] at h6
                    by_cases h7 : blankB c = true
                    · go_wp2_with (go_at_call 30; refine (blank30 _ _).mono ?_; rintro e w' ⟨rfl, rfl⟩)
                      go_ret
                      exact ⟨ret_nat' (HK0.out.trans (sv_stop l (i + k) d c hik HCD.out h1 h2 h3 h4 h5 HD.out (Or.inr h7))), HBEL.out⟩
                    · simp only [Bool.not_eq_true] at h7
                      go_wp2_with (go_at_call 30; refine (blank30 _ _).mono ?_; rintro e w' ⟨rfl, rfl⟩)
                      go_round
                      case rel => exact ⟨k + 1, d, by omega, by omega, by go_num, by go_num, by rw [US2.out]; exact HK0.out.trans (sv_pass l (i + k) d c hik HCD.out h1 h2 h3 h4 h5 (Or.inr ⟨h6, h7⟩))⟩
                      case measure => simp [intOf]; omega
            · have hdb : ((d : Int) == 0) = false := by simp [hd]
              have HD : Hid (d ≠ 0) := hd
              have hd1 : 1 ≤ d := by omega
              clear hd
              by_cases h4 : (c == 125) = true
              · go_wp2
                go_round
                case rel => exact ⟨k + 1, d - 1, by omega, by omega, by go_num, by go_num, by rw [US2.out]; exact HK0.out.trans (sv_close l (i + k) d c hik HCD.out h1 h2 h3 (Or.inl h4) HD.out)⟩
                case measure => simp [intOf]; omega
              · simp only [Bool.not_eq_true] at h4
                by_cases h5 : (c == 93) = true
                · go_wp2
                  go_round
                  case rel => exact ⟨k + 1, d - 1, by omega, by omega, by go_num, by go_num, by rw [US2.out]; exact HK0.out.trans (sv_close l (i + k) d c hik HCD.out h1 h2 h3 (Or.inr h5) HD.out)⟩
                  case measure => simp [intOf]; omega
                · simp only [Bool.not_eq_true] at h5
                  go_wp2
                  go_round
                  case rel => exact ⟨k + 1, d, by omega, by omega, by go_num, by go_num, by rw [US2.out]; exact HK0.out.trans (sv_pass l (i + k) d c hik HCD.out h1 h2 h3 h4 h5 (Or.inl HD.out))⟩
                  case measure => simp [intOf]; omega
    · have hlt1 : (l.length : Int) - (i : Int) ≤ (k : Int) := by have := HI.out; omega
      have HE : Hid (R = if S = 2 then l.length + 1 else l.length) := by
        have e : k = n := by omega
        have h := HK.out
        rw [e, sv_last l i n d HI.out, ← HS.out] at h
        exact h
      clear HK
      by_cases h2 : S = 2
      · have hb2 : ((S : Int) == 2) = true := by simp [h2]
        have HE2 : Hid (R = l.length + 1) := by have := HE.out; rwa [if_pos h2] at this
        clear h2
        go_wp2
        go_ret
        exact ⟨ret_nat1 HE2.out, HBEL.out⟩
      · have hb2 : ((S : Int) == 2) = false := by simp; omega
        have HE2 : Hid (R = l.length) := by have := HE.out; rwa [if_neg h2] at this
        clear h2
        go_wp2
        go_ret
        exact ⟨ret_nat HE2.out, HBEL.out⟩

theorem model_any (a : Option Addr) (cap : Nat) (l : List Int) (i : Nat) (w : World) (hl : l.length ≤ 2097152) (h : Bv w a l) :
    Calls Try.prog 12 #[.slice a l.length cap, .int .i64 i] w fun e w' => e = .returned (.int .i64 (sv (l.drop i) 0 0 i : Nat)) ∧ Below w.heap.size w w' := by
  by_cases h0 : l.length ≤ i
  · rw [sv_end l i 0 h0]
    exact (model_past a cap l.length i w h0).mono fun e w' ⟨he, hw⟩ => ⟨he, hw ▸ Below.refl _ _⟩
  · obtain ⟨b, rfl, hb, hc⟩ := h.all (by omega)
    exact model_in b cap l i (l.length - i) w hl (by omega) (by omega) hb hc

end Go.Proofs.Qxb6601079a
