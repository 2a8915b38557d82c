/-
  THE CONTRACTS of isSpace, isBlank, skipString, skipValue.
-/
import Derived.Test.Qxb6601079aBase
import Derived.Test.Qxb6601079aPlain
namespace Go.Proofs.Qxb6601079a
open Go.RowKit

theorem ret_nat {r k : Nat} (h : r = k) : Ending.returned (.int .i64 (k : Int)) = .returned (.int .i64 (r : Int)) := by rw [h]

set_option maxHeartbeats 400000 in
theorem blank30 (c : Int) (w : World) : Calls Try.prog 30 #[.int .u8 c] w fun e w' => e = .returned (.bool (blankB c)) ∧ w' = w := by
  have hb : Hid (blankB c = (c == 32 || c == 9 || c == 10 || c == 13)) := rfl
  by_cases h1 : (c == 32) = true
  · go_enter Try.func30, Try.ntmps30
    go_wp2
    go_ret
    exact ⟨by rw [hb.out]; simp [h1], rfl⟩
  · simp only [Bool.not_eq_true] at h1
    by_cases h2 : (c == 9) = true
    · go_enter Try.func30, Try.ntmps30
      go_wp2
      go_ret
      exact ⟨by rw [hb.out]; simp [h1, h2], rfl⟩
    · simp only [Bool.not_eq_true] at h2
      by_cases h3 : (c == 10) = true
      · go_enter Try.func30, Try.ntmps30
        go_wp2
        go_ret
        exact ⟨by rw [hb.out]; simp [h1, h2, h3], rfl⟩
      · simp only [Bool.not_eq_true] at h3
        go_enter Try.func30, Try.ntmps30
        go_wp2
        go_ret
        exact ⟨by rw [hb.out]; simp [h1, h2, h3], rfl⟩

set_option maxHeartbeats 400000 in
theorem blank34 (c : Int) (w : World) : Calls Try.prog 34 #[.int .u8 c] w fun e w' => e = .returned (.bool (blankB c)) ∧ w' = w := by
  have hb : Hid (blankB c = (c == 32 || c == 9 || c == 10 || c == 13)) := rfl
  by_cases h1 : (c == 32) = true
  · go_enter Try.func34, Try.ntmps34
    go_wp2
    go_ret
    exact ⟨by rw [hb.out]; simp [h1], rfl⟩
  · simp only [Bool.not_eq_true] at h1
    by_cases h2 : (c == 9) = true
    · go_enter Try.func34, Try.ntmps34
      go_wp2
      go_ret
      exact ⟨by rw [hb.out]; simp [h1, h2], rfl⟩
    · simp only [Bool.not_eq_true] at h2
      by_cases h3 : (c == 10) = true
      · go_enter Try.func34, Try.ntmps34
        go_wp2
        go_ret
        exact ⟨by rw [hb.out]; simp [h1, h2, h3], rfl⟩
      · simp only [Bool.not_eq_true] at h3
        go_enter Try.func34, Try.ntmps34
        go_wp2
        go_ret
        exact ⟨by rw [hb.out]; simp [h1, h2, h3], rfl⟩

set_option maxHeartbeats 1000000 in
/-- skipString behind a quote at i. -/
theorem skipString_any (b cap : Nat) (l : List Int) (i : Nat) (w : World) (hl : l.length ≤ 2097152) (hi : i < l.length)
    (hc : ∀ i, i < l.length → w.cell? ⟨b, i, none⟩ = some (.int .u8 (l.getD i 0))) :
    Calls Try.prog 33 #[.slice (some ⟨b, 0, none⟩) l.length cap, .int .i64 i] w fun e w' => (∃ j : Nat, e = .returned (.int .i64 j) ∧ i < j ∧ j ≤ l.length + 1 ∧ ∀ d, sv (l.drop (i + 1)) 1 d (i + 1) = sv (l.drop j) 0 d j) ∧ w' = w := by
  have HC : Hid (∀ i, i < l.length → w.cell? ⟨b, i, none⟩ = some (.int .u8 (l.getD i 0))) := hc
  clear hc
  go_enter Try.func33, Try.ntmps33
  go_wp2
  go_loop [1] (fun t => ∃ k : Nat, i < k ∧ k ≤ l.length + 1 ∧ t = .int .i64 k ∧ Hid (∀ d, sv (l.drop (i + 1)) 1 d (i + 1) = sv (l.drop k) 1 d k)) (fun t => l.length + 2 - (intOf t).toNat)
  case atStart => exact ⟨i + 1, by omega, by omega, by go_num, fun _ => rfl⟩
  case round =>
    obtain ⟨k, hk1, hk2, rfl, HK⟩ := hrel
    by_cases hlt : k < l.length
    · obtain ⟨c, hcd⟩ : ∃ c, c = l.getD k 0 := ⟨_, rfl⟩
      have hcell := HC.out k hlt
      rw [← hcd] at hcell
      have HCD : Hid (c = l.getD k 0) := hcd
      clear hcd
      by_cases h1 : (c == 92) = true
      · go_wp2
        go_round
        case rel => exact ⟨k + 2, by omega, by omega, by go_num, fun d => (HK.out d).trans (ss_esc l k d c hlt HCD.out h1)⟩
        case measure => simp [intOf]; omega
      · simp only [Bool.not_eq_true] at h1
        by_cases h2 : (c == 34) = true
        · go_wp2
          go_ret
          exact ⟨⟨k + 1, by go_num, by omega, by omega, fun d => (HK.out d).trans (ss_quote l k d c hlt HCD.out h2)⟩, rfl⟩
        · simp only [Bool.not_eq_true] at h2
          go_wp2
          go_round
          case rel => exact ⟨k + 1, by omega, by omega, by go_num, fun d => (HK.out d).trans (ss_else l k d c hlt HCD.out h1 h2)⟩
          case measure => simp [intOf]; omega
    · go_wp2
      go_ret
      exact ⟨⟨k, rfl, by omega, by omega, fun d => (HK.out d).trans (ss_end l k d (by omega))⟩, rfl⟩

set_option maxHeartbeats 2000000 in
theorem skipValue_some (b cap : Nat) (l : List Int) (i : Nat) (w : World) (hl : l.length ≤ 2097152) (hi : i ≤ 9223372036854775807)
    (hc : ∀ i, i < l.length → w.cell? ⟨b, i, none⟩ = some (.int .u8 (l.getD i 0))) :
    Calls Try.prog 28 #[.slice (some ⟨b, 0, none⟩) l.length cap, .int .i64 i] w fun e w' => e = .returned (.int .i64 (sv (l.drop i) 0 0 i : Nat)) ∧ w' = w := by
  have HC : Hid (∀ i, i < l.length → w.cell? ⟨b, i, none⟩ = some (.int .u8 (l.getD i 0))) := hc
  clear hc
  obtain ⟨R, hR⟩ : ∃ R, R = sv (l.drop i) 0 0 i := ⟨_, rfl⟩
  rw [← hR]
  have HR : Hid (R = sv (l.drop i) 0 0 i) := hR
  clear hR
  go_enter Try.func28, Try.ntmps28
  go_wp2
  go_loop [1, 5] (fun t u => ∃ k d : Nat, k ≤ 9223372036854775807 ∧ d ≤ k ∧ t = .int .i64 k ∧ u = .int .i64 d ∧ Hid (R = sv (l.drop k) 0 d k)) (fun t _ => l.length + 2 - (intOf t).toNat)
  case atStart => exact ⟨i, 0, hi, Nat.zero_le _, rfl, rfl, HR.out⟩
  case round =>
    obtain ⟨k, d, hk1, hk2, rfl, rfl, HK⟩ := hrel
    by_cases hlt : k < l.length
    · obtain ⟨c, hcd⟩ : ∃ c, c = l.getD k 0 := ⟨_, rfl⟩
      have hcell := HC.out k hlt
      rw [← hcd] at hcell
      have HCD : Hid (c = l.getD k 0) := hcd
      clear hcd
      by_cases h1 : (c == 34) = true
      · go_wp2_with fail
        refine (skipString_any b cap l k _ hl hlt HC.out).mono ?_
        rintro e w' ⟨⟨j, rfl, hj1, hj2, hj⟩, rfl⟩
        have HJ : Hid (∀ d, sv (l.drop (k + 1)) 1 d (k + 1) = sv (l.drop j) 0 d j) := hj
        clear hj
        go_wp2
        go_round
        case rel => exact ⟨j, d, by omega, by omega, by go_num, rfl, HK.out.trans ((sv_quote l k d c hlt HCD.out h1).trans (HJ.out d))⟩
        case measure => simp [intOf]; omega
      · simp only [Bool.not_eq_true] at h1
        by_cases h2 : (c == 123) = true
        · go_wp2
          go_round
          case rel => exact ⟨k + 1, d + 1, by omega, by omega, by go_num, by go_num, HK.out.trans (sv_open l k d c hlt HCD.out h1 (Or.inl h2))⟩
          case measure => simp [intOf]; omega
        · simp only [Bool.not_eq_true] at h2
          by_cases h3 : (c == 91) = true
          · go_wp2
            go_round
            case rel => exact ⟨k + 1, d + 1, by omega, by omega, by go_num, by go_num, HK.out.trans (sv_open l k d c hlt HCD.out h1 (Or.inr h3))⟩
            case measure => simp [intOf]; omega
          · simp only [Bool.not_eq_true] at h3
            by_cases hd : d = 0
            · have hdb : ((d : Int) == 0) = true := by simp [hd]
              have HD : Hid (d = 0) := hd
              clear hd
              by_cases h4 : (c == 125) = true
              · go_wp2
                go_ret
                exact ⟨ret_nat (HK.out.trans (sv_close0 l k d c hlt HCD.out h1 h2 h3 (Or.inl h4) HD.out)), rfl⟩
              · simp only [Bool.not_eq_true] at h4
                by_cases h5 : (c == 93) = true
                · go_wp2
                  go_ret
                  exact ⟨ret_nat (HK.out.trans (sv_close0 l k d c hlt HCD.out h1 h2 h3 (Or.inr h5) HD.out)), rfl⟩
                · simp only [Bool.not_eq_true] at h5
                  by_cases h6 : (c == 44) = true
                  · go_wp2
                    go_ret
                    exact ⟨ret_nat (HK.out.trans (sv_stop l k d c hlt HCD.out h1 h2 h3 h4 h5 HD.out (Or.inl h6))), rfl⟩
                  · simp only [Bool.not_eq_true] at h6
                    by_cases h7 : blankB c = true
                    · go_wp2_with (go_at_call 34; refine (blank34 _ _).mono ?_; rintro e w' ⟨rfl, rfl⟩)
                      go_ret
                      exact ⟨ret_nat (HK.out.trans (sv_stop l k d c hlt HCD.out h1 h2 h3 h4 h5 HD.out (Or.inr h7))), rfl⟩
                    · simp only [Bool.not_eq_true] at h7
                      go_wp2_with (go_at_call 34; refine (blank34 _ _).mono ?_; rintro e w' ⟨rfl, rfl⟩)
                      go_round
                      case rel => exact ⟨k + 1, d, by omega, by omega, by go_num, by go_num, HK.out.trans (sv_pass l k d c hlt HCD.out h1 h2 h3 h4 h5 (Or.inr ⟨h6, h7⟩))⟩
                      case measure => simp [intOf]; omega
            · have hdb : ((d : Int) == 0) = false := by simp [hd]
              have HD : Hid (d ≠ 0) := hd
              have hd1 : 1 ≤ d := by omega
              clear hd
              by_cases h4 : (c == 125) = true
              · go_wp2
                go_round
                case rel => exact ⟨k + 1, d - 1, by omega, by omega, by go_num, by go_num, HK.out.trans (sv_close l k d c hlt HCD.out h1 h2 h3 (Or.inl h4) HD.out)⟩
                case measure => simp [intOf]; omega
              · simp only [Bool.not_eq_true] at h4
                by_cases h5 : (c == 93) = true
                · go_wp2
                  go_round
                  case rel => exact ⟨k + 1, d - 1, by omega, by omega, by go_num, by go_num, HK.out.trans (sv_close l k d c hlt HCD.out h1 h2 h3 (Or.inr h5) HD.out)⟩
                  case measure => simp [intOf]; omega
                · simp only [Bool.not_eq_true] at h5
                  go_wp2
                  go_round
                  case rel => exact ⟨k + 1, d, by omega, by omega, by go_num, by go_num, HK.out.trans (sv_pass l k d c hlt HCD.out h1 h2 h3 h4 h5 (Or.inl HD.out))⟩
                  case measure => simp [intOf]; omega
    · go_wp2
      go_ret
      exact ⟨ret_nat (HK.out.trans (sv_end l k d (by omega))), rfl⟩

end Go.Proofs.Qxb6601079a
