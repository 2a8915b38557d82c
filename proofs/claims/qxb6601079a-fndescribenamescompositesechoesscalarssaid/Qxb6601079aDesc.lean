/-
  describe, isComposite: contracts; the law over them.
-/
import Derived.Test.Qxb6601079aBase
namespace Go.Proofs.Qxb6601079a
open Go.RowKit

def compB (c : Int) : Bool := c == 34 || c == 123 || c == 91
def descS (l : List Int) : ByteArray :=
  if l.getD 0 0 == 34 then ⟨#[97, 32, 115, 116, 114, 105, 110, 103]⟩
  else if l.getD 0 0 == 123 then ⟨#[97, 110, 32, 111, 98, 106, 101, 99, 116]⟩
  else if l.getD 0 0 == 91 then ⟨#[97, 110, 32, 97, 114, 114, 97, 121]⟩
  else strOfNums l

set_option maxHeartbeats 400000 in
theorem comp_any (c : Int) (w : World) : Calls Try.prog 18 #[.int .u8 c] w fun e w' => e = .returned (.bool (compB c)) ∧ w' = w := by
  have hb : Hid (compB c = (c == 34 || c == 123 || c == 91)) := rfl
  by_cases h1 : (c == 34) = true
  · go_enter Try.func18, Try.ntmps18
    go_wp2
    go_ret
    exact ⟨by rw [hb.out]; simp [h1], rfl⟩
  · simp only [Bool.not_eq_true] at h1
    by_cases h2 : (c == 123) = true
    · go_enter Try.func18, Try.ntmps18
      go_wp2
      go_ret
      exact ⟨by rw [hb.out]; simp [h1, h2], rfl⟩
    · simp only [Bool.not_eq_true] at h2
      go_enter Try.func18, Try.ntmps18
      go_wp2
      go_ret
      exact ⟨by rw [hb.out]; simp [h1, h2], rfl⟩

set_option maxHeartbeats 400000 in
theorem desc_some (b cap : Nat) (l : List Int) (w : World) (h0 : 0 < l.length) (hc : ∀ i, i < l.length → w.cell? ⟨b, i, none⟩ = some (.int .u8 (l.getD i 0))) :
    Calls Try.prog 17 #[.slice (some ⟨b, 0, none⟩) l.length cap] w fun e w' => e = .returned (.string (descS l)) ∧ w' = w := by
  have g := run_convert_bytes_arg (P := Try.prog) w 22 5 Try.underlying22 Try.underlying5 b 0 l.length cap l rfl (fun i hi => by rw [Nat.zero_add]; exact hc i hi) 9 Try.underlying9
  have hc0 := hc 0 h0
  have hp : (0 : Int) < (l.length : Int) := by omega
  obtain ⟨c, hcd⟩ : ∃ c, c = l.getD 0 0 := ⟨_, rfl⟩
  have hd : Hid (descS l = if c == 34 then ⟨#[97, 32, 115, 116, 114, 105, 110, 103]⟩
    else if c == 123 then ⟨#[97, 110, 32, 111, 98, 106, 101, 99, 116]⟩
    else if c == 91 then ⟨#[97, 110, 32, 97, 114, 114, 97, 121]⟩
    else strOfNums l) := by subst hcd; rfl
  rw [← hcd] at hc0
  clear hcd hc
  by_cases h1 : (c == 34) = true
  · go_enter Try.func17, Try.ntmps17
    go_wp2
    go_ret
    exact ⟨by rw [hd.out]; simp [h1], rfl⟩
  · simp only [Bool.not_eq_true] at h1
    by_cases h2 : (c == 123) = true
    · go_enter Try.func17, Try.ntmps17
      go_wp2
      go_ret
      exact ⟨by rw [hd.out]; simp [h1, h2], rfl⟩
    · simp only [Bool.not_eq_true] at h2
      by_cases h3 : (c == 91) = true
      · go_enter Try.func17, Try.ntmps17
        go_wp2
        go_ret
        exact ⟨by rw [hd.out]; simp [h1, h2, h3], rfl⟩
      · simp only [Bool.not_eq_true] at h3
        go_enter Try.func17, Try.ntmps17
        go_wp2
        go_ret
        exact ⟨by rw [hd.out]; simp [h1, h2, h3], rfl⟩

set_option maxHeartbeats 400000 in
theorem zz16_any (a0 a1 : Option Addr) (len0 cap0 len1 cap1 : Nat) (w : World) (h0 : len0 ≤ maxLen) (h1 : len1 ≤ maxLen) :
    Calls Try.prog 16 #[.slice a0 len0 cap0, .slice a1 len1 cap1] w fun e w' => e = .returned (.bool (decide (len0 + len1 ≤ 1048576))) ∧ w' = w := by
  unfold maxLen at h0 h1
  by_cases c0 : len0 ≤ 1048576
  · by_cases c1 : len0 + len1 ≤ 1048576
    · go_enter Try.func16, Try.ntmps16
      go_wp2
      go_ret
      exact ⟨by simp [c1], rfl⟩
    · by_cases c2 : len1 ≤ 1048576
      · go_enter Try.func16, Try.ntmps16
        go_wp2
        go_ret
        exact ⟨by simp [c1], rfl⟩
      · go_enter Try.func16, Try.ntmps16
        go_wp2
        go_ret
        exact ⟨by simp [c1], rfl⟩
  · have c1 : ¬ (len0 + len1 ≤ 1048576) := by omega
    go_enter Try.func16, Try.ntmps16
    go_wp2
    go_ret
    exact ⟨by simp [c1], rfl⟩

end Go.Proofs.Qxb6601079a
