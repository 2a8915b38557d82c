/-
  THE PLAIN LAWS OF skipValue: no Go in sight. 'sv': one automaton over the bytes from the start on.
-/
import Derived.Below
namespace Go.Proofs.Qxb6601079a

def blankB (c : Int) : Bool := c == 32 || c == 9 || c == 10 || c == 13

/-- The automaton: state 0 outside a string, 1 inside, 2 behind a backslash; d: the depth; i: the index. -/
def sv : List Int → Nat → Nat → Nat → Nat
  | [], st, _, i => if st = 2 then i + 1 else i
  | c :: r, st, d, i =>
    if st = 0 then
      if c = 34 then sv r 1 d (i + 1)
      else if c = 123 ∨ c = 91 then sv r 0 (d + 1) (i + 1)
      else if c = 125 ∨ c = 93 then (if d = 0 then i else sv r 0 (d - 1) (i + 1))
      else if d = 0 ∧ (c = 44 ∨ blankB c = true) then i
      else sv r 0 d (i + 1)
    else if st = 1 then
      if c = 92 then sv r 2 d (i + 1) else if c = 34 then sv r 0 d (i + 1) else sv r 1 d (i + 1)
    else sv r 1 d (i + 1)

theorem sv_shift (m : Nat) : ∀ (l : List Int) (st d i : Nat), sv l st d (i + m) = sv l st d i + m
  | [], st, d, i => by simp only [sv]; split <;> omega
  | c :: r, st, d, i => by
    have h1 := sv_shift m r
    have e : i + m + 1 = i + 1 + m := by omega
    simp only [sv, e, h1]
    repeat' split
    all_goals rfl

/-- The bounds. -/
theorem sv_bd : ∀ (l : List Int) (st d i : Nat), i ≤ sv l st d i ∧ sv l st d i ≤ i + l.length + 1
  | [], st, d, i => by simp only [sv, List.length_nil]; split <;> omega
  | c :: r, st, d, i => by
    have h0 := sv_bd r 0 d (i + 1)
    have h1 := sv_bd r 1 d (i + 1)
    have h2 := sv_bd r 2 d (i + 1)
    have h3 := sv_bd r 0 (d + 1) (i + 1)
    have h4 := sv_bd r 0 (d - 1) (i + 1)
    simp only [sv, List.length_cons]
    repeat' split
    all_goals omega

/-- One past the end: the state at the end is 2: the last byte is a backslash (or there is none and the state was 2). -/
theorem sv_over : ∀ (l : List Int) (st d i : Nat), sv l st d i = i + l.length + 1 → (l = [] ∧ st = 2) ∨ (0 < l.length ∧ l.getD (l.length - 1) 0 = 92)
  | [], st, d, i => by simp only [sv, List.length_nil]; split <;> simp_all
  | c :: r, st, d, i => by
    intro h
    refine Or.inr ⟨by simp, ?_⟩
    have key : ∀ st' d', (st' = 2 → c = 92) → sv r st' d' (i + 1) = i + 1 + r.length + 1 → (c :: r).getD ((c :: r).length - 1) 0 = 92 := by
      intro st' d' hc h'
      rcases sv_over r st' d' (i + 1) h' with ⟨rfl, h2⟩ | ⟨h1, h2⟩
      · simpa using hc h2
      · cases r with
        | nil => simp at h1
        | cons x r => simpa using h2
    simp only [sv, List.length_cons] at h
    repeat' split at h
    all_goals first
      | (exfalso; omega)
      | exact key 1 d (by omega) (by omega)
      | exact key 0 d (by omega) (by omega)
      | exact key 0 (d + 1) (by omega) (by omega)
      | exact key 0 (d - 1) (by omega) (by omega)
      | exact key 2 d (fun _ => by assumption) (by omega)

def stopB (c : Int) : Bool := c == 44 || c == 125 || c == 93 || blankB c

/-- An answer inside: a stop byte stands there; what follows does not matter; nor that something follows. -/
theorem sv_in : ∀ (l : List Int) (st d i r : Nat), sv l st d i = r → r < i + l.length →
    stopB (l.getD (r - i) 0) = true ∧ sv (l.take (r - i)) st d i = r ∧ ∀ t, sv (l.take (r - i + 1) ++ t) st d i = r
  | [], st, d, i, r => by
    intro h hr
    have := (sv_bd [] st d i).1
    simp at hr
    omega
  | c :: l, st, d, i, r => by
    intro h hr
    simp only [List.length_cons] at hr
    have hb := (sv_bd (c :: l) st d i).1
    by_cases e : r = i
    · subst e
      -- the answer is this very place
      have hst : st = 0 ∧ stopB c = true ∧ (∀ t, sv (c :: t) st d r = r) := by
        have hx := fun (s x : Nat) => (sv_bd l s x (r + 1)).1
        simp only [sv] at h ⊢
        by_cases h0 : st = 0
        · rw [if_pos h0] at h
          refine ⟨h0, ?_⟩
          simp only [if_pos h0]
          by_cases c1 : c = 34
          · rw [if_pos c1] at h; have := hx 1 d; omega
          · rw [if_neg c1] at h
            by_cases c2 : c = 123 ∨ c = 91
            · rw [if_pos c2] at h; have := hx 0 (d + 1); omega
            · rw [if_neg c2] at h
              by_cases c3 : c = 125 ∨ c = 93
              · rw [if_pos c3] at h
                by_cases c4 : d = 0
                · refine ⟨by rcases c3 with c3 | c3 <;> simp [stopB, c3], fun t => ?_⟩
                  rw [if_neg c1, if_neg c2, if_pos c3, if_pos c4]
                · rw [if_neg c4] at h; have := hx 0 (d - 1); omega
              · rw [if_neg c3] at h
                by_cases c4 : d = 0 ∧ (c = 44 ∨ blankB c = true)
                · refine ⟨by rcases c4.2 with c5 | c5 <;> simp [stopB, c5], fun t => ?_⟩
                  rw [if_neg c1, if_neg c2, if_neg c3, if_pos c4]
                · rw [if_neg c4] at h; have := hx 0 d; omega
        · exfalso
          rw [if_neg h0] at h
          have := hx 0 d; have := hx 1 d; have := hx 2 d
          repeat' split at h
          all_goals omega
      obtain ⟨h0, h1, h2⟩ := hst
      refine ⟨by simpa using h1, ?_, fun t => ?_⟩
      · simp [sv, h0]
      · simpa using h2 t
    · -- further on
      obtain ⟨k, hk⟩ : ∃ k, r - i = k + 1 := ⟨r - i - 1, by omega⟩
      have hk' : r - (i + 1) = k := by omega
      rw [hk]
      have key : ∀ st' d', sv l st' d' (i + 1) = r → stopB (l.getD k 0) = true ∧ sv (l.take k) st' d' (i + 1) = r ∧ ∀ t, sv (l.take (k + 1) ++ t) st' d' (i + 1) = r := by
        intro st' d' h'
        have := sv_in l st' d' (i + 1) r h' (by omega)
        rwa [hk'] at this
      simp only [List.getD_cons_succ, List.take_succ_cons, List.cons_append]
      simp only [sv] at h ⊢
      by_cases h0 : st = 0
      · simp only [if_pos h0] at h ⊢
        by_cases c1 : c = 34
        · simp only [if_pos c1] at h ⊢; exact key _ _ h
        · simp only [if_neg c1] at h ⊢
          by_cases c2 : c = 123 ∨ c = 91
          · simp only [if_pos c2] at h ⊢; exact key _ _ h
          · simp only [if_neg c2] at h ⊢
            by_cases c3 : c = 125 ∨ c = 93
            · simp only [if_pos c3] at h ⊢
              by_cases c4 : d = 0
              · simp only [if_pos c4] at h; omega
              · simp only [if_neg c4] at h ⊢; exact key _ _ h
            · simp only [if_neg c3] at h ⊢
              by_cases c4 : d = 0 ∧ (c = 44 ∨ blankB c = true)
              · simp only [if_pos c4] at h; omega
              · simp only [if_neg c4] at h ⊢; exact key _ _ h
      · simp only [if_neg h0] at h ⊢
        by_cases h1 : st = 1
        · simp only [if_pos h1] at h ⊢
          by_cases c1 : c = 92
          · simp only [if_pos c1] at h ⊢; exact key _ _ h
          · simp only [if_neg c1] at h ⊢
            by_cases c2 : c = 34
            · simp only [if_pos c2] at h ⊢; exact key _ _ h
            · simp only [if_neg c2] at h ⊢; exact key _ _ h
        · simp only [if_neg h1] at h ⊢; exact key _ _ h

/-- One step at an index of a list. -/
theorem drop_step (l : List Int) (k : Nat) (h : k < l.length) : l.drop k = l.getD k 0 :: l.drop (k + 1) := by
  rw [List.drop_eq_getElem_cons h]
  simp [List.getD_eq_getElem?_getD, h]

theorem drop_over (l : List Int) (k : Nat) (h : l.length ≤ k) : l.drop k = [] := List.drop_eq_nil_of_le h

/-! ### The steps, in the walk's own forms -/
section
variable (l : List Int) (k : Nat) (d : Nat) (c : Int)

theorem ss_esc (hk : k < l.length) (hc : c = l.getD k 0) (h : (c == 92) = true) : sv (l.drop k) 1 d k = sv (l.drop (k + 2)) 1 d (k + 2) := by
  simp only [beq_iff_eq] at h
  rw [drop_step l k hk, ← hc, h]
  simp only [sv, if_true, Nat.one_ne_zero, if_false]
  by_cases h2 : k + 1 < l.length
  · rw [drop_step l (k + 1) h2]
    simp [sv]
  · rw [drop_over l (k + 1) (by omega), drop_over l (k + 2) (by omega)]
    simp [sv]

theorem ss_quote (hk : k < l.length) (hc : c = l.getD k 0) (h : (c == 34) = true) : sv (l.drop k) 1 d k = sv (l.drop (k + 1)) 0 d (k + 1) := by
  simp only [beq_iff_eq] at h
  rw [drop_step l k hk, ← hc]
  simp [sv, h]

theorem ss_else (hk : k < l.length) (hc : c = l.getD k 0) (h1 : (c == 92) = false) (h : (c == 34) = false) : sv (l.drop k) 1 d k = sv (l.drop (k + 1)) 1 d (k + 1) := by
  simp only [beq_eq_false_iff_ne, ne_eq] at h h1
  rw [drop_step l k hk, ← hc]
  simp [sv, h, h1]

theorem sv_end (hk : l.length ≤ k) : sv (l.drop k) 0 d k = k := by
  rw [drop_over l k hk]; simp [sv]
theorem ss_end (hk : l.length ≤ k) : sv (l.drop k) 1 d k = sv (l.drop k) 0 d k := by
  rw [drop_over l k hk]; simp [sv]

theorem sv_quote (hk : k < l.length) (hc : c = l.getD k 0) (h : (c == 34) = true) : sv (l.drop k) 0 d k = sv (l.drop (k + 1)) 1 d (k + 1) := by
  simp only [beq_iff_eq] at h
  rw [drop_step l k hk, ← hc]
  simp [sv, h]

theorem sv_open (hk : k < l.length) (hc : c = l.getD k 0) (h : (c == 34) = false) (h2 : (c == 123) = true ∨ (c == 91) = true) : sv (l.drop k) 0 d k = sv (l.drop (k + 1)) 0 (d + 1) (k + 1) := by
  simp only [beq_iff_eq, beq_eq_false_iff_ne, ne_eq] at h h2
  rw [drop_step l k hk, ← hc]
  simp [sv, h, h2]

theorem sv_close0 (hk : k < l.length) (hc : c = l.getD k 0) (h : (c == 34) = false) (h1 : (c == 123) = false) (h1' : (c == 91) = false) (h2 : (c == 125) = true ∨ (c == 93) = true) (hd : d = 0) : sv (l.drop k) 0 d k = k := by
  simp only [beq_iff_eq, beq_eq_false_iff_ne, ne_eq] at h h1 h1' h2
  rw [drop_step l k hk, ← hc]
  simp [sv, h, h1, h1', h2, hd]

theorem sv_close (hk : k < l.length) (hc : c = l.getD k 0) (h : (c == 34) = false) (h1 : (c == 123) = false) (h1' : (c == 91) = false) (h2 : (c == 125) = true ∨ (c == 93) = true) (hd : d ≠ 0) : sv (l.drop k) 0 d k = sv (l.drop (k + 1)) 0 (d - 1) (k + 1) := by
  simp only [beq_iff_eq, beq_eq_false_iff_ne, ne_eq] at h h1 h1' h2
  rw [drop_step l k hk, ← hc]
  simp [sv, h, h1, h1', h2, hd]

theorem sv_stop (hk : k < l.length) (hc : c = l.getD k 0) (h : (c == 34) = false) (h1 : (c == 123) = false) (h1' : (c == 91) = false) (h2 : (c == 125) = false) (h2' : (c == 93) = false) (hd : d = 0) (h3 : (c == 44) = true ∨ blankB c = true) : sv (l.drop k) 0 d k = k := by
  simp only [beq_iff_eq, beq_eq_false_iff_ne, ne_eq] at h h1 h1' h2 h2' h3
  rw [drop_step l k hk, ← hc]
  simp [sv, h, h1, h1', h2, h2', hd, h3]

theorem sv_pass (hk : k < l.length) (hc : c = l.getD k 0) (h : (c == 34) = false) (h1 : (c == 123) = false) (h1' : (c == 91) = false) (h2 : (c == 125) = false) (h2' : (c == 93) = false) (h3 : d ≠ 0 ∨ ((c == 44) = false ∧ blankB c = false)) : sv (l.drop k) 0 d k = sv (l.drop (k + 1)) 0 d (k + 1) := by
  simp only [beq_eq_false_iff_ne, ne_eq] at h h1 h1' h2 h2' h3
  rw [drop_step l k hk, ← hc]
  rcases h3 with h3 | h3 <;> simp [sv, h, h1, h1', h2, h2', h3]
end

end Go.Proofs.Qxb6601079a
