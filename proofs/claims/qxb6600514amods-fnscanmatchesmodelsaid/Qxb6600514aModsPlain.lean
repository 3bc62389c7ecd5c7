/-
  The plain law of 'FnScanMatchesModel': what scan computes, as a run of a small machine over the bytes Z 0, Z 1, ..; no Go in sight.
-/
namespace Go.Proofs.Qxb6600514aMods.Sc

/-- The state of scan: depth, keys, inString, escaped. -/
structure St where
  d : Int
  ks : Int
  ins : Bool
  esc : Bool

/-- One byte: the state behind it, or the limit that it trips. -/
def step (D K c : Int) (s : St) : St ⊕ Int :=
  if s.esc = true then .inl ⟨s.d, s.ks, s.ins, false⟩
  else if s.ins = true ∧ c = 92 then .inl ⟨s.d, s.ks, s.ins, true⟩
  else if c = 34 then .inl ⟨s.d, s.ks, !s.ins, s.esc⟩
  else if s.ins = true then .inl s
  else if c = 91 ∨ c = 123 then (if 0 < D ∧ D < s.d + 1 then .inr 5 else .inl ⟨s.d + 1, s.ks, s.ins, s.esc⟩)
  else if c = 93 ∨ c = 125 then .inl ⟨if 0 < s.d - 1 then s.d - 1 else 0, s.ks, s.ins, s.esc⟩
  else if c = 58 then (if 0 < K ∧ K < s.ks + 1 then .inr 6 else .inl ⟨s.d, s.ks + 1, s.ins, s.esc⟩)
  else .inl s

/-- Behind n bytes. -/
def run (Z : Nat → Int) (D K : Int) : Nat → St ⊕ Int
  | 0 => .inl ⟨0, 0, false, false⟩
  | n + 1 => match run Z D K n with
    | .inl s => step D K (Z n) s
    | .inr l => .inr l

/-- The backslashes right before index n. -/
def backs (Z : Nat → Int) : Nat → Nat
  | 0 => 0
  | n + 1 => if Z n = 92 then backs Z n + 1 else 0

theorem run_step {Z : Nat → Int} {D K : Int} {k : Nat} {s : St} (h : run Z D K k = .inl s) : run Z D K (k + 1) = step D K (Z k) s := by
  simp [run, h]
theorem run_trip {Z : Nat → Int} {D K : Int} {k : Nat} {l : Int} (h : run Z D K k = .inr l) : ∀ m, k ≤ m → run Z D K m = .inr l := by
  intro m
  induction m with
  | zero => intro hm; obtain rfl : k = 0 := by omega
            exact h
  | succ m ih =>
    intro hm
    by_cases e : k = m + 1
    · rw [← e]; exact h
    · simp [run, ih (by omega)]

theorem backs_le (Z : Nat → Int) (n : Nat) : backs Z n ≤ n := by
  induction n with
  | zero => simp [backs]
  | succ n ih => unfold backs; split <;> omega

/-- What each state meets: the counts' bounds; 'escaped' is 'in a string, behind an odd number of backslashes'. -/
theorem run_inv (Z : Nat → Int) (D K : Int) (k : Nat) : ∀ s, run Z D K k = .inl s → (0 ≤ s.d ∧ s.d ≤ k) ∧ (0 ≤ s.ks ∧ s.ks ≤ k) ∧ s.esc = (s.ins && decide (backs Z k % 2 = 1)) := by
  induction k with
  | zero => intro s h; simp [run] at h; subst h; simp [backs]
  | succ k ih =>
    intro s h
    cases hr : run Z D K k with
    | inr l => simp [run, hr] at h
    | inl s0 =>
      rw [run_step hr] at h
      obtain ⟨⟨h1, h2⟩, ⟨h3, h4⟩, h5⟩ := ih s0 hr
      obtain ⟨d, ks, ins, esc⟩ := s0
      simp only at h1 h2 h3 h4 h5
      unfold step at h
      simp only at h
      by_cases e1 : esc = true
      · rw [if_pos e1] at h
        injection h with h
        subst h e1
        simp only
        have h6 : ins = true ∧ backs Z k % 2 = 1 := by simpa using h5
        refine ⟨⟨h1, by omega⟩, ⟨h3, by omega⟩, ?_⟩
        rw [h6.1]
        unfold backs
        by_cases e : Z k = 92
        · rw [if_pos e]; simp; omega
        · rw [if_neg e]; simp
      · have e1' : esc = false := by simpa using e1
        subst e1'
        rw [if_neg e1] at h
        by_cases e2 : ins = true ∧ Z k = 92
        · rw [if_pos e2] at h
          injection h with h
          subst h
          simp only
          obtain ⟨rfl, e2⟩ := e2
          refine ⟨⟨h1, by omega⟩, ⟨h3, by omega⟩, ?_⟩
          unfold backs
          rw [if_pos e2]
          simp at h5
          simp
          omega
        · rw [if_neg e2] at h
          by_cases e3 : Z k = 34
          · rw [if_pos e3] at h
            injection h with h
            subst h
            simp only
            refine ⟨⟨h1, by omega⟩, ⟨h3, by omega⟩, ?_⟩
            unfold backs
            rw [if_neg (by omega)]
            simp
          · rw [if_neg e3] at h
            by_cases e4 : ins = true
            · rw [if_pos e4] at h
              injection h with h
              subst h e4
              simp only
              refine ⟨⟨h1, by omega⟩, ⟨h3, by omega⟩, ?_⟩
              unfold backs
              rw [if_neg (fun e => e2 ⟨rfl, e⟩)]
              simp
            · have e4' : ins = false := by simpa using e4
              subst e4'
              rw [if_neg e4] at h
              by_cases e5 : Z k = 91 ∨ Z k = 123
              · rw [if_pos e5] at h
                by_cases e6 : 0 < D ∧ D < d + 1
                · rw [if_pos e6] at h; simp at h
                · rw [if_neg e6] at h
                  injection h with h
                  subst h
                  exact ⟨⟨by simp only; omega, by simp only; omega⟩, ⟨h3, by simp only; omega⟩, by simp⟩
              · rw [if_neg e5] at h
                by_cases e6 : Z k = 93 ∨ Z k = 125
                · rw [if_pos e6] at h
                  injection h with h
                  subst h
                  refine ⟨?_, ⟨h3, by simp only; omega⟩, by simp⟩
                  simp only
                  split <;> omega
                · rw [if_neg e6] at h
                  by_cases e7 : Z k = 58
                  · rw [if_pos e7] at h
                    by_cases e8 : 0 < K ∧ K < ks + 1
                    · rw [if_pos e8] at h; simp at h
                    · rw [if_neg e8] at h
                      injection h with h
                      subst h
                      exact ⟨⟨h1, by simp only; omega⟩, ⟨by simp only; omega, by simp only; omega⟩, by simp⟩
                  · rw [if_neg e7] at h
                    injection h with h
                    subst h
                    exact ⟨⟨h1, by simp only; omega⟩, ⟨h3, by simp only; omega⟩, by simp⟩
end Go.Proofs.Qxb6600514aMods.Sc
