/-
  The plain law of the seat: no Go in sight. 'gbSize n g': what gb18030Size answers for the n bytes g 0, g 1, .. ; 'gbModel n g': what the grammar's model answers.
-/
namespace Go.Proofs.Qxb6603264a

def leadB (c : Int) : Bool := decide (129 ≤ c ∧ c ≤ 254)
def digB (c : Int) : Bool := decide (48 ≤ c ∧ c ≤ 57)
def twoB (c : Int) : Bool := decide (64 ≤ c ∧ c ≤ 254 ∧ c ≠ 127)

/-- The ways through gb18030Size, each with its answer. -/
def gbSize (n : Nat) (g : Nat → Int) : Int :=
  if g 0 < 128 then 1
  else if leadB (g 0) = false then -1
  else if n < 2 then 0
  else if twoB (g 1) = true then 2
  else if digB (g 1) = false then -1
  else if n < 4 then 0
  else if leadB (g 2) = true ∧ digB (g 3) = true then 4 else -1

theorem gbSize_congr {n : Nat} {f g : Nat → Int} (hn : 0 < n) (h : ∀ i, i < n → f i = g i) : gbSize n f = gbSize n g := by
  unfold gbSize
  rw [h 0 hn]
  by_cases h2 : n < 2
  · simp [h2]
  · rw [h 1 (by omega)]
    by_cases h4 : n < 4
    · simp [h4]
    · rw [h 2 (by omega), h 3 (by omega)]

theorem gbSize_range (n : Nat) (g : Nat → Int) : gbSize n g = -1 ∨ gbSize n g = 0 ∨ gbSize n g = 1 ∨ gbSize n g = 2 ∨ gbSize n g = 4 := by
  unfold gbSize
  repeat' split
  all_goals omega

/-- A positive answer fits. -/
theorem gbSize_fits (n : Nat) (g : Nat → Int) (hn : 0 < n) : gbSize n g ≤ n := by
  unfold gbSize
  repeat' split
  all_goals omega

theorem gbSize_zero (n : Nat) (g : Nat → Int) (h : gbSize n g = 0) : n < 4 := by
  unfold gbSize at h
  by_cases h4 : n < 4
  · exact h4
  · exfalso
    rw [if_neg (show ¬ n < 2 by omega), if_neg h4] at h
    revert h
    repeat' split
    all_goals omega

/-- More bytes: a decided answer stands. -/
theorem gbSize_more (n m : Nat) (g : Nat → Int) (hnm : n ≤ m) (h : gbSize n g ≠ 0) : gbSize m g = gbSize n g := by
  unfold gbSize at h ⊢
  revert h
  by_cases h1 : g 0 < 128
  · simp [h1]
  · by_cases h2 : leadB (g 0) = false
    · simp [h1, h2]
    · by_cases h3 : n < 2
      · simp [h1, h2, h3]
      · have h3' : ¬ m < 2 := by omega
        by_cases h4 : twoB (g 1) = true
        · simp [h1, h2, h3, h3', h4]
        · by_cases h5 : digB (g 1) = false
          · simp [h1, h2, h3, h3', h4, h5]
          · by_cases h6 : n < 4
            · simp [h1, h2, h3, h4, h5, h6]
            · have h6' : ¬ m < 4 := by omega
              simp [h1, h2, h3, h3', h4, h5, h6, h6']

/-- More bytes after a 0: -1, 0, or a length beyond. -/
theorem gbSize_more0 (n m : Nat) (g : Nat → Int) (hn : 0 < n) (hnm : n ≤ m) (h : gbSize n g = 0) : gbSize m g = 0 ∨ gbSize m g = -1 ∨ n < gbSize m g := by
  have hz := gbSize_zero n g h
  unfold gbSize at h ⊢
  revert h
  by_cases h1 : g 0 < 128
  · simp [h1]
  · by_cases h2 : leadB (g 0) = false
    · simp [h1, h2]
    · by_cases h3 : n < 2
      · intro _
        rw [if_neg h1, if_neg h2]
        repeat' split
        all_goals omega
      · have h3' : ¬ m < 2 := by omega
        by_cases h4 : twoB (g 1) = true
        · simp [h1, h2, h3, h4]
        · by_cases h5 : digB (g 1) = false
          · simp [h1, h2, h3, h4, h5]
          · intro _
            rw [if_neg h1, if_neg h2, if_neg h3', if_neg h4, if_neg h5]
            repeat' split
            all_goals omega

/-- The first r bytes, r the positive answer, answer r again. -/
theorem gbSize_head (n r : Nat) (g : Nat → Int) (hr : 0 < r) (h : gbSize n g = r) : gbSize r g = r := by
  have hc := gbSize_range n g
  unfold gbSize at h ⊢
  revert h
  by_cases h1 : g 0 < 128
  · simp [h1]
  · by_cases h2 : leadB (g 0) = false
    · simp [h1, h2]
    · by_cases h3 : n < 2
      · simp [h1, h2, h3]; omega
      · by_cases h4 : twoB (g 1) = true
        · rw [if_neg h1, if_neg h2, if_neg h3, if_pos h4]
          intro h
          have : r = 2 := by omega
          subst this
          rw [if_neg h1, if_neg h2, if_neg (by omega), if_pos h4]
          rfl
        · by_cases h5 : digB (g 1) = false
          · simp [h1, h2, h3, h4, h5]
          · by_cases h6 : n < 4
            · simp [h1, h2, h3, h4, h5, h6]; omega
            · rw [if_neg h1, if_neg h2, if_neg h3, if_neg h4, if_neg h5, if_neg h6]
              intro h
              by_cases h7 : leadB (g 2) = true ∧ digB (g 3) = true
              · rw [if_pos h7] at h
                have : r = 4 := by omega
                subst this
                rw [if_neg h1, if_neg h2, if_neg (by omega), if_neg h4, if_neg h5, if_neg (by omega), if_pos h7]
                rfl
              · rw [if_neg h7] at h
                omega

/-! ### The grammar's model -/

/-- b1GbClass at the forms 1, 2, 4. -/
def cls (form pos : Nat) (c : Int) : Bool :=
  if form = 1 then decide (c ≤ 127)
  else if pos = 0 ∨ (form = 4 ∧ pos = 2) then leadB c
  else if form = 2 then twoB c
  else digB c

/-- b1GbMatches. -/
def mat (form : Nat) (g : Nat → Int) : Nat → Bool
  | 0 => true
  | k + 1 => mat form g k && cls form k (g k)

/-- b1GbModel. -/
def gbModel (n : Nat) (g : Nat → Int) : Int :=
  if mat 1 g 1 = true then 1
  else if 2 ≤ n ∧ mat 2 g 2 = true then 2
  else if 4 ≤ n ∧ mat 4 g 4 = true then 4
  else if n < 2 ∧ mat 2 g (min n 2) = true then 0
  else if n < 4 ∧ mat 4 g (min n 2) = true then 0
  else -1

theorem model_eq (n : Nat) (g : Nat → Int) (hn : 0 < n) : gbModel n g = gbSize n g := by
  unfold gbModel gbSize
  have m1 : mat 1 g 1 = decide (g 0 < 128) := by
    simp [mat, cls]; omega
  have m2 : mat 2 g 2 = (leadB (g 0) && twoB (g 1)) := by simp [mat, cls]
  have m21 : mat 2 g 1 = leadB (g 0) := by simp [mat, cls]
  have m42 : mat 4 g 2 = (leadB (g 0) && digB (g 1)) := by simp [mat, cls]
  have m41 : mat 4 g 1 = leadB (g 0) := by simp [mat, cls]
  have m4 : mat 4 g 4 = (leadB (g 0) && digB (g 1) && leadB (g 2) && digB (g 3)) := by simp [mat, cls]
  rw [m1, m2, m4]
  have ex : ∀ c, leadB c = true → ¬ c < 128 := by intro c h; simp [leadB] at h; omega
  have dx : ∀ c, digB c = true → twoB c = false := by intro c h; simp [digB, twoB] at *; omega
  by_cases h1 : g 0 < 128
  · simp [h1]
  · cases h2 : leadB (g 0)
    · by_cases k2 : n < 2
      · have e : min n 2 = 1 := by omega
        simp [h1, e, m21, m41, h2]
      · have e : min n 2 = 2 := by omega
        simp [h1, e, m2, m42, h2]
    · by_cases k2 : n < 2
      · have e : min n 2 = 1 := by omega
        have k2' : ¬ 2 ≤ n := by omega
        have k4' : ¬ 4 ≤ n := by omega
        simp [h1, e, m21, h2, k2, k2', k4']
      · have e : min n 2 = 2 := by omega
        have k2' : 2 ≤ n := by omega
        rw [e, m42]
        cases h4 : twoB (g 1)
        · cases h5 : digB (g 1)
          · simp [h1, h2, k2]
          · by_cases k4 : n < 4
            · have k4' : ¬ 4 ≤ n := by omega
              simp [h1, h2, k2, k4, k4']
            · have k4' : 4 ≤ n := by omega
              simp [h1, h2, k2, k4, k4']
        · simp [h1, k2, k2']
end Go.Proofs.Qxb6603264a
