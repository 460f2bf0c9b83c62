/-
  The plain law of reading backward: the reader's state after p bytes, and what it reports at each byte. No Go text in sight.
-/
import Derived.Test.Qxb6603303aStep
namespace Go.Proofs.Qxb6603303a
open Go.RowKit

/-- How many backslashes stand right before p. -/
def rb (g : Nat → Int) : Nat → Nat
  | 0 => 0
  | p + 1 => if g p = 92 then rb g p + 1 else 0

theorem rb_le (g : Nat → Int) (p : Nat) : rb g p ≤ p := by
  induction p with
  | zero => simp [rb]
  | succ p ih => rw [rb]; split <;> omega
theorem rb_zero (g : Nat → Int) (p : Nat) (h : g p ≠ 92) : rb g (p + 1) = 0 := by simp [rb, h]
theorem rb_succ (g : Nat → Int) (p : Nat) (h : g p = 92) : rb g (p + 1) = rb g p + 1 := by simp [rb, h]

/-- The state after one byte. -/
def nxt (run u : Nat) (b : Int) : Nat × Nat :=
  if b = 92 then (if u = 0 then (run + 1, 0) else (1, 0))
  else if b = 34 then (0, 0)
  else if 0 < run ∧ b = tailC u then (if u < 4 then (run, u + 1) else (0, 0))
  else (0, 0)
/-- The state after the first p bytes. -/
def st (g : Nat → Int) : Nat → Nat × Nat
  | 0 => (0, 0)
  | p + 1 => nxt (st g p).1 (st g p).2 (g p)

theorem tailC_vals : tailC 0 = 117 ∧ tailC 1 = 48 ∧ tailC 2 = 48 ∧ tailC 3 = 50 ∧ tailC 4 = 50 := by decide
theorem tailC_ne (k : Nat) : tailC k ≠ 92 ∧ tailC k ≠ 34 := by
  unfold tailC; repeat' split
  all_goals omega
theorem tailC_pos (k : Nat) (h : 0 < k) : tailC k ≠ 117 := by
  unfold tailC; repeat' split
  all_goals omega

/-- Backslashes end at q, and the first u bytes of u0022 follow them. -/
def Up (g : Nat → Int) (q u : Nat) : Prop := 0 < u ∧ u ≤ 4 ∧ 0 < rb g q ∧ ∀ k, k < u → g (q + k) = tailC k

theorem Up.uniq {g : Nat → Int} {q u q' u' : Nat} (h : Up g q u) (h' : Up g q' u') (e : q + u = q' + u') : q = q' := by
  obtain ⟨a1, a2, _, a4⟩ := h
  obtain ⟨b1, b2, _, b4⟩ := h'
  have g1 := a4 0 a1
  have g2 := b4 0 b1
  rw [Nat.add_zero] at g1 g2
  have t0 := tailC_vals.1
  rcases Nat.lt_trichotomy q q' with hlt | heq | hgt
  · have := a4 (q' - q) (by omega)
    rw [show q + (q' - q) = q' by omega, g2] at this
    exact absurd (this.symm.trans t0) (tailC_pos _ (by omega))
  · exact heq
  · have := b4 (q - q') (by omega)
    rw [show q' + (q - q') = q by omega, g1] at this
    exact absurd (this.symm.trans t0) (tailC_pos _ (by omega))

theorem Up.last {g : Nat → Int} {q u p : Nat} (h : Up g q u) (e : q + u = p + 1) : g p = tailC (u - 1) := by
  obtain ⟨a1, _, _, a4⟩ := h
  have := a4 (u - 1) (by omega)
  rwa [show q + (u - 1) = p by omega] at this

theorem Up.rb_zero {g : Nat → Int} {q u p : Nat} (h : Up g q u) (e : q + u = p) : rb g p = 0 := by
  obtain ⟨p', rfl⟩ : ∃ p', p = p' + 1 := ⟨p - 1, by have := h.1; omega⟩
  exact Qxb6603303a.rb_zero g p' (by rw [h.last e]; exact (tailC_ne _).1)

def Inv (g : Nat → Int) (p run u : Nat) : Prop :=
  (∃ q, q + u = p ∧ Up g q u ∧ run = rb g q) ∨ (u = 0 ∧ run = rb g p ∧ ∀ q u', q + u' = p → ¬ Up g q u')

theorem Inv.u_le {g : Nat → Int} {p run u : Nat} (h : Inv g p run u) : u ≤ 4 := by
  rcases h with ⟨q, _, h, _⟩ | ⟨h, _⟩
  · exact h.2.1
  · omega
theorem Inv.run_pos {g : Nat → Int} {p run u : Nat} (h : Inv g p run u) (hu : 0 < u) : 0 < run := by
  rcases h with ⟨q, _, h, e⟩ | ⟨h, _⟩
  · rw [e]; exact h.2.2.1
  · omega
theorem Inv.run_le {g : Nat → Int} {p run u : Nat} (h : Inv g p run u) : run ≤ p := by
  rcases h with ⟨q, e, h, rfl⟩ | ⟨h, rfl, _⟩
  · have := rb_le g q; omega
  · exact rb_le g p
/-- What stands right before p. -/
theorem Inv.rb_of {g : Nat → Int} {p run u : Nat} (h : Inv g p run u) : rb g p = if u = 0 then run else 0 := by
  rcases h with ⟨q, e, h, _⟩ | ⟨h, e, _⟩
  · rw [if_neg (by have := h.1; omega)]; exact h.rb_zero e
  · rw [if_pos h, e]

/-- A byte that is no byte of u0022 ends no part of it. -/
theorem no_up {g : Nat → Int} {p : Nat} (h : ∀ k, k < 4 → g p ≠ tailC k) : ∀ q u', q + u' = p + 1 → ¬ Up g q u' := by
  intro q u' e hu
  exact h (u' - 1) (by have := hu.1; have := hu.2.1; omega) (hu.last e)

theorem Up.less {g : Nat → Int} {q u : Nat} (h : Up g q (u + 1)) (hu : 0 < u) : Up g q u :=
  ⟨hu, by have := h.2.1; omega, h.2.2.1, fun k hk => h.2.2.2 k (by omega)⟩

theorem Inv.next {g : Nat → Int} {p run u : Nat} (h : Inv g p run u) : Inv g (p + 1) (nxt run u (g p)).1 (nxt run u (g p)).2 := by
  unfold nxt
  by_cases h1 : g p = 92
  · rw [if_pos h1]
    have hr : rb g (p + 1) = rb g p + 1 := rb_succ g p h1
    have hn := no_up (g := g) (p := p) (fun k _ => by rw [h1]; exact (tailC_ne k).1.symm)
    rw [h.rb_of] at hr
    by_cases hu : u = 0
    · rw [if_pos hu]; rw [if_pos hu] at hr
      exact Or.inr ⟨rfl, hr.symm, hn⟩
    · rw [if_neg hu]; rw [if_neg hu] at hr
      exact Or.inr ⟨rfl, by rw [hr], hn⟩
  rw [if_neg h1]
  have hr : rb g (p + 1) = 0 := rb_zero g p h1
  by_cases h2 : g p = 34
  · rw [if_pos h2]
    exact Or.inr ⟨rfl, hr.symm, no_up (fun k _ => by rw [h2]; exact (tailC_ne k).2.symm)⟩
  rw [if_neg h2]
  by_cases h3 : 0 < run ∧ g p = tailC u
  · rw [if_pos h3]
    obtain ⟨h3, h4⟩ := h3
    by_cases h5 : u < 4
    · rw [if_pos h5]
      rcases h with ⟨q, e, hu, er⟩ | ⟨e, er, hn⟩
      · refine Or.inl ⟨q, by show q + (u + 1) = _; omega, ⟨by show 0 < u + 1; omega, by show u + 1 ≤ 4; omega, hu.2.2.1, fun k hk => ?_⟩, er⟩
        have hk' : k < u + 1 := hk
        by_cases e' : k = u
        · rw [e', e]; exact h4
        · exact hu.2.2.2 k (by omega)
      · subst e
        refine Or.inl ⟨p, rfl, ⟨Nat.one_pos, by show 1 ≤ 4; omega, by rw [← er]; exact h3, fun k hk => ?_⟩, er⟩
        have hk' : k < 1 := hk
        rw [show k = 0 by omega]; exact h4
    · rw [if_neg h5]
      rcases h with ⟨q, e, hu, er⟩ | ⟨e, _⟩
      · have hu4 : u = 4 := by have := hu.2.1; omega
        subst hu4
        refine Or.inr ⟨rfl, hr.symm, fun q' u' e' hu' => ?_⟩
        have b1 := hu'.1
        have b2 := hu'.2.1
        have g0 := hu'.2.2.2 0 b1
        rw [Nat.add_zero, tailC_vals.1] at g0
        by_cases hq : q' = p
        · rw [hq, h4] at g0
          exact tailC_pos 4 (by omega) g0
        · have := hu.2.2.2 (q' - q) (by omega)
          rw [show q + (q' - q) = q' by omega, g0] at this
          exact tailC_pos _ (by omega) this.symm
      · omega
  · rw [if_neg h3]
    refine Or.inr ⟨rfl, hr.symm, fun q' u' e' hu' => ?_⟩
    have b1 := hu'.1
    have hl := hu'.last e'
    by_cases hu1 : u' = 1
    · subst hu1
      have hq : q' = p := by omega
      subst hq
      have hp := hu'.2.2.1
      rcases h with ⟨q, e, hu, er⟩ | ⟨e, er, hn⟩
      · rw [hu.rb_zero e] at hp; omega
      · subst e
        exact h3 ⟨by omega, hl⟩
    · obtain ⟨v, rfl⟩ : ∃ v, u' = v + 1 := ⟨u' - 1, by omega⟩
      have hless := hu'.less (by omega)
      rcases h with ⟨q, e, hu, er⟩ | ⟨e, er, hn⟩
      · have hq := hless.uniq hu (by omega)
        subst hq
        have : v = u := by omega
        subst this
        exact h3 ⟨by rw [er]; exact hu.2.2.1, hl⟩
      · exact hn q' v (by omega) hless

theorem inv_st (g : Nat → Int) (p : Nat) : Inv g p (st g p).1 (st g p).2 := by
  induction p with
  | zero =>
    refine Or.inr ⟨rfl, rfl, fun q u' e h => ?_⟩
    have h1 := h.1
    have h2 := h.2.2.1
    have hz : q = 0 := by omega
    subst hz
    simp [rb] at h2
  | succ p ih => exact ih.next

/-- u0022 ends at p. -/
def TailAt (g : Nat → Int) (p : Nat) : Prop := 4 ≤ p ∧ ∀ k, k < 5 → g (p - 4 + k) = tailC k

theorem TailAt.up {g : Nat → Int} {p : Nat} (h : TailAt g p) (hr : 0 < rb g (p - 4)) : Up g (p - 4) 4 ∧ g p = tailC 4 := by
  refine ⟨⟨by omega, by omega, hr, fun k hk => h.2 k (by omega)⟩, ?_⟩
  have := h.2 4 (by omega)
  rwa [show p - 4 + 4 = p by have := h.1; omega] at this

/-- The two answers at p, read backward. -/
def endP (g : Nat → Int) (p : Nat) (A : Bool) : Int × Int :=
  if g p = 34 then (ownE (rb g p), wrap64 (ownE (rb g p) + 1))
  else if A = true ∧ 0 < rb g (p - 4) then (ownT (rb g (p - 4)), wrap64 (wrap64 (bits .and .i64 (rb g (p - 4)) (ownT (rb g (p - 4))) + 6) - 1))
  else (-1, 0)

theorem step_end (g : Nat → Int) (p : Nat) (A : Bool) (hp : p ≤ 2097152) (hA : A = true ↔ TailAt g p) :
    (stepP (st g p).1 (st g p).2 (g p)).a = (endP g p A).1 ∧ (stepP (st g p).1 (st g p).2 (g p)).b = (endP g p A).2 ∧
    (stepP (st g p).1 (st g p).2 (g p)).c = ((st g (p + 1)).1 : Int) ∧ (stepP (st g p).1 (st g p).2 (g p)).d = ((st g (p + 1)).2 : Int) := by
  have h := inv_st g p
  rw [show st g (p + 1) = nxt (st g p).1 (st g p).2 (g p) from rfl]
  generalize (st g p).1 = run at *
  generalize (st g p).2 = u at *
  have hle := h.run_le
  unfold stepP endP nxt
  by_cases h1 : g p = 92
  · have hnA : ¬ (A = true ∧ 0 < rb g (p - 4)) := fun ⟨a, r⟩ => by
      have := ((hA.1 a).up r).2
      rw [h1] at this
      exact (tailC_ne 4).1 this.symm
    rw [if_pos h1, if_neg (show ¬ g p = 34 by omega), if_neg hnA, if_pos h1]
    by_cases hu : u = 0
    · simp only [hu, if_true]
      refine ⟨trivial, trivial, ?_, rfl⟩
      unfold wrap64; omega
    · simp only [hu, if_false]
      exact ⟨trivial, trivial, rfl, rfl⟩
  rw [if_neg h1, if_neg h1]
  by_cases h2 : g p = 34
  · rw [if_pos h2, if_pos h2, if_pos h2, h.rb_of]
    by_cases hu : u = 0
    · rw [if_pos hu, if_pos hu]
      obtain ⟨m, t, ht⟩ := ones_form run
      refine ⟨rfl, ?_, rfl, rfl⟩
      show wrap64 (bits .and .i64 (run : Int) (ownE run) + 1) = wrap64 (ownE run + 1)
      rw [size_dq run m t (by omega) ht]
    · rw [if_neg hu, if_neg hu]
      refine ⟨rfl, ?_, rfl, rfl⟩
      show wrap64 (bits .and .i64 0 (ownE 0) + 1) = wrap64 (ownE 0 + 1)
      have e0 : bits .and .i64 0 (ownE 0) = ownE 0 := size_dq 0 0 0 (by decide) rfl
      rw [e0]
  rw [if_neg h2, if_neg h2, if_neg h2]
  by_cases h3 : 0 < run ∧ g p = tailC u
  · have h3' : 0 < (run : Int) ∧ g p = tailC u := ⟨by omega, h3.2⟩
    rw [if_pos h3, if_pos h3']
    by_cases h5 : u < 4
    · have hnA : ¬ (A = true ∧ 0 < rb g (p - 4)) := fun ⟨a, r⟩ => by
        have hup := ((hA.1 a).up r).1
        have h4 := (hA.1 a).1
        rcases h with ⟨q, e, hu, er⟩ | ⟨e, er, hn⟩
        · have := hup.uniq hu (by omega)
          omega
        · exact hn _ 4 (by omega) hup
      rw [if_pos h5, if_pos h5, if_neg hnA]
      exact ⟨rfl, rfl, rfl, rfl⟩
    · rw [if_neg h5, if_neg h5]
      rcases h with ⟨q, e, hu, er⟩ | ⟨e, er, hn⟩
      · have hu4 : u = 4 := by have := hu.2.1; omega
        subst hu4
        have hq : p - 4 = q := by omega
        have hT : TailAt g p := by
          refine ⟨by omega, fun k hk => ?_⟩
          rw [hq]
          by_cases hk4 : k = 4
          · rw [hk4, e]; exact h3.2
          · exact hu.2.2.2 k (by omega)
        have hpos : A = true ∧ 0 < rb g (p - 4) := ⟨hA.2 hT, by rw [hq]; exact hu.2.2.1⟩
        rw [if_pos hpos, hq, ← er]
        exact ⟨rfl, rfl, rfl, rfl⟩
      · omega
  · have h3' : ¬ (0 < (run : Int) ∧ g p = tailC u) := fun ⟨a, b⟩ => h3 ⟨by omega, b⟩
    have hnA : ¬ (A = true ∧ 0 < rb g (p - 4)) := fun ⟨a, r⟩ => by
      obtain ⟨hup, hg⟩ := (hA.1 a).up r
      have h4 := (hA.1 a).1
      rcases h with ⟨q, e, hu, er⟩ | ⟨e, er, hn⟩
      · have hq := hup.uniq hu (by omega)
        have : u = 4 := by omega
        subst this
        exact h3 ⟨by rw [er]; exact hu.2.2.1, hg⟩
      · exact hn _ 4 (by omega) hup
    rw [if_neg h3, if_neg h3', if_neg hnA]
    exact ⟨rfl, rfl, rfl, rfl⟩
end Go.Proofs.Qxb6603303a
