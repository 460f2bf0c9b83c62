/-
  One step of the reader, whole: 'stepP' is what ZZQuoteReaderNext (16) answers, and what zzSpecReaderStep (17) answers.
-/
import Derived.Test.Qxb6603303aReader
import Derived.Test.Qxb6603303aSpecStep
namespace Go.Proofs.Qxb6603303a
open Go.RowKit
set_option linter.unusedVariables false

/-- The bytes of u0022. -/
def tailC (u : Nat) : Int := if u = 0 then 117 else if u = 1 then 48 else if u = 2 then 48 else 50

structure Four where
  a : Int
  b : Int
  c : Int
  d : Int

def Four.end_ (x : Four) : Ending := .returned (.tuple #[.int .i64 x.a, .int .i64 x.b, .int .i64 x.c, .int .i64 x.d])

def stepP (run : Int) (u : Nat) (b : Int) : Four :=
  if b = 92 then ⟨-1, 0, if u = 0 then wrap64 (run + 1) else 1, 0⟩
  else if b = 34 then
    (if u = 0 then ⟨ownE run, wrap64 (bits .and .i64 run (ownE run) + 1), 0, 0⟩ else ⟨ownE 0, wrap64 (bits .and .i64 0 (ownE 0) + 1), 0, 0⟩)
  else if 0 < run ∧ b = tailC u then
    (if u < 4 then ⟨-1, 0, run, u + 1⟩ else ⟨ownT run, wrap64 (wrap64 (bits .and .i64 run (ownT run) + 6) - 1), 0, 0⟩)
  else ⟨-1, 0, 0, 0⟩

/-- The ways through one step. -/
theorem step_ways (run : Int) (u : Nat) (b : Int) (hu : u ≤ 4) (h0 : 0 ≤ run) (h1 : 0 < u → 0 < run) :
    (b = 92) ∨ (b = 34) ∨ (0 < run ∧ b = tailC u ∧ b ≠ 92 ∧ b ≠ 34) ∨ (¬ 0 < run ∧ u = 0 ∧ b ≠ 92 ∧ b ≠ 34) ∨ (0 < run ∧ b ≠ tailC u ∧ b ≠ 92 ∧ b ≠ 34) := by
  by_cases a1 : b = 92
  · exact Or.inl a1
  by_cases a2 : b = 34
  · exact Or.inr (Or.inl a2)
  by_cases a3 : 0 < run
  · by_cases a4 : b = tailC u
    · exact Or.inr (Or.inr (Or.inl ⟨a3, a4, a1, a2⟩))
    · exact Or.inr (Or.inr (Or.inr (Or.inr ⟨a3, a4, a1, a2⟩)))
  · exact Or.inr (Or.inr (Or.inr (Or.inl ⟨a3, by omega, a1, a2⟩)))

theorem u_cases (u : Nat) (hu : u ≤ 4) : u = 0 ∨ u = 1 ∨ u = 2 ∨ u = 3 ∨ u = 4 := by omega
theorem beqf {a b : Int} (h : a ≠ b) : (a == b) = false := beq_eq_false_iff_ne.2 h
theorem bnet {a b : Int} (h : a ≠ b) : (a != b) = true := bne_iff_ne.2 h

theorem end_mk (a b c d : Int) : (Four.mk a b c d).end_ = .returned (.tuple #[.int .i64 a, .int .i64 b, .int .i64 c, .int .i64 d]) := rfl
theorem P_bs0 (run : Int) : stepP run 0 92 = ⟨-1, 0, wrap64 (run + 1), 0⟩ := by simp [stepP]
theorem P_bs (run : Int) (u : Nat) (h : u ≠ 0) : stepP run u 92 = ⟨-1, 0, 1, 0⟩ := by simp [stepP, h]
theorem P_dq0 (run : Int) : stepP run 0 34 = ⟨ownE run, wrap64 (bits .and .i64 run (ownE run) + 1), 0, 0⟩ := by simp [stepP]
theorem P_dq (run : Int) (u : Nat) (h : u ≠ 0) : stepP run u 34 = ⟨ownE 0, wrap64 (bits .and .i64 0 (ownE 0) + 1), 0, 0⟩ := by simp [stepP, h]
theorem P_t0 (run : Int) (h : 0 < run) : stepP run 0 117 = ⟨-1, 0, run, 1⟩ := by simp [stepP, tailC, h]
theorem P_t1 (run : Int) (h : 0 < run) : stepP run 1 48 = ⟨-1, 0, run, 2⟩ := by simp [stepP, tailC, h]
theorem P_t2 (run : Int) (h : 0 < run) : stepP run 2 48 = ⟨-1, 0, run, 3⟩ := by simp [stepP, tailC, h]
theorem P_t3 (run : Int) (h : 0 < run) : stepP run 3 50 = ⟨-1, 0, run, 4⟩ := by simp [stepP, tailC, h]
theorem P_t4 (run : Int) (h : 0 < run) : stepP run 4 50 = ⟨ownT run, wrap64 (wrap64 (bits .and .i64 run (ownT run) + 6) - 1), 0, 0⟩ := by simp [stepP, tailC, h]
theorem P_z0 (run b : Int) (h : ¬ 0 < run) (h1 : b ≠ 92) (h2 : b ≠ 34) : stepP run 0 b = ⟨-1, 0, 0, 0⟩ := by simp [stepP, h, h1, h2]
theorem P_e (run b : Int) (u : Nat) (h1 : b ≠ 92) (h2 : b ≠ 34) (h3 : b ≠ tailC u) : stepP run u b = ⟨-1, 0, 0, 0⟩ := by simp [stepP, h1, h2, h3]

/-- ZZQuoteReaderNext. -/
theorem next_any (run : Int) (u : Nat) (b : Int) (w : World) (hu : u ≤ 4) (h0 : 0 ≤ run) (h1 : 0 < u → 0 < run) :
    Calls Try.prog 16 #[.int .i64 run, .int .i64 u, .int .u8 b] w fun e w' => e = (stepP run u b).end_ ∧ NewQ w w' := by
  rcases step_ways run u b hu h0 h1 with rfl | rfl | ⟨h, hb, n1, n2⟩ | ⟨h, rfl, n1, n2⟩ | ⟨h, n3, n1, n2⟩
  · rcases u_cases u hu with rfl | rfl | rfl | rfl | rfl
    · rw [P_bs0, end_mk]; exact next_bs0 run w
    · rw [P_bs _ 1 (by decide), end_mk]; exact next_bs1 run w (h1 (by decide))
    · rw [P_bs _ 2 (by decide), end_mk]; exact next_bs2 run w (h1 (by decide))
    · rw [P_bs _ 3 (by decide), end_mk]; exact next_bs3 run w (h1 (by decide))
    · rw [P_bs _ 4 (by decide), end_mk]; exact next_bs4 run w (h1 (by decide))
  · rcases u_cases u hu with rfl | rfl | rfl | rfl | rfl
    · rw [P_dq0, end_mk]; exact next_dq0 run w
    · rw [P_dq _ 1 (by decide), end_mk]; exact next_dq1 run w (h1 (by decide))
    · rw [P_dq _ 2 (by decide), end_mk]; exact next_dq2 run w (h1 (by decide))
    · rw [P_dq _ 3 (by decide), end_mk]; exact next_dq3 run w (h1 (by decide))
    · rw [P_dq _ 4 (by decide), end_mk]; exact next_dq4 run w (h1 (by decide))
  · rcases u_cases u hu with rfl | rfl | rfl | rfl | rfl
    · have hb' : b = 117 := hb
      subst hb'
      rw [P_t0 _ h, end_mk]; exact next_t0 run w h
    · have hb' : b = 48 := hb
      subst hb'
      rw [P_t1 _ h, end_mk]; exact next_t1 run w h
    · have hb' : b = 48 := hb
      subst hb'
      rw [P_t2 _ h, end_mk]; exact next_t2 run w h
    · have hb' : b = 50 := hb
      subst hb'
      rw [P_t3 _ h, end_mk]; exact next_t3 run w h
    · have hb' : b = 50 := hb
      subst hb'
      rw [P_t4 _ h, end_mk]; exact next_t4 run w h
  · rw [P_z0 _ b h n1 n2, end_mk]; exact next_z0 run b w h (beqf n1) (beqf n2)
  · rw [P_e _ b u n1 n2 n3, end_mk]
    rcases u_cases u hu with rfl | rfl | rfl | rfl | rfl
    · exact next_e0 run b w h (beqf n1) (beqf n2) (beqf n3)
    · exact next_e1 run b w h (beqf n1) (beqf n2) (beqf n3) (bnet n3)
    · exact next_e2 run b w h (beqf n1) (beqf n2) (beqf n3) (bnet n3)
    · exact next_e3 run b w h (beqf n1) (beqf n2) (beqf n3) (bnet n3)
    · exact next_e4 run b w h (beqf n1) (beqf n2) (beqf n3) (bnet n3)

/-- zzSpecReaderStep. -/
theorem spec_any (run : Int) (u : Nat) (b : Int) (w : World) (hu : u ≤ 4) (h0 : 0 ≤ run) (hm : run ≤ 9223372036854775807) (h1 : 0 < u → 0 < run) :
    Calls Try.prog 17 #[.int .i64 run, .int .i64 u, .int .u8 b] w fun e w' => e = (stepP run u b).end_ ∧ w' = w := by
  obtain ⟨R, rfl⟩ := Int.eq_ofNat_of_zero_le h0
  rcases step_ways R u b hu h0 h1 with rfl | rfl | ⟨h, hb, n1, n2⟩ | ⟨h, rfl, n1, n2⟩ | ⟨h, n3, n1, n2⟩
  · rcases u_cases u hu with rfl | rfl | rfl | rfl | rfl
    · rw [P_bs0, end_mk]; exact spec_bs0 R w
    · rw [P_bs _ 1 (by decide), end_mk]; exact spec_bs1 R w (h1 (by decide))
    · rw [P_bs _ 2 (by decide), end_mk]; exact spec_bs2 R w (h1 (by decide))
    · rw [P_bs _ 3 (by decide), end_mk]; exact spec_bs3 R w (h1 (by decide))
    · rw [P_bs _ 4 (by decide), end_mk]; exact spec_bs4 R w (h1 (by decide))
  · rcases u_cases u hu with rfl | rfl | rfl | rfl | rfl
    · obtain ⟨m, t, hR⟩ := ones_form R
      rw [P_dq0, end_mk]; exact spec_dq0 R m t w (by omega) hR
    · rw [P_dq _ 1 (by decide), end_mk]; exact spec_dq1 R w (h1 (by decide))
    · rw [P_dq _ 2 (by decide), end_mk]; exact spec_dq2 R w (h1 (by decide))
    · rw [P_dq _ 3 (by decide), end_mk]; exact spec_dq3 R w (h1 (by decide))
    · rw [P_dq _ 4 (by decide), end_mk]; exact spec_dq4 R w (h1 (by decide))
  · rcases u_cases u hu with rfl | rfl | rfl | rfl | rfl
    · have hb' : b = 117 := hb
      subst hb'
      rw [P_t0 _ h, end_mk]; exact spec_t0 R w h
    · have hb' : b = 48 := hb
      subst hb'
      rw [P_t1 _ h, end_mk]; exact spec_t1 R w h
    · have hb' : b = 48 := hb
      subst hb'
      rw [P_t2 _ h, end_mk]; exact spec_t2 R w h
    · have hb' : b = 50 := hb
      subst hb'
      rw [P_t3 _ h, end_mk]; exact spec_t3 R w h
    · have hb' : b = 50 := hb
      subst hb'
      obtain ⟨m, s, a, hs, hR⟩ := block_form R (by omega)
      rw [P_t4 _ h, end_mk]; exact spec_t4 R m s a w (by omega) hs (by omega) hR
  · rw [P_z0 _ b h n1 n2, end_mk]; exact spec_z0 R b w h (beqf n1) (beqf n2)
  · rw [P_e _ b u n1 n2 n3, end_mk]
    rcases u_cases u hu with rfl | rfl | rfl | rfl | rfl
    · exact spec_e0 R b w h (beqf n1) (beqf n2) (beqf n3)
    · exact spec_e1 R b w h (beqf n1) (beqf n2) (beqf n3)
    · exact spec_e2 R b w h (beqf n1) (beqf n2) (beqf n3)
    · exact spec_e3 R b w h (beqf n1) (beqf n2) (beqf n3)
    · exact spec_e4 R b w h (beqf n1) (beqf n2) (beqf n3)

end Go.Proofs.Qxb6603303a
