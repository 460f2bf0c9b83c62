/-
  The walk of gb18030Size (21) and of its export (17): it answers 'gbSize'; the world stands.
-/
import Derived.Test.Qxb6603264aRows
import Derived.Test.Qxb6603264aPlain
import Derived.WalkKit
import Derived.WalkSpells
namespace Go.Proofs.Qxb6603264a
open Go.RowKit

theorem lead_any (c : Int) (w : World) : Calls Try.prog 24 #[.int .u8 c] w fun e w' => e = .returned (.bool (leadB c)) ∧ w' = w := by
  by_cases h1 : 129 ≤ c
  · by_cases h2 : c ≤ 254
    · have h : leadB c = true := by simp [leadB, h1, h2]
      rw [h]; clear h
      go_enter Try.func24, Try.ntmps24
      go_wp2
      go_ret
      exact ⟨rfl, rfl⟩
    · have h : leadB c = false := by simp [leadB, h2]
      rw [h]; clear h
      go_enter Try.func24, Try.ntmps24
      go_wp2
      go_ret
      exact ⟨rfl, rfl⟩
  · have h : leadB c = false := by simp [leadB, h1]
    rw [h]; clear h
    go_enter Try.func24, Try.ntmps24
    go_wp2
    go_ret
    exact ⟨rfl, rfl⟩

theorem dig_any (c : Int) (w : World) : Calls Try.prog 25 #[.int .u8 c] w fun e w' => e = .returned (.bool (digB c)) ∧ w' = w := by
  by_cases h1 : 48 ≤ c
  · by_cases h2 : c ≤ 57
    · have h : digB c = true := by simp [digB, h1, h2]
      rw [h]; clear h
      go_enter Try.func25, Try.ntmps25
      go_wp2
      go_ret
      exact ⟨rfl, rfl⟩
    · have h : digB c = false := by simp [digB, h2]
      rw [h]; clear h
      go_enter Try.func25, Try.ntmps25
      go_wp2
      go_ret
      exact ⟨rfl, rfl⟩
  · have h : digB c = false := by simp [digB, h1]
    rw [h]; clear h
    go_enter Try.func25, Try.ntmps25
    go_wp2
    go_ret
    exact ⟨rfl, rfl⟩

set_option maxHeartbeats 2000000 in
/-- gb18030Size: n bytes g 0, g 1, .. (n at least 1) at ⟨b, off⟩. -/
theorem size_any (b off n cap : Nat) (g : Nat → Int) (w : World) (hn : 0 < n)
    (hc : ∀ i, i < n → w.cell? ⟨b, off + i, none⟩ = some (.int .u8 (g i))) :
    Calls Try.prog 21 #[.slice (some ⟨b, off, none⟩) n cap] w fun e w' => e = .returned (.int .i64 (gbSize n g)) ∧ w' = w := by
  have c0 : w.cell? ⟨b, off, none⟩ = some (.int .u8 (g 0)) := hc 0 hn
  by_cases h1 : g 0 < 128
  · have h : gbSize n g = 1 := by simp [gbSize, h1]
    rw [h]; clear h hc
    generalize g 0 = x0 at *
    go_enter Try.func21, Try.ntmps21
    go_wp2
    go_ret
    exact ⟨rfl, rfl⟩
  cases h2 : leadB (g 0)
  · have h : gbSize n g = -1 := by simp [gbSize, h1, h2]
    rw [h]; clear h hc
    generalize g 0 = x0 at *
    go_enter Try.func21, Try.ntmps21
    go_wp2_with (go_at_call 24; refine (lead_any _ _).mono ?_; rintro e w' ⟨rfl, rfl⟩)
    go_ret
    exact ⟨rfl, rfl⟩
  by_cases h3 : n < 2
  · have h : gbSize n g = 0 := by simp [gbSize, h1, h2, h3]
    rw [h]; clear h hc
    generalize g 0 = x0 at *
    go_enter Try.func21, Try.ntmps21
    go_wp2_with (go_at_call 24; refine (lead_any _ _).mono ?_; rintro e w' ⟨rfl, rfl⟩)
    go_ret
    exact ⟨rfl, rfl⟩
  have c1 : w.cell? ⟨b, off + 1, none⟩ = some (.int .u8 (g 1)) := hc 1 (by omega)
  cases h4 : twoB (g 1)
  case true =>
    have h : gbSize n g = 2 := by simp [gbSize, h1, h2, h3, h4]
    rw [h]; clear h hc
    generalize g 0 = x0 at *
    generalize g 1 = x1 at *
    simp [twoB] at h4
    obtain ⟨k1, k2, k3⟩ := h4
    go_enter Try.func21, Try.ntmps21
    go_wp2_with (go_at_call 24; refine (lead_any _ _).mono ?_; rintro e w' ⟨rfl, rfl⟩)
    go_ret
    exact ⟨rfl, rfl⟩
  have t4 : twoB (g 1) = true → False := by rw [h4]; intro h; cases h
  cases h5 : digB (g 1)
  · have h : gbSize n g = -1 := by simp [gbSize, h1, h2, h3, h4, h5]
    rw [h]; clear h hc
    generalize g 0 = x0 at *
    generalize g 1 = x1 at *
    have k : x1 < 64 ∨ (64 ≤ x1 ∧ 254 < x1) ∨ (64 ≤ x1 ∧ x1 ≤ 254 ∧ x1 = 127) := by
      simp [twoB] at h4; omega
    clear h4 t4
    rcases k with k | ⟨k, k'⟩ | ⟨k, k', rfl⟩
    all_goals
      go_enter Try.func21, Try.ntmps21
      go_wp2_with (first | (go_at_call 24; refine (lead_any _ _).mono ?_; rintro e w' ⟨rfl, rfl⟩) | (go_at_call 25; refine (dig_any _ _).mono ?_; rintro e w' ⟨rfl, rfl⟩))
      go_ret
      exact ⟨rfl, rfl⟩
  have k1 : 48 ≤ g 1 ∧ g 1 ≤ 57 := by simpa [digB] using h5
  obtain ⟨k1, k1'⟩ := k1
  by_cases h6 : n < 4
  · have h : gbSize n g = 0 := by simp [gbSize, h1, h2, h3, h4, h5, h6]
    rw [h]; clear h hc t4 h4
    generalize g 0 = x0 at *
    generalize g 1 = x1 at *
    go_enter Try.func21, Try.ntmps21
    go_wp2_with (first | (go_at_call 24; refine (lead_any _ _).mono ?_; rintro e w' ⟨rfl, rfl⟩) | (go_at_call 25; refine (dig_any _ _).mono ?_; rintro e w' ⟨rfl, rfl⟩))
    go_ret
    exact ⟨rfl, rfl⟩
  have c2 : w.cell? ⟨b, off + 2, none⟩ = some (.int .u8 (g 2)) := hc 2 (by omega)
  have c3 : w.cell? ⟨b, off + 3, none⟩ = some (.int .u8 (g 3)) := hc 3 (by omega)
  cases h7 : leadB (g 2)
  · have h : gbSize n g = -1 := by simp [gbSize, h1, h2, h3, h4, h5, h6, h7]
    rw [h]; clear h hc t4 h4
    generalize g 0 = x0 at *
    generalize g 1 = x1 at *
    generalize g 2 = x2 at *
    go_enter Try.func21, Try.ntmps21
    go_wp2_with (first | (go_at_call 24; refine (lead_any _ _).mono ?_; rintro e w' ⟨rfl, rfl⟩) | (go_at_call 25; refine (dig_any _ _).mono ?_; rintro e w' ⟨rfl, rfl⟩))
    go_ret
    exact ⟨rfl, rfl⟩
  cases h8 : digB (g 3)
  · have h : gbSize n g = -1 := by simp [gbSize, h1, h2, h3, h4, h5, h6, h7, h8]
    rw [h]; clear h hc t4 h4
    generalize g 0 = x0 at *
    generalize g 1 = x1 at *
    generalize g 2 = x2 at *
    generalize g 3 = x3 at *
    go_enter Try.func21, Try.ntmps21
    go_wp2_with (first | (go_at_call 24; refine (lead_any _ _).mono ?_; rintro e w' ⟨rfl, rfl⟩) | (go_at_call 25; refine (dig_any _ _).mono ?_; rintro e w' ⟨rfl, rfl⟩))
    go_ret
    exact ⟨rfl, rfl⟩
  · have h : gbSize n g = 4 := by simp [gbSize, h1, h2, h3, h4, h5, h6, h7, h8]
    rw [h]; clear h hc t4 h4
    generalize g 0 = x0 at *
    generalize g 1 = x1 at *
    generalize g 2 = x2 at *
    generalize g 3 = x3 at *
    go_enter Try.func21, Try.ntmps21
    go_wp2_with (first | (go_at_call 24; refine (lead_any _ _).mono ?_; rintro e w' ⟨rfl, rfl⟩) | (go_at_call 25; refine (dig_any _ _).mono ?_; rintro e w' ⟨rfl, rfl⟩))
    go_ret
    exact ⟨rfl, rfl⟩

theorem zz_any (b off n cap : Nat) (g : Nat → Int) (w : World) (hn : 0 < n)
    (hc : ∀ i, i < n → w.cell? ⟨b, off + i, none⟩ = some (.int .u8 (g i))) :
    Calls Try.prog 17 #[.slice (some ⟨b, off, none⟩) n cap] w fun e w' => e = .returned (.int .i64 (gbSize n g)) ∧ w' = w := by
  have hs := size_any b off n cap g w hn hc
  clear hc
  go_enter Try.func17, Try.ntmps17
  go_wp2_with fail
  refine hs.mono ?_
  rintro e w' ⟨rfl, rfl⟩
  go_wp2
  go_ret
  exact ⟨rfl, rfl⟩
end Go.Proofs.Qxb6603264a
