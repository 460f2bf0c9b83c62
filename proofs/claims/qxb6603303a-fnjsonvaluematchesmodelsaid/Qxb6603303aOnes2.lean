/-
  The walks of zzAllOnes (27), zzOneBlock (28), zzBitLen (30).
-/
import Derived.Test.Qxb6603303aStep
namespace Go.Proofs.Qxb6603303a
open Go.RowKit

set_option maxHeartbeats 1000000 in
/-- zzAllOnes: is nothing left above the ones? -/
theorem allOnes_any (r m t : Nat) (w : World) (hr : r < 9223372036854775808) (h : r = oneN m t) : Calls Try.prog 27 #[.int .i64 r] w fun e w' => e = .returned (.bool (decide (m = 0))) ∧ w' = w := by
  have H : Hid (r = oneN m t) := h
  clear h
  go_enter Try.func27, Try.ntmps27
  go_wp2
  go_loop [0] (fun n => ∃ N j : Nat, n = .int .i64 N ∧ N < 9223372036854775808 ∧ Hid (N = oneN m j)) (fun n => (intOf n).toNat)
  case atStart => exact ⟨r, t, rfl, hr, H⟩
  case round =>
    obtain ⟨N, j, rfl, hN, HR⟩ := hrel
    cases j with
    | zero =>
      have hb : (bits .and .i64 (N : Int) 1 == 1) = false := by rw [and_one_eq N hN, HR.out, oneN, Nat.mul_mod_right]; rfl
      have hfin : Hid (decide (m = 0) = ((N : Int) == 0)) := by
        show decide (m = 0) = ((N : Int) == 0)
        rw [HR.out, oneN, Bool.eq_iff_iff, decide_eq_true_eq, beq_iff_eq]; omega
      by_cases h0 : 0 < N
      · go_wp2
        go_ret
        exact ⟨by rw [hfin.out]; rfl, rfl⟩
      · have hz : N = 0 := by omega
        subst hz
        go_wp2
        go_ret
        exact ⟨by rw [hfin.out]; rfl, rfl⟩
    | succ j =>
      have hb : (bits .and .i64 (N : Int) 1 == 1) = true := by rw [and_one_eq N hN, HR.out, oneN, Nat.mul_add_mod]; rfl
      have h0 : 0 < N := by rw [HR.out]; exact oneN_pos m j
      have HJ : Hid (N / 2 = oneN m j) := by show N / 2 = _; rw [HR.out, oneN]; omega
      go_wp2
      go_round
      case rel => exact ⟨N / 2, j, by go_num, by omega, HJ⟩
      case measure => simp [intOf]; omega

set_option maxHeartbeats 1000000 in
/-- zzOneBlock: is nothing left above the lowest block of ones? -/
theorem oneBlock_any (r m s a : Nat) (w : World) (hr : r < 9223372036854775808) (hs : 0 < s) (h : r = zeroN (oneN m s) a) : Calls Try.prog 28 #[.int .i64 r] w fun e w' => e = .returned (.bool (decide (m = 0))) ∧ w' = w := by
  have H : Hid (r = zeroN (oneN m s) a) := h
  have hr0 : 0 < r := by
    obtain ⟨s', rfl⟩ : ∃ s', s = s' + 1 := ⟨s - 1, by omega⟩
    rw [h]; exact zeroN_pos _ _ (oneN_pos m s')
  clear h
  go_enter Try.func28, Try.ntmps28
  go_wp2
  go_loop [0] (fun n => ∃ N j : Nat, n = .int .i64 N ∧ N < 9223372036854775808 ∧ Hid (N = zeroN (oneN m s) j)) (fun n => (intOf n).toNat)
  case atStart => exact ⟨r, a, rfl, hr, H⟩
  case round =>
    obtain ⟨N, j, rfl, hN, HR⟩ := hrel
    cases j with
    | zero =>
      obtain ⟨s', rfl⟩ : ∃ s', s = s' + 1 := ⟨s - 1, by omega⟩
      have h0 : 0 < N := by rw [HR.out]; exact zeroN_pos _ _ (oneN_pos m s')
      have hb : (bits .and .i64 (N : Int) 1 == 0) = false := by rw [and_one_eq N hN, HR.out, zeroN, oneN, Nat.mul_add_mod]; rfl
      go_wp2
      go_loop [0] (fun n => ∃ N j : Nat, n = .int .i64 N ∧ N < 9223372036854775808 ∧ Hid (N = oneN m j)) (fun n => (intOf n).toNat)
      case atStart => exact ⟨N, s' + 1, rfl, hN, HR.out⟩
      case round =>
        obtain ⟨M, j, rfl, hM, HM⟩ := hrel
        clear hb h0
        cases j with
        | zero =>
          have hb : (bits .and .i64 (M : Int) 1 == 1) = false := by rw [and_one_eq M hM, HM.out, oneN, Nat.mul_mod_right]; rfl
          have hfin : Hid (decide (m = 0) = ((M : Int) == 0)) := by
            show decide (m = 0) = ((M : Int) == 0)
            rw [HM.out, oneN, Bool.eq_iff_iff, decide_eq_true_eq, beq_iff_eq]; omega
          by_cases h0 : 0 < M
          · go_wp2
            go_ret
            exact ⟨by rw [hfin.out]; rfl, rfl⟩
          · have hz : M = 0 := by omega
            subst hz
            go_wp2
            go_ret
            exact ⟨by rw [hfin.out]; rfl, rfl⟩
        | succ j =>
          have hb : (bits .and .i64 (M : Int) 1 == 1) = true := by rw [and_one_eq M hM, HM.out, oneN, Nat.mul_add_mod]; rfl
          have h0 : 0 < M := by rw [HM.out]; exact oneN_pos m j
          have HJ : Hid (M / 2 = oneN m j) := by show M / 2 = _; rw [HM.out, oneN]; omega
          go_wp2
          go_round
          case rel => exact ⟨M / 2, j, by go_num, by omega, HJ⟩
          case measure => simp [intOf]; omega
    | succ j =>
      have hb : (bits .and .i64 (N : Int) 1 == 0) = true := by rw [and_one_eq N hN, HR.out, zeroN, Nat.mul_mod_right]; rfl
      have h0 : 0 < N := by
        obtain ⟨s', rfl⟩ : ∃ s', s = s' + 1 := ⟨s - 1, by omega⟩
        rw [HR.out]; exact zeroN_pos _ _ (oneN_pos m s')
      have HJ : Hid (N / 2 = zeroN (oneN m s) j) := by show N / 2 = _; rw [HR.out, zeroN]; omega
      go_wp2
      go_round
      case rel => exact ⟨N / 2, j, by go_num, by omega, HJ⟩
      case measure => simp [intOf]; omega

/-- zzBitLen. -/
theorem bitLen_any (r L : Nat) (w : World) (hL : L ≤ 63) (h1 : r < 2 ^ L) (h2 : ∀ k, k < L → 2 ^ k ≤ r) : Calls Try.prog 30 #[.int .i64 r] w fun e w' => e = .returned (.int .i64 L) ∧ w' = w := by
  have hr : r < 9223372036854775808 := Nat.lt_of_lt_of_le h1 (pow_lt63 hL)
  have H1 : Hid (r < 2 ^ L) := h1
  have H2 : Hid (∀ k, k < L → 2 ^ k ≤ r) := h2
  clear h1 h2
  go_enter Try.func30, Try.ntmps30
  go_wp2
  go_loop [0, 3] (fun n i => ∃ N k : Nat, n = .int .i64 N ∧ i = .int .i64 k ∧ k ≤ L ∧ Hid (N = r / 2 ^ k) ∧ N < 9223372036854775808) (fun n _ => (intOf n).toNat)
  case atStart => exact ⟨r, 0, rfl, rfl, Nat.zero_le _, by show r = r / 2 ^ 0; simp, hr⟩
  case round =>
    obtain ⟨N, k, rfl, rfl, hk, HR, hN⟩ := hrel
    by_cases hlt : k < L
    · have h0 : 0 < N := by rw [HR.out]; exact Nat.div_pos (H2.out k hlt) (Nat.two_pow_pos k)
      have HJ : Hid (N / 2 = r / 2 ^ (k + 1)) := by show N / 2 = _; rw [HR.out, Nat.div_div_eq_div_mul, Nat.pow_succ]
      go_wp2
      go_round
      case rel => exact ⟨N / 2, k + 1, by go_num, by go_num, by omega, HJ, by omega⟩
      case measure => simp [intOf]; omega
    · have hkL : k = L := by omega
      subst hkL
      have hz : N = 0 := by rw [HR.out]; exact Nat.div_eq_of_lt H1.out
      subst hz
      go_wp2
      go_ret
      exact ⟨rfl, rfl⟩
end Go.Proofs.Qxb6603303a
