/-
  The walks of ownEscape (39), zzLowOnes (29), zzTrailingOnes (32), zzLowBlock (33).
-/
import Derived.Test.Qxb6603303aRows
import Derived.Test.Qxb6603303aBits
import Derived.WalkKit
import Derived.WalkSpells
namespace Go.Proofs.Qxb6603303a
open Go.RowKit

theorem own_false (r : Int) (w : World) : Calls Try.prog 39 #[.int .i64 r, .bool false] w fun e w' => e = .returned (.int .i64 (ownE r)) ∧ w' = w := by
  unfold ownE
  go_enter Try.func39, Try.ntmps39
  go_wp2
  go_ret
  exact ⟨rfl, rfl⟩

theorem own_true (r : Int) (w : World) : Calls Try.prog 39 #[.int .i64 r, .bool true] w fun e w' => e = .returned (.int .i64 (ownT r)) ∧ w' = w := by
  unfold ownT ownE
  go_enter Try.func39, Try.ntmps39
  go_wp2
  go_ret
  exact ⟨rfl, rfl⟩

theorem ret_int {a b : Int} (h : a = b) : Ending.returned (.int .i64 a) = .returned (.int .i64 b) := by rw [h]

theorem lowOnes_any (t : Nat) (w : World) (ht : t ≤ 63) : Calls Try.prog 29 #[.int .i64 t] w fun e w' => e = .returned (.int .i64 ((2 ^ t - 1 : Nat) : Int)) ∧ w' = w := by
  go_enter Try.func29, Try.ntmps29
  go_wp2
  go_ret
  exact ⟨ret_int (low_wrap t ht), rfl⟩

theorem oneN_pos (m j : Nat) : 0 < oneN m (j + 1) := by rw [oneN]; omega

set_option maxHeartbeats 400000 in
theorem ones_any (r m t : Nat) (w : World) (hr : r < 9223372036854775808) (h : r = oneN m t) : Calls Try.prog 32 #[.int .i64 r] w fun e w' => e = .returned (.int .i64 t) ∧ w' = w := by
  have ht := (ones_law r m t hr h).1
  have H : Hid (r = oneN m t) := h
  clear h
  go_enter Try.func32, Try.ntmps32
  go_wp2
  go_loop [0, 3] (fun n i => ∃ N k j : Nat, n = .int .i64 N ∧ i = .int .i64 k ∧ N < 9223372036854775808 ∧ k + j = t ∧ Hid (N = oneN m j)) (fun n _ => (intOf n).toNat)
  case atStart => exact ⟨r, 0, t, rfl, rfl, hr, by omega, H⟩
  case round =>
    obtain ⟨N, k, j, rfl, rfl, hN, hk, HR⟩ := hrel
    subst hk
    cases j with
    | zero =>
      have hb : (bits .and .i64 (N : Int) 1 == 1) = false := by rw [and_one_eq N hN, HR.out, oneN, Nat.mul_mod_right]; rfl
      by_cases h0 : 0 < N
      · go_wp2
        go_ret
        exact ⟨rfl, rfl⟩
      · go_wp2
        go_ret
        exact ⟨rfl, rfl⟩
    | succ j =>
      have hb : (bits .and .i64 (N : Int) 1 == 1) = true := by rw [and_one_eq N hN, HR.out, oneN, Nat.mul_add_mod]; rfl
      have h0 : 0 < N := by rw [HR.out]; exact oneN_pos m j
      have HJ : Hid (N / 2 = oneN m j) := by show N / 2 = _; rw [HR.out, oneN]; omega
      go_wp2
      go_round
      case rel => exact ⟨N / 2, k + 1, j, by go_num, by go_num, by omega, by omega, HJ⟩
      case measure => simp [intOf]; omega

theorem zeroN_pos (q j : Nat) (hq : 0 < q) : 0 < zeroN q j := by
  induction j with
  | zero => exact hq
  | succ j ih => rw [zeroN]; omega

set_option maxHeartbeats 1000000 in
theorem block_any (r m s a : Nat) (w : World) (hr : r < 9223372036854775808) (hs : 0 < s) (h : r = zeroN (oneN m s) a) : Calls Try.prog 33 #[.int .i64 r] w fun e w' => e = .returned (.tuple #[.int .i64 a, .int .i64 ((a + s : Nat) : Int)]) ∧ w' = w := by
  have ht := (block_law r m s a hr hs h).1
  have H : Hid (r = zeroN (oneN m s) a) := h
  clear h
  go_enter Try.func33, Try.ntmps33
  go_wp2
  go_loop [0, 4] (fun n i => ∃ N k j : Nat, n = .int .i64 N ∧ i = .int .i64 k ∧ N < 9223372036854775808 ∧ k + j = a ∧ Hid (N = zeroN (oneN m s) j)) (fun n _ => (intOf n).toNat)
  case atStart => exact ⟨r, 0, a, rfl, rfl, hr, by omega, H⟩
  case round =>
    obtain ⟨N, k, j, rfl, rfl, hN, hk, HR⟩ := hrel
    subst hk
    cases j with
    | zero =>
      obtain ⟨s', rfl⟩ : ∃ s', s = s' + 1 := ⟨s - 1, by omega⟩
      have h0 : 0 < N := by rw [HR.out]; exact zeroN_pos _ _ (oneN_pos m s')
      have hb : (bits .and .i64 (N : Int) 1 == 0) = false := by rw [and_one_eq N hN, HR.out, zeroN, oneN, Nat.mul_add_mod]; rfl
      go_wp2
      go_loop [0, 5] (fun n i => ∃ N q j : Nat, n = .int .i64 N ∧ i = .int .i64 q ∧ N < 9223372036854775808 ∧ q + j = k + (s' + 1) ∧ Hid (N = oneN m j)) (fun n _ => (intOf n).toNat)
      case atStart => exact ⟨N, k, s' + 1, rfl, rfl, hN, rfl, HR.out⟩
      case round =>
        obtain ⟨M, q, j, rfl, rfl, hM, hq, HM⟩ := hrel
        clear hb h0
        cases j with
        | zero =>
          have hb : (bits .and .i64 (M : Int) 1 == 1) = false := by rw [and_one_eq M hM, HM.out, oneN, Nat.mul_mod_right]; rfl
          have hq' : Hid (q = k + (s' + 1)) := by show q = _; omega
          clear hq
          by_cases h0 : 0 < M
          · go_wp2
            go_ret2
            exact ⟨by rw [hq'.out]; rfl, rfl⟩
          · go_wp2
            go_ret2
            exact ⟨by rw [hq'.out]; rfl, rfl⟩
        | succ j =>
          have hb : (bits .and .i64 (M : Int) 1 == 1) = true := by rw [and_one_eq M hM, HM.out, oneN, Nat.mul_add_mod]; rfl
          have h0 : 0 < M := by rw [HM.out]; exact oneN_pos m j
          have HJ : Hid (M / 2 = oneN m j) := by show M / 2 = _; rw [HM.out, oneN]; omega
          have hq' : Hid (q + 1 + j = k + (s' + 1)) := by show q + 1 + j = _; omega
          have hq2 : q ≤ 63 := by omega
          clear hq
          go_wp2
          go_round
          case rel => exact ⟨M / 2, q + 1, j, by go_num, by go_num, by omega, hq'.out, HJ⟩
          case measure => simp [intOf]; omega
    | succ j =>
      have hb : (bits .and .i64 (N : Int) 1 == 0) = true := by rw [and_one_eq N hN, HR.out, zeroN, Nat.mul_mod_right]; rfl
      have h0 : 0 < N := by
        obtain ⟨s', rfl⟩ : ∃ s', s = s' + 1 := ⟨s - 1, by omega⟩
        rw [HR.out]; exact zeroN_pos _ _ (oneN_pos m s')
      have HJ : Hid (N / 2 = zeroN (oneN m s) j) := by show N / 2 = _; rw [HR.out, zeroN]; omega
      go_wp2
      go_round
      case rel => exact ⟨N / 2, k + 1, j, by go_num, by go_num, by omega, by omega, HJ⟩
      case measure => simp [intOf]; omega
end Go.Proofs.Qxb6603303a
