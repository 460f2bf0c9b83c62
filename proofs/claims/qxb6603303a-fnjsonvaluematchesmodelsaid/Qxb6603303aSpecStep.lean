/-
  The walks of zzSpecReaderStep (17): one theorem a way, its answers as ZZQuoteReaderNext's.
-/
import Derived.Test.Qxb6603303aOnes
namespace Go.Proofs.Qxb6603303a
open Go.RowKit
set_option linter.unusedVariables false

theorem tail0 : ((({ data := #[117, 48, 48, 50, 50] } : ByteArray)[0]'(by decide)).toNat : Int) = 117 := rfl
theorem tail1 : ((({ data := #[117, 48, 48, 50, 50] } : ByteArray)[1]'(by decide)).toNat : Int) = 48 := rfl
theorem tail2 : ((({ data := #[117, 48, 48, 50, 50] } : ByteArray)[2]'(by decide)).toNat : Int) = 48 := rfl
theorem tail3 : ((({ data := #[117, 48, 48, 50, 50] } : ByteArray)[3]'(by decide)).toNat : Int) = 50 := rfl
theorem tail4 : ((({ data := #[117, 48, 48, 50, 50] } : ByteArray)[4]'(by decide)).toNat : Int) = 50 := rfl

/-- zzLowOnes with its answer named. -/
theorem lowOnes_val (t : Nat) (x : Int) (w : World) (ht : t ≤ 63) (hx : x = ((2 ^ t - 1 : Nat) : Int)) : Calls Try.prog 29 #[.int .i64 t] w fun e w' => e = .returned (.int .i64 x) ∧ w' = w := by
  rw [hx]; exact lowOnes_any t w ht

theorem size_dq (R m t : Nat) (hr : R < 9223372036854775808) (h : R = oneN m t) : bits .and .i64 (R : Int) (ownE R) = ownE R := by
  obtain ⟨_, h1, h2⟩ := ones_law R m t hr h
  rw [h2, h1]

theorem wrap_shift (A : Int) : wrap64 (wrap64 A + 5) = wrap64 (wrap64 (A + 6) - 1) := by
  unfold wrap64
  omega
theorem size_t (R m s a : Nat) (hr : R < 9223372036854775808) (hs : 0 < s) (h : R = zeroN (oneN m s) a) :
    wrap64 (wrap64 (ownT R - ((2 ^ a - 1 : Nat) : Int)) + 5) = wrap64 (wrap64 (bits .and .i64 (R : Int) (ownT R) + 6) - 1) := by
  obtain ⟨hl, h1, h2⟩ := block_law R m s a hr hs h
  rw [h2, h1]
  have hpa : 0 < 2 ^ a := Nat.two_pow_pos a
  have hpas : 2 ^ a ≤ 2 ^ (a + s) := Nat.pow_le_pow_right (by omega) (by omega)
  have e : ((2 ^ (a + s) - 1 : Nat) : Int) - ((2 ^ a - 1 : Nat) : Int) = ((2 ^ (a + s) - 2 ^ a : Nat) : Int) := by omega
  rw [e]
  exact wrap_shift _

set_option maxHeartbeats 1000000 in
theorem spec_bs0 (run : Int) (w : World)  :
    Calls Try.prog 17 #[.int .i64 run, .int .i64 0, .int .u8 92] w fun e w' => e = .returned (.tuple #[.int .i64 (-1), .int .i64 0, .int .i64 (wrap64 (run + 1)), .int .i64 0]) ∧ w' = w := by
  have he := tail0
  go_enter Try.func17, Try.ntmps17
  go_wp2
  exact bodyPost_ret (v := .tuple #[.int .i64 (-1), .int .i64 0, .int .i64 (wrap64 (run + 1)), .int .i64 0]) (by simp [results, Try.results17, go_sem]) rfl ⟨rfl, rfl⟩

set_option maxHeartbeats 1000000 in
theorem spec_dq0  (R m t : Nat) (w : World) (hr : R < 9223372036854775808) (hR : R = oneN m t) :
    Calls Try.prog 17 #[.int .i64 (R : Int), .int .i64 0, .int .u8 34] w fun e w' => e = .returned (.tuple #[.int .i64 (ownE R), .int .i64 (wrap64 (bits .and .i64 (R : Int) (ownE R) + 1)), .int .i64 0, .int .i64 0]) ∧ w' = w := by
  obtain ⟨ht, h1, h2⟩ := ones_law R m t hr hR
  rw [size_dq R m t hr hR]
  have H1 : Hid (ownE R = ((2 ^ t - 1 : Nat) : Int)) := h1
  clear h1 h2
  generalize ownE (R : Int) = x at *
  have HR : Hid (R = oneN m t) := hR
  clear hR
  go_enter Try.func17, Try.ntmps17
  go_wp2_with fail
  refine (ones_any R m t _ hr HR.out).mono ?_
  rintro e w' ⟨rfl, rfl⟩
  go_wp2_with fail
  refine (lowOnes_val t x _ ht H1.out).mono ?_
  rintro e w' ⟨rfl, rfl⟩
  go_wp2
  exact bodyPost_ret (v := .tuple #[.int .i64 x, .int .i64 (wrap64 (x + 1)), .int .i64 0, .int .i64 0]) (by simp [results, Try.results17, go_sem]) rfl ⟨rfl, rfl⟩

set_option maxHeartbeats 1000000 in
theorem spec_t0 (run : Int) (w : World) (h0 : 0 < run) :
    Calls Try.prog 17 #[.int .i64 run, .int .i64 0, .int .u8 117] w fun e w' => e = .returned (.tuple #[.int .i64 (-1), .int .i64 0, .int .i64 run, .int .i64 1]) ∧ w' = w := by
  have he := tail0
  go_enter Try.func17, Try.ntmps17
  go_wp2
  exact bodyPost_ret (v := .tuple #[.int .i64 (-1), .int .i64 0, .int .i64 run, .int .i64 1]) (by simp [results, Try.results17, go_sem]) rfl ⟨rfl, rfl⟩

set_option maxHeartbeats 1000000 in
theorem spec_z0 (run b : Int) (w : World) (h0 : ¬ 0 < run) (h1 : (b == 92) = false) (h2 : (b == 34) = false) :
    Calls Try.prog 17 #[.int .i64 run, .int .i64 0, .int .u8 b] w fun e w' => e = .returned (.tuple #[.int .i64 (-1), .int .i64 0, .int .i64 0, .int .i64 0]) ∧ w' = w := by
  have he := tail0
  go_enter Try.func17, Try.ntmps17
  go_wp2
  exact bodyPost_ret (v := .tuple #[.int .i64 (-1), .int .i64 0, .int .i64 0, .int .i64 0]) (by simp [results, Try.results17, go_sem]) rfl ⟨rfl, rfl⟩

set_option maxHeartbeats 1000000 in
theorem spec_e0 (run b : Int) (w : World) (h0 : 0 < run) (h1 : (b == 92) = false) (h2 : (b == 34) = false) (h3 : (b == 117) = false) :
    Calls Try.prog 17 #[.int .i64 run, .int .i64 0, .int .u8 b] w fun e w' => e = .returned (.tuple #[.int .i64 (-1), .int .i64 0, .int .i64 0, .int .i64 0]) ∧ w' = w := by
  have he := tail0
  go_enter Try.func17, Try.ntmps17
  go_wp2
  exact bodyPost_ret (v := .tuple #[.int .i64 (-1), .int .i64 0, .int .i64 0, .int .i64 0]) (by simp [results, Try.results17, go_sem]) rfl ⟨rfl, rfl⟩

set_option maxHeartbeats 1000000 in
theorem spec_bs1 (run : Int) (w : World) (h0 : 0 < run) :
    Calls Try.prog 17 #[.int .i64 run, .int .i64 1, .int .u8 92] w fun e w' => e = .returned (.tuple #[.int .i64 (-1), .int .i64 0, .int .i64 1, .int .i64 0]) ∧ w' = w := by
  have he := tail1
  go_enter Try.func17, Try.ntmps17
  go_wp2
  exact bodyPost_ret (v := .tuple #[.int .i64 (-1), .int .i64 0, .int .i64 1, .int .i64 0]) (by simp [results, Try.results17, go_sem]) rfl ⟨rfl, rfl⟩

set_option maxHeartbeats 1000000 in
theorem spec_dq1 (run : Int) (w : World) (h0 : 0 < run) :
    Calls Try.prog 17 #[.int .i64 run, .int .i64 1, .int .u8 34] w fun e w' => e = .returned (.tuple #[.int .i64 (ownE 0), .int .i64 (wrap64 (bits .and .i64 0 (ownE 0) + 1)), .int .i64 0, .int .i64 0]) ∧ w' = w := by
  have hE : ownE ((0 : Nat) : Int) = ((2 ^ 0 - 1 : Nat) : Int) := (ones_law 0 0 0 (by decide) rfl).2.1
  have e0 : bits .and .i64 0 (ownE 0) = ownE 0 := size_dq 0 0 0 (by decide) rfl
  rw [e0]
  have H1 : Hid (ownE 0 = ((2 ^ 0 - 1 : Nat) : Int)) := hE
  clear hE e0
  generalize ownE 0 = x at *
  go_enter Try.func17, Try.ntmps17
  go_wp2_with fail
  refine (ones_any 0 0 0 _ (by decide) rfl).mono ?_
  rintro e w' ⟨rfl, rfl⟩
  go_wp2_with fail
  refine (lowOnes_val 0 x _ (by decide) H1.out).mono ?_
  rintro e w' ⟨rfl, rfl⟩
  go_wp2
  exact bodyPost_ret (v := .tuple #[.int .i64 x, .int .i64 (wrap64 (x + 1)), .int .i64 0, .int .i64 0]) (by simp [results, Try.results17, go_sem]) rfl ⟨rfl, rfl⟩

set_option maxHeartbeats 1000000 in
theorem spec_t1 (run : Int) (w : World) (h0 : 0 < run) :
    Calls Try.prog 17 #[.int .i64 run, .int .i64 1, .int .u8 48] w fun e w' => e = .returned (.tuple #[.int .i64 (-1), .int .i64 0, .int .i64 run, .int .i64 2]) ∧ w' = w := by
  have he := tail1
  go_enter Try.func17, Try.ntmps17
  go_wp2
  exact bodyPost_ret (v := .tuple #[.int .i64 (-1), .int .i64 0, .int .i64 run, .int .i64 2]) (by simp [results, Try.results17, go_sem]) rfl ⟨rfl, rfl⟩

set_option maxHeartbeats 1000000 in
theorem spec_e1 (run b : Int) (w : World) (h0 : 0 < run) (h1 : (b == 92) = false) (h2 : (b == 34) = false) (h3 : (b == 48) = false) :
    Calls Try.prog 17 #[.int .i64 run, .int .i64 1, .int .u8 b] w fun e w' => e = .returned (.tuple #[.int .i64 (-1), .int .i64 0, .int .i64 0, .int .i64 0]) ∧ w' = w := by
  have he := tail1
  go_enter Try.func17, Try.ntmps17
  go_wp2
  exact bodyPost_ret (v := .tuple #[.int .i64 (-1), .int .i64 0, .int .i64 0, .int .i64 0]) (by simp [results, Try.results17, go_sem]) rfl ⟨rfl, rfl⟩

set_option maxHeartbeats 1000000 in
theorem spec_bs2 (run : Int) (w : World) (h0 : 0 < run) :
    Calls Try.prog 17 #[.int .i64 run, .int .i64 2, .int .u8 92] w fun e w' => e = .returned (.tuple #[.int .i64 (-1), .int .i64 0, .int .i64 1, .int .i64 0]) ∧ w' = w := by
  have he := tail2
  go_enter Try.func17, Try.ntmps17
  go_wp2
  exact bodyPost_ret (v := .tuple #[.int .i64 (-1), .int .i64 0, .int .i64 1, .int .i64 0]) (by simp [results, Try.results17, go_sem]) rfl ⟨rfl, rfl⟩

set_option maxHeartbeats 1000000 in
theorem spec_dq2 (run : Int) (w : World) (h0 : 0 < run) :
    Calls Try.prog 17 #[.int .i64 run, .int .i64 2, .int .u8 34] w fun e w' => e = .returned (.tuple #[.int .i64 (ownE 0), .int .i64 (wrap64 (bits .and .i64 0 (ownE 0) + 1)), .int .i64 0, .int .i64 0]) ∧ w' = w := by
  have hE : ownE ((0 : Nat) : Int) = ((2 ^ 0 - 1 : Nat) : Int) := (ones_law 0 0 0 (by decide) rfl).2.1
  have e0 : bits .and .i64 0 (ownE 0) = ownE 0 := size_dq 0 0 0 (by decide) rfl
  rw [e0]
  have H1 : Hid (ownE 0 = ((2 ^ 0 - 1 : Nat) : Int)) := hE
  clear hE e0
  generalize ownE 0 = x at *
  go_enter Try.func17, Try.ntmps17
  go_wp2_with fail
  refine (ones_any 0 0 0 _ (by decide) rfl).mono ?_
  rintro e w' ⟨rfl, rfl⟩
  go_wp2_with fail
  refine (lowOnes_val 0 x _ (by decide) H1.out).mono ?_
  rintro e w' ⟨rfl, rfl⟩
  go_wp2
  exact bodyPost_ret (v := .tuple #[.int .i64 x, .int .i64 (wrap64 (x + 1)), .int .i64 0, .int .i64 0]) (by simp [results, Try.results17, go_sem]) rfl ⟨rfl, rfl⟩

set_option maxHeartbeats 1000000 in
theorem spec_t2 (run : Int) (w : World) (h0 : 0 < run) :
    Calls Try.prog 17 #[.int .i64 run, .int .i64 2, .int .u8 48] w fun e w' => e = .returned (.tuple #[.int .i64 (-1), .int .i64 0, .int .i64 run, .int .i64 3]) ∧ w' = w := by
  have he := tail2
  go_enter Try.func17, Try.ntmps17
  go_wp2
  exact bodyPost_ret (v := .tuple #[.int .i64 (-1), .int .i64 0, .int .i64 run, .int .i64 3]) (by simp [results, Try.results17, go_sem]) rfl ⟨rfl, rfl⟩

set_option maxHeartbeats 1000000 in
theorem spec_e2 (run b : Int) (w : World) (h0 : 0 < run) (h1 : (b == 92) = false) (h2 : (b == 34) = false) (h3 : (b == 48) = false) :
    Calls Try.prog 17 #[.int .i64 run, .int .i64 2, .int .u8 b] w fun e w' => e = .returned (.tuple #[.int .i64 (-1), .int .i64 0, .int .i64 0, .int .i64 0]) ∧ w' = w := by
  have he := tail2
  go_enter Try.func17, Try.ntmps17
  go_wp2
  exact bodyPost_ret (v := .tuple #[.int .i64 (-1), .int .i64 0, .int .i64 0, .int .i64 0]) (by simp [results, Try.results17, go_sem]) rfl ⟨rfl, rfl⟩

set_option maxHeartbeats 1000000 in
theorem spec_bs3 (run : Int) (w : World) (h0 : 0 < run) :
    Calls Try.prog 17 #[.int .i64 run, .int .i64 3, .int .u8 92] w fun e w' => e = .returned (.tuple #[.int .i64 (-1), .int .i64 0, .int .i64 1, .int .i64 0]) ∧ w' = w := by
  have he := tail3
  go_enter Try.func17, Try.ntmps17
  go_wp2
  exact bodyPost_ret (v := .tuple #[.int .i64 (-1), .int .i64 0, .int .i64 1, .int .i64 0]) (by simp [results, Try.results17, go_sem]) rfl ⟨rfl, rfl⟩

set_option maxHeartbeats 1000000 in
theorem spec_dq3 (run : Int) (w : World) (h0 : 0 < run) :
    Calls Try.prog 17 #[.int .i64 run, .int .i64 3, .int .u8 34] w fun e w' => e = .returned (.tuple #[.int .i64 (ownE 0), .int .i64 (wrap64 (bits .and .i64 0 (ownE 0) + 1)), .int .i64 0, .int .i64 0]) ∧ w' = w := by
  have hE : ownE ((0 : Nat) : Int) = ((2 ^ 0 - 1 : Nat) : Int) := (ones_law 0 0 0 (by decide) rfl).2.1
  have e0 : bits .and .i64 0 (ownE 0) = ownE 0 := size_dq 0 0 0 (by decide) rfl
  rw [e0]
  have H1 : Hid (ownE 0 = ((2 ^ 0 - 1 : Nat) : Int)) := hE
  clear hE e0
  generalize ownE 0 = x at *
  go_enter Try.func17, Try.ntmps17
  go_wp2_with fail
  refine (ones_any 0 0 0 _ (by decide) rfl).mono ?_
  rintro e w' ⟨rfl, rfl⟩
  go_wp2_with fail
  refine (lowOnes_val 0 x _ (by decide) H1.out).mono ?_
  rintro e w' ⟨rfl, rfl⟩
  go_wp2
  exact bodyPost_ret (v := .tuple #[.int .i64 x, .int .i64 (wrap64 (x + 1)), .int .i64 0, .int .i64 0]) (by simp [results, Try.results17, go_sem]) rfl ⟨rfl, rfl⟩

set_option maxHeartbeats 1000000 in
theorem spec_t3 (run : Int) (w : World) (h0 : 0 < run) :
    Calls Try.prog 17 #[.int .i64 run, .int .i64 3, .int .u8 50] w fun e w' => e = .returned (.tuple #[.int .i64 (-1), .int .i64 0, .int .i64 run, .int .i64 4]) ∧ w' = w := by
  have he := tail3
  go_enter Try.func17, Try.ntmps17
  go_wp2
  exact bodyPost_ret (v := .tuple #[.int .i64 (-1), .int .i64 0, .int .i64 run, .int .i64 4]) (by simp [results, Try.results17, go_sem]) rfl ⟨rfl, rfl⟩

set_option maxHeartbeats 1000000 in
theorem spec_e3 (run b : Int) (w : World) (h0 : 0 < run) (h1 : (b == 92) = false) (h2 : (b == 34) = false) (h3 : (b == 50) = false) :
    Calls Try.prog 17 #[.int .i64 run, .int .i64 3, .int .u8 b] w fun e w' => e = .returned (.tuple #[.int .i64 (-1), .int .i64 0, .int .i64 0, .int .i64 0]) ∧ w' = w := by
  have he := tail3
  go_enter Try.func17, Try.ntmps17
  go_wp2
  exact bodyPost_ret (v := .tuple #[.int .i64 (-1), .int .i64 0, .int .i64 0, .int .i64 0]) (by simp [results, Try.results17, go_sem]) rfl ⟨rfl, rfl⟩

set_option maxHeartbeats 1000000 in
theorem spec_bs4 (run : Int) (w : World) (h0 : 0 < run) :
    Calls Try.prog 17 #[.int .i64 run, .int .i64 4, .int .u8 92] w fun e w' => e = .returned (.tuple #[.int .i64 (-1), .int .i64 0, .int .i64 1, .int .i64 0]) ∧ w' = w := by
  have he := tail4
  go_enter Try.func17, Try.ntmps17
  go_wp2
  exact bodyPost_ret (v := .tuple #[.int .i64 (-1), .int .i64 0, .int .i64 1, .int .i64 0]) (by simp [results, Try.results17, go_sem]) rfl ⟨rfl, rfl⟩

set_option maxHeartbeats 1000000 in
theorem spec_dq4 (run : Int) (w : World) (h0 : 0 < run) :
    Calls Try.prog 17 #[.int .i64 run, .int .i64 4, .int .u8 34] w fun e w' => e = .returned (.tuple #[.int .i64 (ownE 0), .int .i64 (wrap64 (bits .and .i64 0 (ownE 0) + 1)), .int .i64 0, .int .i64 0]) ∧ w' = w := by
  have hE : ownE ((0 : Nat) : Int) = ((2 ^ 0 - 1 : Nat) : Int) := (ones_law 0 0 0 (by decide) rfl).2.1
  have e0 : bits .and .i64 0 (ownE 0) = ownE 0 := size_dq 0 0 0 (by decide) rfl
  rw [e0]
  have H1 : Hid (ownE 0 = ((2 ^ 0 - 1 : Nat) : Int)) := hE
  clear hE e0
  generalize ownE 0 = x at *
  go_enter Try.func17, Try.ntmps17
  go_wp2_with fail
  refine (ones_any 0 0 0 _ (by decide) rfl).mono ?_
  rintro e w' ⟨rfl, rfl⟩
  go_wp2_with fail
  refine (lowOnes_val 0 x _ (by decide) H1.out).mono ?_
  rintro e w' ⟨rfl, rfl⟩
  go_wp2
  exact bodyPost_ret (v := .tuple #[.int .i64 x, .int .i64 (wrap64 (x + 1)), .int .i64 0, .int .i64 0]) (by simp [results, Try.results17, go_sem]) rfl ⟨rfl, rfl⟩

set_option maxHeartbeats 1000000 in
theorem spec_t4  (R m s a : Nat) (w : World) (hr : R < 9223372036854775808) (hs : 0 < s) (h0 : 0 < R) (hR : R = zeroN (oneN m s) a) :
    Calls Try.prog 17 #[.int .i64 (R : Int), .int .i64 4, .int .u8 50] w fun e w' => e = .returned (.tuple #[.int .i64 (ownT R), .int .i64 (wrap64 (wrap64 (bits .and .i64 (R : Int) (ownT R) + 6) - 1)), .int .i64 0, .int .i64 0]) ∧ w' = w := by
  obtain ⟨hl, h1, h2⟩ := block_law R m s a hr hs hR
  rw [← size_t R m s a hr hs hR]
  have H1 : Hid (ownT R = ((2 ^ (a + s) - 1 : Nat) : Int)) := h1
  clear h1 h2
  generalize ownT (R : Int) = x at *
  generalize hy : ((2 ^ a - 1 : Nat) : Int) = y at *
  have H2 : Hid (y = ((2 ^ a - 1 : Nat) : Int)) := hy.symm
  have HR : Hid (R = zeroN (oneN m s) a) := hR
  clear hR hy
  have he := tail4
  go_enter Try.func17, Try.ntmps17
  go_wp2_with fail
  refine (block_any R m s a _ hr hs HR.out).mono ?_
  rintro e w' ⟨rfl, rfl⟩
  go_wp2_with fail
  refine (lowOnes_val (a + s) x _ hl H1.out).mono ?_
  rintro e w' ⟨rfl, rfl⟩
  go_wp2_with fail
  refine (lowOnes_val (a + s) x _ hl H1.out).mono ?_
  rintro e w' ⟨rfl, rfl⟩
  go_wp2_with fail
  refine (lowOnes_val a y _ (by omega) H2.out).mono ?_
  rintro e w' ⟨rfl, rfl⟩
  go_wp2
  exact bodyPost_ret (v := .tuple #[.int .i64 x, .int .i64 (wrap64 (wrap64 (x - y) + 5)), .int .i64 0, .int .i64 0]) (by simp [results, Try.results17, go_sem]) rfl ⟨rfl, rfl⟩

set_option maxHeartbeats 1000000 in
theorem spec_e4 (run b : Int) (w : World) (h0 : 0 < run) (h1 : (b == 92) = false) (h2 : (b == 34) = false) (h3 : (b == 50) = false) :
    Calls Try.prog 17 #[.int .i64 run, .int .i64 4, .int .u8 b] w fun e w' => e = .returned (.tuple #[.int .i64 (-1), .int .i64 0, .int .i64 0, .int .i64 0]) ∧ w' = w := by
  have he := tail4
  go_enter Try.func17, Try.ntmps17
  go_wp2
  exact bodyPost_ret (v := .tuple #[.int .i64 (-1), .int .i64 0, .int .i64 0, .int .i64 0]) (by simp [results, Try.results17, go_sem]) rfl ⟨rfl, rfl⟩

end Go.Proofs.Qxb6603303a
