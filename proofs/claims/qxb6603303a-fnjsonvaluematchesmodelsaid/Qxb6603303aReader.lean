/-
  The walks of ZZQuoteReaderNext (16) with (*quoteReader).next (31) inside it: one theorem a way.
-/
import Derived.Test.Qxb6603303aOnes
import Derived.BigQuiet
import Derived.Deep.QuietTactic
import Derived.WalkSmall
namespace Go.Proofs.Qxb6603303a
open Go.RowKit
set_option linter.unusedVariables false

theorem esc1 : ((({ data := #[92, 117, 48, 48, 50, 50] } : ByteArray)[1]'(by decide)).toNat : Int) = 117 := rfl
theorem esc2 : ((({ data := #[92, 117, 48, 48, 50, 50] } : ByteArray)[2]'(by decide)).toNat : Int) = 48 := rfl
theorem esc3 : ((({ data := #[92, 117, 48, 48, 50, 50] } : ByteArray)[3]'(by decide)).toNat : Int) = 48 := rfl
theorem esc4 : ((({ data := #[92, 117, 48, 48, 50, 50] } : ByteArray)[4]'(by decide)).toNat : Int) = 50 := rfl
theorem esc5 : ((({ data := #[92, 117, 48, 48, 50, 50] } : ByteArray)[5]'(by decide)).toNat : Int) = 50 := rfl

/-- One new block, for the reader; a draw. -/
def NewQ (w w' : World) : Prop := ∃ (c : Array Value) (n : Nat), w' = (w.alloc (.cells c 41)).drewN n
theorem NewQ.below {w w' : World} (h : NewQ w w') : Below w.heap.size w w' := by
  obtain ⟨c, n, rfl⟩ := h
  exact below_drewN ((Below.refl _ _).alloc (Nat.le_refl _) _) _
theorem NewQ.grown {w w' : World} (h : NewQ w w') : Grown w w' := by
  obtain ⟨c, n, rfl⟩ := h
  exact (Grown.refl w).alloc c 41

/-- The four results. -/
def four (a b c d : Int) : Ending := .returned (.tuple #[.int .i64 a, .int .i64 b, .int .i64 c, .int .i64 d])

set_option maxHeartbeats 1000000 in
theorem next_bs0 (run : Int) (w : World)  :
    Calls Try.prog 16 #[.int .i64 run, .int .i64 0, .int .u8 92] w fun e w' => e = four (-1) 0 (wrap64 (run + 1)) 0 ∧ NewQ w w' := by
  have he := esc1
  go_enter Try.func16, Try.ntmps16
  go_wp2
  go_quiet (fail)
  go_wp2
  exact bodyPost_ret (v := .tuple #[.int .i64 (-1), .int .i64 0, .int .i64 (wrap64 (run + 1)), .int .i64 0]) (by simp [results, Try.results16, go_sem]) rfl ⟨rfl, _, _, rfl⟩

set_option maxHeartbeats 1000000 in
theorem next_dq0 (run : Int) (w : World)  :
    Calls Try.prog 16 #[.int .i64 run, .int .i64 0, .int .u8 34] w fun e w' => e = four (ownE run) (wrap64 (bits .and .i64 run (ownE run) + 1)) 0 0 ∧ NewQ w w' := by
  have he := esc1
  go_enter Try.func16, Try.ntmps16
  go_wp2_with (first | (go_at_call 39; refine (own_false _ _).mono ?_; rintro e w' ⟨rfl, rfl⟩) | go_in)
  go_quiet (fail)
  go_wp2
  exact bodyPost_ret (v := .tuple #[.int .i64 (ownE run), .int .i64 (wrap64 (bits .and .i64 run (ownE run) + 1)), .int .i64 0, .int .i64 0]) (by simp [results, Try.results16, go_sem]) rfl ⟨rfl, _, _, rfl⟩

set_option maxHeartbeats 1000000 in
theorem next_t0 (run : Int) (w : World) (h0 : 0 < run) :
    Calls Try.prog 16 #[.int .i64 run, .int .i64 0, .int .u8 117] w fun e w' => e = four (-1) 0 run 1 ∧ NewQ w w' := by
  have he := esc1
  go_enter Try.func16, Try.ntmps16
  go_wp2
  go_quiet (fail)
  go_wp2
  exact bodyPost_ret (v := .tuple #[.int .i64 (-1), .int .i64 0, .int .i64 run, .int .i64 1]) (by simp [results, Try.results16, go_sem]) rfl ⟨rfl, _, _, rfl⟩

set_option maxHeartbeats 1000000 in
theorem next_z0 (run b : Int) (w : World) (h0 : ¬ 0 < run) (h1 : (b == 92) = false) (h2 : (b == 34) = false) :
    Calls Try.prog 16 #[.int .i64 run, .int .i64 0, .int .u8 b] w fun e w' => e = four (-1) 0 0 0 ∧ NewQ w w' := by
  have he := esc1
  go_enter Try.func16, Try.ntmps16
  go_wp2
  go_quiet (fail)
  go_wp2
  exact bodyPost_ret (v := .tuple #[.int .i64 (-1), .int .i64 0, .int .i64 0, .int .i64 0]) (by simp [results, Try.results16, go_sem]) rfl ⟨rfl, _, _, rfl⟩

set_option maxHeartbeats 1000000 in
theorem next_e0 (run b : Int) (w : World) (h0 : 0 < run) (h1 : (b == 92) = false) (h2 : (b == 34) = false) (h3 : (b == 117) = false) :
    Calls Try.prog 16 #[.int .i64 run, .int .i64 0, .int .u8 b] w fun e w' => e = four (-1) 0 0 0 ∧ NewQ w w' := by
  have he := esc1
  go_enter Try.func16, Try.ntmps16
  go_wp2
  go_quiet (fail)
  go_wp2
  exact bodyPost_ret (v := .tuple #[.int .i64 (-1), .int .i64 0, .int .i64 0, .int .i64 0]) (by simp [results, Try.results16, go_sem]) rfl ⟨rfl, _, _, rfl⟩

set_option maxHeartbeats 1000000 in
theorem next_bs1 (run : Int) (w : World) (h0 : 0 < run) :
    Calls Try.prog 16 #[.int .i64 run, .int .i64 1, .int .u8 92] w fun e w' => e = four (-1) 0 1 0 ∧ NewQ w w' := by
  have he := esc2
  go_enter Try.func16, Try.ntmps16
  go_wp2
  go_quiet (fail)
  go_wp2
  exact bodyPost_ret (v := .tuple #[.int .i64 (-1), .int .i64 0, .int .i64 1, .int .i64 0]) (by simp [results, Try.results16, go_sem]) rfl ⟨rfl, _, _, rfl⟩

set_option maxHeartbeats 1000000 in
theorem next_dq1 (run : Int) (w : World) (h0 : 0 < run) :
    Calls Try.prog 16 #[.int .i64 run, .int .i64 1, .int .u8 34] w fun e w' => e = four (ownE 0) (wrap64 (bits .and .i64 0 (ownE 0) + 1)) 0 0 ∧ NewQ w w' := by
  have he := esc2
  go_enter Try.func16, Try.ntmps16
  go_wp2_with (first | (go_at_call 39; refine (own_false _ _).mono ?_; rintro e w' ⟨rfl, rfl⟩) | go_in)
  go_quiet (fail)
  go_wp2
  exact bodyPost_ret (v := .tuple #[.int .i64 (ownE 0), .int .i64 (wrap64 (bits .and .i64 0 (ownE 0) + 1)), .int .i64 0, .int .i64 0]) (by simp [results, Try.results16, go_sem]) rfl ⟨rfl, _, _, rfl⟩

set_option maxHeartbeats 1000000 in
theorem next_t1 (run : Int) (w : World) (h0 : 0 < run) :
    Calls Try.prog 16 #[.int .i64 run, .int .i64 1, .int .u8 48] w fun e w' => e = four (-1) 0 run 2 ∧ NewQ w w' := by
  have he := esc2
  go_enter Try.func16, Try.ntmps16
  go_wp2
  go_quiet (fail)
  go_wp2
  exact bodyPost_ret (v := .tuple #[.int .i64 (-1), .int .i64 0, .int .i64 run, .int .i64 2]) (by simp [results, Try.results16, go_sem]) rfl ⟨rfl, _, _, rfl⟩

set_option maxHeartbeats 1000000 in
theorem next_e1 (run b : Int) (w : World) (h0 : 0 < run) (h1 : (b == 92) = false) (h2 : (b == 34) = false) (h3 : (b == 48) = false) (h4 : (b != 48) = true) :
    Calls Try.prog 16 #[.int .i64 run, .int .i64 1, .int .u8 b] w fun e w' => e = four (-1) 0 0 0 ∧ NewQ w w' := by
  have he := esc2
  go_enter Try.func16, Try.ntmps16
  go_wp2
  go_quiet (fail)
  go_wp2
  exact bodyPost_ret (v := .tuple #[.int .i64 (-1), .int .i64 0, .int .i64 0, .int .i64 0]) (by simp [results, Try.results16, go_sem]) rfl ⟨rfl, _, _, rfl⟩

set_option maxHeartbeats 1000000 in
theorem next_bs2 (run : Int) (w : World) (h0 : 0 < run) :
    Calls Try.prog 16 #[.int .i64 run, .int .i64 2, .int .u8 92] w fun e w' => e = four (-1) 0 1 0 ∧ NewQ w w' := by
  have he := esc3
  go_enter Try.func16, Try.ntmps16
  go_wp2
  go_quiet (fail)
  go_wp2
  exact bodyPost_ret (v := .tuple #[.int .i64 (-1), .int .i64 0, .int .i64 1, .int .i64 0]) (by simp [results, Try.results16, go_sem]) rfl ⟨rfl, _, _, rfl⟩

set_option maxHeartbeats 1000000 in
theorem next_dq2 (run : Int) (w : World) (h0 : 0 < run) :
    Calls Try.prog 16 #[.int .i64 run, .int .i64 2, .int .u8 34] w fun e w' => e = four (ownE 0) (wrap64 (bits .and .i64 0 (ownE 0) + 1)) 0 0 ∧ NewQ w w' := by
  have he := esc3
  go_enter Try.func16, Try.ntmps16
  go_wp2_with (first | (go_at_call 39; refine (own_false _ _).mono ?_; rintro e w' ⟨rfl, rfl⟩) | go_in)
  go_quiet (fail)
  go_wp2
  exact bodyPost_ret (v := .tuple #[.int .i64 (ownE 0), .int .i64 (wrap64 (bits .and .i64 0 (ownE 0) + 1)), .int .i64 0, .int .i64 0]) (by simp [results, Try.results16, go_sem]) rfl ⟨rfl, _, _, rfl⟩

set_option maxHeartbeats 1000000 in
theorem next_t2 (run : Int) (w : World) (h0 : 0 < run) :
    Calls Try.prog 16 #[.int .i64 run, .int .i64 2, .int .u8 48] w fun e w' => e = four (-1) 0 run 3 ∧ NewQ w w' := by
  have he := esc3
  go_enter Try.func16, Try.ntmps16
  go_wp2
  go_quiet (fail)
  go_wp2
  exact bodyPost_ret (v := .tuple #[.int .i64 (-1), .int .i64 0, .int .i64 run, .int .i64 3]) (by simp [results, Try.results16, go_sem]) rfl ⟨rfl, _, _, rfl⟩

set_option maxHeartbeats 1000000 in
theorem next_e2 (run b : Int) (w : World) (h0 : 0 < run) (h1 : (b == 92) = false) (h2 : (b == 34) = false) (h3 : (b == 48) = false) (h4 : (b != 48) = true) :
    Calls Try.prog 16 #[.int .i64 run, .int .i64 2, .int .u8 b] w fun e w' => e = four (-1) 0 0 0 ∧ NewQ w w' := by
  have he := esc3
  go_enter Try.func16, Try.ntmps16
  go_wp2
  go_quiet (fail)
  go_wp2
  exact bodyPost_ret (v := .tuple #[.int .i64 (-1), .int .i64 0, .int .i64 0, .int .i64 0]) (by simp [results, Try.results16, go_sem]) rfl ⟨rfl, _, _, rfl⟩

set_option maxHeartbeats 1000000 in
theorem next_bs3 (run : Int) (w : World) (h0 : 0 < run) :
    Calls Try.prog 16 #[.int .i64 run, .int .i64 3, .int .u8 92] w fun e w' => e = four (-1) 0 1 0 ∧ NewQ w w' := by
  have he := esc4
  go_enter Try.func16, Try.ntmps16
  go_wp2
  go_quiet (fail)
  go_wp2
  exact bodyPost_ret (v := .tuple #[.int .i64 (-1), .int .i64 0, .int .i64 1, .int .i64 0]) (by simp [results, Try.results16, go_sem]) rfl ⟨rfl, _, _, rfl⟩

set_option maxHeartbeats 1000000 in
theorem next_dq3 (run : Int) (w : World) (h0 : 0 < run) :
    Calls Try.prog 16 #[.int .i64 run, .int .i64 3, .int .u8 34] w fun e w' => e = four (ownE 0) (wrap64 (bits .and .i64 0 (ownE 0) + 1)) 0 0 ∧ NewQ w w' := by
  have he := esc4
  go_enter Try.func16, Try.ntmps16
  go_wp2_with (first | (go_at_call 39; refine (own_false _ _).mono ?_; rintro e w' ⟨rfl, rfl⟩) | go_in)
  go_quiet (fail)
  go_wp2
  exact bodyPost_ret (v := .tuple #[.int .i64 (ownE 0), .int .i64 (wrap64 (bits .and .i64 0 (ownE 0) + 1)), .int .i64 0, .int .i64 0]) (by simp [results, Try.results16, go_sem]) rfl ⟨rfl, _, _, rfl⟩

set_option maxHeartbeats 1000000 in
theorem next_t3 (run : Int) (w : World) (h0 : 0 < run) :
    Calls Try.prog 16 #[.int .i64 run, .int .i64 3, .int .u8 50] w fun e w' => e = four (-1) 0 run 4 ∧ NewQ w w' := by
  have he := esc4
  go_enter Try.func16, Try.ntmps16
  go_wp2
  go_quiet (fail)
  go_wp2
  exact bodyPost_ret (v := .tuple #[.int .i64 (-1), .int .i64 0, .int .i64 run, .int .i64 4]) (by simp [results, Try.results16, go_sem]) rfl ⟨rfl, _, _, rfl⟩

set_option maxHeartbeats 1000000 in
theorem next_e3 (run b : Int) (w : World) (h0 : 0 < run) (h1 : (b == 92) = false) (h2 : (b == 34) = false) (h3 : (b == 50) = false) (h4 : (b != 50) = true) :
    Calls Try.prog 16 #[.int .i64 run, .int .i64 3, .int .u8 b] w fun e w' => e = four (-1) 0 0 0 ∧ NewQ w w' := by
  have he := esc4
  go_enter Try.func16, Try.ntmps16
  go_wp2
  go_quiet (fail)
  go_wp2
  exact bodyPost_ret (v := .tuple #[.int .i64 (-1), .int .i64 0, .int .i64 0, .int .i64 0]) (by simp [results, Try.results16, go_sem]) rfl ⟨rfl, _, _, rfl⟩

set_option maxHeartbeats 1000000 in
theorem next_bs4 (run : Int) (w : World) (h0 : 0 < run) :
    Calls Try.prog 16 #[.int .i64 run, .int .i64 4, .int .u8 92] w fun e w' => e = four (-1) 0 1 0 ∧ NewQ w w' := by
  have he := esc5
  go_enter Try.func16, Try.ntmps16
  go_wp2
  go_quiet (fail)
  go_wp2
  exact bodyPost_ret (v := .tuple #[.int .i64 (-1), .int .i64 0, .int .i64 1, .int .i64 0]) (by simp [results, Try.results16, go_sem]) rfl ⟨rfl, _, _, rfl⟩

set_option maxHeartbeats 1000000 in
theorem next_dq4 (run : Int) (w : World) (h0 : 0 < run) :
    Calls Try.prog 16 #[.int .i64 run, .int .i64 4, .int .u8 34] w fun e w' => e = four (ownE 0) (wrap64 (bits .and .i64 0 (ownE 0) + 1)) 0 0 ∧ NewQ w w' := by
  have he := esc5
  go_enter Try.func16, Try.ntmps16
  go_wp2_with (first | (go_at_call 39; refine (own_false _ _).mono ?_; rintro e w' ⟨rfl, rfl⟩) | go_in)
  go_quiet (fail)
  go_wp2
  exact bodyPost_ret (v := .tuple #[.int .i64 (ownE 0), .int .i64 (wrap64 (bits .and .i64 0 (ownE 0) + 1)), .int .i64 0, .int .i64 0]) (by simp [results, Try.results16, go_sem]) rfl ⟨rfl, _, _, rfl⟩

set_option maxHeartbeats 1000000 in
theorem next_t4 (run : Int) (w : World) (h0 : 0 < run) :
    Calls Try.prog 16 #[.int .i64 run, .int .i64 4, .int .u8 50] w fun e w' => e = four (ownT run) (wrap64 (wrap64 (bits .and .i64 run (ownT run) + 6) - 1)) 0 0 ∧ NewQ w w' := by
  have he := esc5
  go_enter Try.func16, Try.ntmps16
  go_wp2_with (first | (go_at_call 39; refine (own_true _ _).mono ?_; rintro e w' ⟨rfl, rfl⟩) | go_in)
  go_quiet (fail)
  go_wp2
  exact bodyPost_ret (v := .tuple #[.int .i64 (ownT run), .int .i64 (wrap64 (wrap64 (bits .and .i64 run (ownT run) + 6) - 1)), .int .i64 0, .int .i64 0]) (by simp [results, Try.results16, go_sem]) rfl ⟨rfl, _, _, rfl⟩

set_option maxHeartbeats 1000000 in
theorem next_e4 (run b : Int) (w : World) (h0 : 0 < run) (h1 : (b == 92) = false) (h2 : (b == 34) = false) (h3 : (b == 50) = false) (h4 : (b != 50) = true) :
    Calls Try.prog 16 #[.int .i64 run, .int .i64 4, .int .u8 b] w fun e w' => e = four (-1) 0 0 0 ∧ NewQ w w' := by
  have he := esc5
  go_enter Try.func16, Try.ntmps16
  go_wp2
  go_quiet (fail)
  go_wp2
  exact bodyPost_ret (v := .tuple #[.int .i64 (-1), .int .i64 0, .int .i64 0, .int .i64 0]) (by simp [results, Try.results16, go_sem]) rfl ⟨rfl, _, _, rfl⟩

end Go.Proofs.Qxb6603303a
