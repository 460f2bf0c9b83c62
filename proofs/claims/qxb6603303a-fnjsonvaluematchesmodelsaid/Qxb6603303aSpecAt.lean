/-
  The walk of zzSpecQuoteAt (13), by its ways, where a backslash or a quote stands at i.
-/
import Derived.Test.Qxb6603303aOnes2
import Derived.Test.Qxb6603303aQuoteAt
namespace Go.Proofs.Qxb6603303a
open Go.RowKit
set_option linter.unusedVariables false

/-- From j on the text has the first k bytes of u0022, and no more of them. -/
def MatchAt (g : Nat → Int) (N j k : Nat) : Prop := k ≤ 5 ∧ j + k ≤ N ∧ (∀ q, q < k → g (j + q) = tailC q) ∧ (k < 5 → j + k < N → g (j + k) ≠ tailC k)

theorem MatchAt.ex (g : Nat → Int) (N j : Nat) (h : j ≤ N) : ∃ k, MatchAt g N j k := by
  have go : ∀ d k, k + d = 5 → j + k ≤ N → (∀ q, q < k → g (j + q) = tailC q) → ∃ k, MatchAt g N j k := by
    intro d
    induction d with
    | zero => intro k h1 h2 h3; exact ⟨k, by omega, h2, h3, fun hk => by omega⟩
    | succ d ih =>
      intro k h1 h2 h3
      by_cases hN : j + k < N ∧ g (j + k) = tailC k
      · refine ih (k + 1) (by omega) (by omega) (fun q hq => ?_)
        by_cases e : q = k
        · rw [e]; exact hN.2
        · exact h3 q (by omega)
      · exact ⟨k, by omega, h2, h3, fun _ hk he => hN ⟨hk, he⟩⟩
  exact go 5 0 rfl (by omega) (fun q hq => by omega)

/-- A quote behind n backslashes. -/
theorem sa_dq (B N i n m t : Nat) (g : Nat → Int) (w : World) (T : TextAt w B N g) (hR : RunAt g N i n) (hj : i + n < N) (h : g (i + n) = 34) (hm : n = oneN m t) (x y : Int) (hx : (m = 0 ∧ x = n ∧ y = ((i + n + 1 : Nat) : Int)) ∨ (m ≠ 0 ∧ x = -1 ∧ y = i)) :
    Calls Try.prog 13 #[.slice (some ⟨B, 0, none⟩) N N, .int .i64 i] w fun e w' => e = .returned (.tuple #[.int .i64 x, .int .i64 y]) ∧ Below w.heap.size w w' := by
  have c1 : w.cell? ⟨B, i + n, none⟩ = some (.int .u8 34) := by have := T.cell (i + n) hj; rwa [Nat.zero_add, h] at this
  have hl := T.len
  have HB : Hid (∀ w0 : World, w0 = w → Calls Try.prog 26 #[.slice (some ⟨B, 0, none⟩) N N, .int .i64 i] w0 fun e w' => e = .returned (.int .i64 n) ∧ w' = w0) := fun w0 e => by
    subst e; exact runFrom_any B 0 N N i n g _ (by omega) hR T.cell
  have HO : Hid (∀ w0 : World, Calls Try.prog 27 #[.int .i64 n] w0 fun e w' => e = .returned (.bool (decide (m = 0))) ∧ w' = w0) := fun w0 => allOnes_any n m t w0 (by omega) hm
  clear T hR h hm
  rcases hx with ⟨h0, rfl, rfl⟩ | ⟨h0, rfl, rfl⟩
  · have hd : decide (m = 0) = true := decide_eq_true h0
    rw [hd] at HO
    clear h0 hd
    go_enter Try.func13, Try.ntmps13
    go_wp2_with fail
    refine (HB.out _ rfl).mono ?_
    rintro e w1 ⟨rfl, rfl⟩
    go_wp2_with fail
    refine (HO.out _).mono ?_
    rintro e w2 ⟨rfl, rfl⟩
    go_wp2_with fail
    go_ret2
    exact ⟨rfl, Below.refl _ _⟩
  · have hd : decide (m = 0) = false := decide_eq_false h0
    rw [hd] at HO
    clear h0 hd
    go_enter Try.func13, Try.ntmps13
    go_wp2_with fail
    refine (HB.out _ rfl).mono ?_
    rintro e w1 ⟨rfl, rfl⟩
    go_wp2_with fail
    refine (HO.out _).mono ?_
    rintro e w2 ⟨rfl, rfl⟩
    go_wp2_with fail
    go_ret2
    exact ⟨rfl, Below.refl _ _⟩

theorem six (k : Nat) (h : k ≤ 5) : k = 0 ∨ k = 1 ∨ k = 2 ∨ k = 3 ∨ k = 4 ∨ k = 5 := by omega

set_option maxHeartbeats 2000000 in
/-- u0022 behind n backslashes, one block of ones. -/
theorem sa_t (B N i n m s a : Nat) (g : Nat → Int) (w : World) (T : TextAt w B N g) (hR : RunAt g N i n) (h0 : 0 < n) (hM : MatchAt g N (i + n) 5) (hs : 0 < s) (hm : n = zeroN (oneN m s) a) (hz : m = 0) :
    Calls Try.prog 13 #[.slice (some ⟨B, 0, none⟩) N N, .int .i64 i] w fun e w' => e = .returned (.tuple #[.int .i64 (ownT n), .int .i64 ((i + n + 5 : Nat) : Int)]) ∧ Below w.heap.size w w' := by
  obtain ⟨k, hk5⟩ : ∃ k, k = 5 := ⟨5, rfl⟩
  rw [← hk5] at hM
  have hl := T.len
  have HB : Hid (∀ w0 : World, w0 = w → Calls Try.prog 26 #[.slice (some ⟨B, 0, none⟩) N N, .int .i64 i] w0 fun e w' => e = .returned (.int .i64 n) ∧ w' = w0) := fun w0 e => by
    subst e; exact runFrom_any B 0 N N i n g _ (by omega) hR T.cell
  have HC : Hid (∀ i, i < N → w.cell? ⟨B, 0 + i, none⟩ = some (.int .u8 (g i))) := T.cell
  obtain ⟨m1, m2, m3, m4⟩ := hM
  have M3 : Hid (∀ q, q < k → g (i + n + q) = tailC q) := m3
  have M4 : Hid (k < 5 → i + n + k < N → g (i + n + k) ≠ tailC k) := m4
  clear m3 m4
  have c0 : w.cell? ⟨B, i + n, none⟩ = some (.int .u8 117) := by
    have := HC.out (i + n) (by omega)
    rwa [Nat.zero_add, show g (i + n) = 117 from M3.out 0 (by omega)] at this
  have hlt0 : i + n < N := by omega
  have HO : Hid (∀ w0 : World, Calls Try.prog 28 #[.int .i64 n] w0 fun e w' => e = .returned (.bool (decide (m = 0))) ∧ w' = w0) := fun w0 => oneBlock_any n m s a w0 (by omega) hs hm
  rw [decide_eq_true hz] at HO
  obtain ⟨hl63, hT, _⟩ := block_law n m s a (by omega) hs hm
  have hbl : n < 2 ^ (a + s) ∧ ∀ k, k < a + s → 2 ^ k ≤ n := by
    subst hz
    rw [zeroN_eq, oneN_eq, Nat.mul_zero, Nat.zero_add, Nat.mul_sub, ← Nat.pow_add, Nat.mul_one] at hm
    have hpa : 0 < 2 ^ a := Nat.two_pow_pos a
    have h2 : 2 ^ a * 2 ≤ 2 ^ (a + s) := by rw [Nat.pow_add]; exact Nat.mul_le_mul_left _ (by have : 2 ^ 1 ≤ 2 ^ s := Nat.pow_le_pow_right (by omega) hs; omega)
    refine ⟨by omega, fun q hq => ?_⟩
    have h3 : 2 ^ q * 2 ≤ 2 ^ (a + s) := by rw [← Nat.pow_succ]; exact Nat.pow_le_pow_right (by omega) (by omega)
    omega
  have HL : Hid (∀ w0 : World, Calls Try.prog 30 #[.int .i64 n] w0 fun e w' => e = .returned (.int .i64 ((a + s : Nat) : Int)) ∧ w' = w0) := fun w0 => bitLen_any n (a + s) w0 hl63 hbl.1 hbl.2
  have HW : Hid (∀ w0 : World, Calls Try.prog 29 #[.int .i64 ((a + s : Nat) : Int)] w0 fun e w' => e = .returned (.int .i64 (ownT n)) ∧ w' = w0) := fun w0 => lowOnes_val (a + s) _ w0 hl63 hT
  generalize ownT (n : Int) = x at *
  generalize a + s = l at *
  clear hbl hz hT
  clear T hR hm M4
  go_enter Try.func13, Try.ntmps13
  go_wp2_with fail
  refine (HB.out _ rfl).mono ?_
  rintro e w1 ⟨rfl, rfl⟩
  go_wp2_with fail
  go_loopw [8] (fun q wr => ∃ p : Nat, p ≤ k ∧ q = .int .i64 p ∧ Below w1.heap.size w1 wr) (fun q _ => k - (intOf q).toNat)
  case atStart => exact ⟨0, Nat.zero_le _, rfl, Below.refl _ _⟩
  case round =>
    obtain ⟨p, hp, rfl, hbel⟩ := hrel
    have HBr : Hid (Below w1.heap.size w1 wr) := hbel
    have ck : ∀ q, i + n + q < N → wr.cell? ⟨B, i + n + q, none⟩ = some (.int .u8 (g (i + n + q))) := fun q hq => by
      have := HC.out (i + n + q) hq
      rw [Nat.zero_add] at this
      exact (HBr.out.cell (p := ⟨B, i + n + q, none⟩) (World.block_lt_of_cell? _ _ this)).trans this
    clear hbel
    by_cases hlt : p < k
    · rcases five p (by omega) with rfl | rfl | rfl | rfl | rfl
      · have c1 : wr.cell? ⟨B, i + n, none⟩ = some (.int .u8 117) := by
          have := ck 0 (by omega)
          rwa [show g (i + n + 0) = 117 from M3.out 0 hlt] at this
        have hd1 : decide ((i : Int) + (n : Int) < (N : Int)) = true := by simp; omega
        have hin : i + n < N := by omega
        have t0 := tail0
        clear ck
        go_wp2_with fail
        go_quiet (fail)
        go_wp2_with fail
        go_roundw
        case rel => exact ⟨1, by omega, by go_num, below_drewN HBr.out _⟩
        case measure => simp [intOf]; omega
      · have c1 : wr.cell? ⟨B, i + n + 1, none⟩ = some (.int .u8 48) := by
          have := ck 1 (by omega)
          rwa [show g (i + n + 1) = 48 from M3.out 1 hlt] at this
        have hd1 : decide ((i : Int) + (n : Int) + 1 < (N : Int)) = true := by simp; omega
        have hin : i + n + 1 < N := by omega
        have t1 := tail1
        clear ck
        go_wp2_with fail
        go_quiet (fail)
        go_wp2_with fail
        go_roundw
        case rel => exact ⟨2, by omega, by go_num, below_drewN HBr.out _⟩
        case measure => simp [intOf]; omega
      · have c1 : wr.cell? ⟨B, i + n + 2, none⟩ = some (.int .u8 48) := by
          have := ck 2 (by omega)
          rwa [show g (i + n + 2) = 48 from M3.out 2 hlt] at this
        have hd1 : decide ((i : Int) + (n : Int) + 2 < (N : Int)) = true := by simp; omega
        have hin : i + n + 2 < N := by omega
        have t2 := tail2
        clear ck
        go_wp2_with fail
        go_quiet (fail)
        go_wp2_with fail
        go_roundw
        case rel => exact ⟨3, by omega, by go_num, below_drewN HBr.out _⟩
        case measure => simp [intOf]; omega
      · have c1 : wr.cell? ⟨B, i + n + 3, none⟩ = some (.int .u8 50) := by
          have := ck 3 (by omega)
          rwa [show g (i + n + 3) = 50 from M3.out 3 hlt] at this
        have hd1 : decide ((i : Int) + (n : Int) + 3 < (N : Int)) = true := by simp; omega
        have hin : i + n + 3 < N := by omega
        have t3 := tail3
        clear ck
        go_wp2_with fail
        go_quiet (fail)
        go_wp2_with fail
        go_roundw
        case rel => exact ⟨4, by omega, by go_num, below_drewN HBr.out _⟩
        case measure => simp [intOf]; omega
      · have c1 : wr.cell? ⟨B, i + n + 4, none⟩ = some (.int .u8 50) := by
          have := ck 4 (by omega)
          rwa [show g (i + n + 4) = 50 from M3.out 4 hlt] at this
        have hd1 : decide ((i : Int) + (n : Int) + 4 < (N : Int)) = true := by simp; omega
        have hin : i + n + 4 < N := by omega
        have t4 := tail4
        clear ck
        go_wp2_with fail
        go_quiet (fail)
        go_wp2_with fail
        go_roundw
        case rel => exact ⟨5, by omega, by go_num, below_drewN HBr.out _⟩
        case measure => simp [intOf]; omega
    · have hpk : p = k := by omega
      subst hpk
      subst hk5
      have hd5 : decide ((5 : Int) < 5) = false := by decide
      clear ck
      go_wp2_with fail
      go_quiet (fail)
      go_wp2_with fail
      refine (HO.out _).mono ?_
      rintro e w2 ⟨rfl, rfl⟩
      go_wp2_with fail
      refine (HL.out _).mono ?_
      rintro e w3 ⟨rfl, rfl⟩
      go_wp2_with fail
      refine (HW.out _).mono ?_
      rintro e w4 ⟨rfl, rfl⟩
      go_wp2_with fail
      go_ret2
      exact ⟨rfl, below_drewN HBr.out _⟩

set_option maxHeartbeats 2000000 in
/-- u0022 behind n backslashes, no one block of ones. -/
theorem sa_tn (B N i n m s a : Nat) (g : Nat → Int) (w : World) (T : TextAt w B N g) (hR : RunAt g N i n) (h0 : 0 < n) (hM : MatchAt g N (i + n) 5) (hs : 0 < s) (hm : n = zeroN (oneN m s) a) (hz : m ≠ 0) :
    Calls Try.prog 13 #[.slice (some ⟨B, 0, none⟩) N N, .int .i64 i] w fun e w' => e = .returned (.tuple #[.int .i64 (-1), .int .i64 i]) ∧ Below w.heap.size w w' := by
  obtain ⟨k, hk5⟩ : ∃ k, k = 5 := ⟨5, rfl⟩
  rw [← hk5] at hM
  have hl := T.len
  have HB : Hid (∀ w0 : World, w0 = w → Calls Try.prog 26 #[.slice (some ⟨B, 0, none⟩) N N, .int .i64 i] w0 fun e w' => e = .returned (.int .i64 n) ∧ w' = w0) := fun w0 e => by
    subst e; exact runFrom_any B 0 N N i n g _ (by omega) hR T.cell
  have HC : Hid (∀ i, i < N → w.cell? ⟨B, 0 + i, none⟩ = some (.int .u8 (g i))) := T.cell
  obtain ⟨m1, m2, m3, m4⟩ := hM
  have M3 : Hid (∀ q, q < k → g (i + n + q) = tailC q) := m3
  have M4 : Hid (k < 5 → i + n + k < N → g (i + n + k) ≠ tailC k) := m4
  clear m3 m4
  have c0 : w.cell? ⟨B, i + n, none⟩ = some (.int .u8 117) := by
    have := HC.out (i + n) (by omega)
    rwa [Nat.zero_add, show g (i + n) = 117 from M3.out 0 (by omega)] at this
  have hlt0 : i + n < N := by omega
  have HO : Hid (∀ w0 : World, Calls Try.prog 28 #[.int .i64 n] w0 fun e w' => e = .returned (.bool (decide (m = 0))) ∧ w' = w0) := fun w0 => oneBlock_any n m s a w0 (by omega) hs hm
  rw [decide_eq_false hz] at HO
  clear hz
  clear T hR hm M4
  go_enter Try.func13, Try.ntmps13
  go_wp2_with fail
  refine (HB.out _ rfl).mono ?_
  rintro e w1 ⟨rfl, rfl⟩
  go_wp2_with fail
  go_loopw [8] (fun q wr => ∃ p : Nat, p ≤ k ∧ q = .int .i64 p ∧ Below w1.heap.size w1 wr) (fun q _ => k - (intOf q).toNat)
  case atStart => exact ⟨0, Nat.zero_le _, rfl, Below.refl _ _⟩
  case round =>
    obtain ⟨p, hp, rfl, hbel⟩ := hrel
    have HBr : Hid (Below w1.heap.size w1 wr) := hbel
    have ck : ∀ q, i + n + q < N → wr.cell? ⟨B, i + n + q, none⟩ = some (.int .u8 (g (i + n + q))) := fun q hq => by
      have := HC.out (i + n + q) hq
      rw [Nat.zero_add] at this
      exact (HBr.out.cell (p := ⟨B, i + n + q, none⟩) (World.block_lt_of_cell? _ _ this)).trans this
    clear hbel
    by_cases hlt : p < k
    · rcases five p (by omega) with rfl | rfl | rfl | rfl | rfl
      · have c1 : wr.cell? ⟨B, i + n, none⟩ = some (.int .u8 117) := by
          have := ck 0 (by omega)
          rwa [show g (i + n + 0) = 117 from M3.out 0 hlt] at this
        have hd1 : decide ((i : Int) + (n : Int) < (N : Int)) = true := by simp; omega
        have hin : i + n < N := by omega
        have t0 := tail0
        clear ck
        go_wp2_with fail
        go_quiet (fail)
        go_wp2_with fail
        go_roundw
        case rel => exact ⟨1, by omega, by go_num, below_drewN HBr.out _⟩
        case measure => simp [intOf]; omega
      · have c1 : wr.cell? ⟨B, i + n + 1, none⟩ = some (.int .u8 48) := by
          have := ck 1 (by omega)
          rwa [show g (i + n + 1) = 48 from M3.out 1 hlt] at this
        have hd1 : decide ((i : Int) + (n : Int) + 1 < (N : Int)) = true := by simp; omega
        have hin : i + n + 1 < N := by omega
        have t1 := tail1
        clear ck
        go_wp2_with fail
        go_quiet (fail)
        go_wp2_with fail
        go_roundw
        case rel => exact ⟨2, by omega, by go_num, below_drewN HBr.out _⟩
        case measure => simp [intOf]; omega
      · have c1 : wr.cell? ⟨B, i + n + 2, none⟩ = some (.int .u8 48) := by
          have := ck 2 (by omega)
          rwa [show g (i + n + 2) = 48 from M3.out 2 hlt] at this
        have hd1 : decide ((i : Int) + (n : Int) + 2 < (N : Int)) = true := by simp; omega
        have hin : i + n + 2 < N := by omega
        have t2 := tail2
        clear ck
        go_wp2_with fail
        go_quiet (fail)
        go_wp2_with fail
        go_roundw
        case rel => exact ⟨3, by omega, by go_num, below_drewN HBr.out _⟩
        case measure => simp [intOf]; omega
      · have c1 : wr.cell? ⟨B, i + n + 3, none⟩ = some (.int .u8 50) := by
          have := ck 3 (by omega)
          rwa [show g (i + n + 3) = 50 from M3.out 3 hlt] at this
        have hd1 : decide ((i : Int) + (n : Int) + 3 < (N : Int)) = true := by simp; omega
        have hin : i + n + 3 < N := by omega
        have t3 := tail3
        clear ck
        go_wp2_with fail
        go_quiet (fail)
        go_wp2_with fail
        go_roundw
        case rel => exact ⟨4, by omega, by go_num, below_drewN HBr.out _⟩
        case measure => simp [intOf]; omega
      · have c1 : wr.cell? ⟨B, i + n + 4, none⟩ = some (.int .u8 50) := by
          have := ck 4 (by omega)
          rwa [show g (i + n + 4) = 50 from M3.out 4 hlt] at this
        have hd1 : decide ((i : Int) + (n : Int) + 4 < (N : Int)) = true := by simp; omega
        have hin : i + n + 4 < N := by omega
        have t4 := tail4
        clear ck
        go_wp2_with fail
        go_quiet (fail)
        go_wp2_with fail
        go_roundw
        case rel => exact ⟨5, by omega, by go_num, below_drewN HBr.out _⟩
        case measure => simp [intOf]; omega
    · have hpk : p = k := by omega
      subst hpk
      subst hk5
      have hd5 : decide ((5 : Int) < 5) = false := by decide
      clear ck
      go_wp2_with fail
      go_quiet (fail)
      go_wp2_with fail
      refine (HO.out _).mono ?_
      rintro e w2 ⟨rfl, rfl⟩
      go_wp2_with fail
      go_ret2
      exact ⟨rfl, below_drewN HBr.out _⟩

set_option maxHeartbeats 2000000 in
/-- n backslashes, then the text ends in a part of u0022. -/
theorem sa_end (B N i n k : Nat) (g : Nat → Int) (w : World) (T : TextAt w B N g) (hR : RunAt g N i n) (h0 : 0 < n) (hM : MatchAt g N (i + n) k) (hk : k < 5) (hkN : i + n + k = N) :
    Calls Try.prog 13 #[.slice (some ⟨B, 0, none⟩) N N, .int .i64 i] w fun e w' => e = .returned (.tuple #[.int .i64 (-1), .int .i64 N]) ∧ Below w.heap.size w w' := by
  have hl := T.len
  have HB : Hid (∀ w0 : World, w0 = w → Calls Try.prog 26 #[.slice (some ⟨B, 0, none⟩) N N, .int .i64 i] w0 fun e w' => e = .returned (.int .i64 n) ∧ w' = w0) := fun w0 e => by
    subst e; exact runFrom_any B 0 N N i n g _ (by omega) hR T.cell
  have HC : Hid (∀ i, i < N → w.cell? ⟨B, 0 + i, none⟩ = some (.int .u8 (g i))) := T.cell
  obtain ⟨m1, m2, m3, m4⟩ := hM
  have M3 : Hid (∀ q, q < k → g (i + n + q) = tailC q) := m3
  have M4 : Hid (k < 5 → i + n + k < N → g (i + n + k) ≠ tailC k) := m4
  clear m3 m4
  have c0 : i + n < N → w.cell? ⟨B, i + n, none⟩ = some (.int .u8 117) := fun hlt => by
    have := HC.out (i + n) hlt
    rwa [Nat.zero_add, show g (i + n) = 117 from M3.out 0 (by omega)] at this
  clear T hR M4
  by_cases hz : i + n < N
  · replace c0 := c0 hz
    have hkN' : Hid (i + n + k = N) := hkN
    go_enter Try.func13, Try.ntmps13
    go_wp2_with fail
    refine (HB.out _ rfl).mono ?_
    rintro e w1 ⟨rfl, rfl⟩
    go_wp2_with fail
    go_loopw [8] (fun q wr => ∃ p : Nat, p ≤ k ∧ q = .int .i64 p ∧ Below w1.heap.size w1 wr) (fun q _ => k - (intOf q).toNat)
    case atStart => exact ⟨0, Nat.zero_le _, rfl, Below.refl _ _⟩
    case round =>
      obtain ⟨p, hp, rfl, hbel⟩ := hrel
      have HBr : Hid (Below w1.heap.size w1 wr) := hbel
      have ck : ∀ q, i + n + q < N → wr.cell? ⟨B, i + n + q, none⟩ = some (.int .u8 (g (i + n + q))) := fun q hq => by
        have := HC.out (i + n + q) hq
        rw [Nat.zero_add] at this
        exact (HBr.out.cell (p := ⟨B, i + n + q, none⟩) (World.block_lt_of_cell? _ _ this)).trans this
      clear hbel
      by_cases hlt : p < k
      · rcases five p (by omega) with rfl | rfl | rfl | rfl | rfl
        · have c1 : wr.cell? ⟨B, i + n, none⟩ = some (.int .u8 117) := by
            have := ck 0 (by omega)
            rwa [show g (i + n + 0) = 117 from M3.out 0 hlt] at this
          have hd1 : decide ((i : Int) + (n : Int) < (N : Int)) = true := by simp; omega
          have hin : i + n < N := by omega
          have t0 := tail0
          clear ck
          go_wp2_with fail
          go_quiet (fail)
          go_wp2_with fail
          go_roundw
          case rel => exact ⟨1, by omega, by go_num, below_drewN HBr.out _⟩
          case measure => simp [intOf]; omega
        · have c1 : wr.cell? ⟨B, i + n + 1, none⟩ = some (.int .u8 48) := by
            have := ck 1 (by omega)
            rwa [show g (i + n + 1) = 48 from M3.out 1 hlt] at this
          have hd1 : decide ((i : Int) + (n : Int) + 1 < (N : Int)) = true := by simp; omega
          have hin : i + n + 1 < N := by omega
          have t1 := tail1
          clear ck
          go_wp2_with fail
          go_quiet (fail)
          go_wp2_with fail
          go_roundw
          case rel => exact ⟨2, by omega, by go_num, below_drewN HBr.out _⟩
          case measure => simp [intOf]; omega
        · have c1 : wr.cell? ⟨B, i + n + 2, none⟩ = some (.int .u8 48) := by
            have := ck 2 (by omega)
            rwa [show g (i + n + 2) = 48 from M3.out 2 hlt] at this
          have hd1 : decide ((i : Int) + (n : Int) + 2 < (N : Int)) = true := by simp; omega
          have hin : i + n + 2 < N := by omega
          have t2 := tail2
          clear ck
          go_wp2_with fail
          go_quiet (fail)
          go_wp2_with fail
          go_roundw
          case rel => exact ⟨3, by omega, by go_num, below_drewN HBr.out _⟩
          case measure => simp [intOf]; omega
        · have c1 : wr.cell? ⟨B, i + n + 3, none⟩ = some (.int .u8 50) := by
            have := ck 3 (by omega)
            rwa [show g (i + n + 3) = 50 from M3.out 3 hlt] at this
          have hd1 : decide ((i : Int) + (n : Int) + 3 < (N : Int)) = true := by simp; omega
          have hin : i + n + 3 < N := by omega
          have t3 := tail3
          clear ck
          go_wp2_with fail
          go_quiet (fail)
          go_wp2_with fail
          go_roundw
          case rel => exact ⟨4, by omega, by go_num, below_drewN HBr.out _⟩
          case measure => simp [intOf]; omega
        · have c1 : wr.cell? ⟨B, i + n + 4, none⟩ = some (.int .u8 50) := by
            have := ck 4 (by omega)
            rwa [show g (i + n + 4) = 50 from M3.out 4 hlt] at this
          have hd1 : decide ((i : Int) + (n : Int) + 4 < (N : Int)) = true := by simp; omega
          have hin : i + n + 4 < N := by omega
          have t4 := tail4
          clear ck
          go_wp2_with fail
          go_quiet (fail)
          go_wp2_with fail
          go_roundw
          case rel => exact ⟨5, by omega, by go_num, below_drewN HBr.out _⟩
          case measure => simp [intOf]; omega
      · have hpk : p = k := by omega
        subst hpk
        have hd5 : decide ((p : Int) < 5) = true := by simp; omega
        have hd1 : decide ((i : Int) + (n : Int) + (p : Int) < (N : Int)) = false := by simp; omega
        have he : ((i : Int) + (n : Int) + (p : Int) == (N : Int)) = true := beq_iff_eq.2 (by omega)
        have h5 : ((p : Int) == 5) = false := beqf (by omega)
        clear ck
        go_wp2_with fail
        go_quiet (fail)
        go_wp2_with fail
        go_ret2
        exact ⟨rfl, below_drewN HBr.out _⟩
  · have hkz : k = 0 := by omega
    subst hkz
    have hd1 : decide ((i : Int) + (n : Int) < (N : Int)) = false := by simp; omega
    have he : ((i : Int) + (n : Int) == (N : Int)) = true := beq_iff_eq.2 (by omega)
    clear c0
    go_enter Try.func13, Try.ntmps13
    go_wp2_with fail
    refine (HB.out _ rfl).mono ?_
    rintro e w1 ⟨rfl, rfl⟩
    go_wp2_with fail
    go_loopw [8] (fun q wr => q = .int .i64 0 ∧ Below w1.heap.size w1 wr) (fun _ _ => 0)
    case atStart => exact ⟨rfl, Below.refl _ _⟩
    case round =>
      obtain ⟨rfl, hbel⟩ := hrel
      have HBr : Hid (Below w1.heap.size w1 wr) := hbel
      clear hbel
      go_wp2_with fail
      go_quiet (fail)
      go_wp2_with fail
      go_ret2
      exact ⟨rfl, below_drewN HBr.out _⟩

set_option maxHeartbeats 2000000 in
/-- n backslashes, then a byte that is neither a quote nor goes on with u0022. -/
theorem sa_no (B N i n k : Nat) (g : Nat → Int) (w : World) (T : TextAt w B N g) (hR : RunAt g N i n) (h0 : 0 < n) (hM : MatchAt g N (i + n) k) (hk : k < 5) (hkN : i + n + k < N) (h34 : g (i + n) ≠ 34) :
    Calls Try.prog 13 #[.slice (some ⟨B, 0, none⟩) N N, .int .i64 i] w fun e w' => e = .returned (.tuple #[.int .i64 (-1), .int .i64 i]) ∧ Below w.heap.size w w' := by
  have hl := T.len
  have HB : Hid (∀ w0 : World, w0 = w → Calls Try.prog 26 #[.slice (some ⟨B, 0, none⟩) N N, .int .i64 i] w0 fun e w' => e = .returned (.int .i64 n) ∧ w' = w0) := fun w0 e => by
    subst e; exact runFrom_any B 0 N N i n g _ (by omega) hR T.cell
  have HC : Hid (∀ i, i < N → w.cell? ⟨B, 0 + i, none⟩ = some (.int .u8 (g i))) := T.cell
  obtain ⟨m1, m2, m3, m4⟩ := hM
  have M3 : Hid (∀ q, q < k → g (i + n + q) = tailC q) := m3
  have M4 : Hid (k < 5 → i + n + k < N → g (i + n + k) ≠ tailC k) := m4
  clear m3 m4
  have c0 : w.cell? ⟨B, i + n, none⟩ = some (.int .u8 (g (i + n))) := by
    have := HC.out (i + n) (by omega)
    rwa [Nat.zero_add] at this
  have hb0 : (g (i + n) == 34) = false := beqf h34
  have hlt0 : i + n < N := by omega
  have HNE : Hid (g (i + n + k) ≠ tailC k) := M4.out hk hkN
  clear T hR M4 h34
  obtain ⟨x0, hx0⟩ : ∃ x0, g (i + n) = x0 := ⟨_, rfl⟩
  rw [hx0] at c0 hb0
  clear hx0
  go_enter Try.func13, Try.ntmps13
  go_wp2_with fail
  refine (HB.out _ rfl).mono ?_
  rintro e w1 ⟨rfl, rfl⟩
  go_wp2_with fail
  go_loopw [8] (fun q wr => ∃ p : Nat, p ≤ k ∧ q = .int .i64 p ∧ Below w1.heap.size w1 wr) (fun q _ => k - (intOf q).toNat)
  case atStart => exact ⟨0, Nat.zero_le _, rfl, Below.refl _ _⟩
  case round =>
    obtain ⟨p, hp, rfl, hbel⟩ := hrel
    have HBr : Hid (Below w1.heap.size w1 wr) := hbel
    have ck : ∀ q, i + n + q < N → wr.cell? ⟨B, i + n + q, none⟩ = some (.int .u8 (g (i + n + q))) := fun q hq => by
      have := HC.out (i + n + q) hq
      rw [Nat.zero_add] at this
      exact (HBr.out.cell (p := ⟨B, i + n + q, none⟩) (World.block_lt_of_cell? _ _ this)).trans this
    clear hbel
    by_cases hlt : p < k
    · rcases five p (by omega) with rfl | rfl | rfl | rfl | rfl
      · have c1 : wr.cell? ⟨B, i + n, none⟩ = some (.int .u8 117) := by
          have := ck 0 (by omega)
          rwa [show g (i + n + 0) = 117 from M3.out 0 hlt] at this
        have hd1 : decide ((i : Int) + (n : Int) < (N : Int)) = true := by simp; omega
        have hin : i + n < N := by omega
        have t0 := tail0
        clear ck
        go_wp2_with fail
        go_quiet (fail)
        go_wp2_with fail
        go_roundw
        case rel => exact ⟨1, by omega, by go_num, below_drewN HBr.out _⟩
        case measure => simp [intOf]; omega
      · have c1 : wr.cell? ⟨B, i + n + 1, none⟩ = some (.int .u8 48) := by
          have := ck 1 (by omega)
          rwa [show g (i + n + 1) = 48 from M3.out 1 hlt] at this
        have hd1 : decide ((i : Int) + (n : Int) + 1 < (N : Int)) = true := by simp; omega
        have hin : i + n + 1 < N := by omega
        have t1 := tail1
        clear ck
        go_wp2_with fail
        go_quiet (fail)
        go_wp2_with fail
        go_roundw
        case rel => exact ⟨2, by omega, by go_num, below_drewN HBr.out _⟩
        case measure => simp [intOf]; omega
      · have c1 : wr.cell? ⟨B, i + n + 2, none⟩ = some (.int .u8 48) := by
          have := ck 2 (by omega)
          rwa [show g (i + n + 2) = 48 from M3.out 2 hlt] at this
        have hd1 : decide ((i : Int) + (n : Int) + 2 < (N : Int)) = true := by simp; omega
        have hin : i + n + 2 < N := by omega
        have t2 := tail2
        clear ck
        go_wp2_with fail
        go_quiet (fail)
        go_wp2_with fail
        go_roundw
        case rel => exact ⟨3, by omega, by go_num, below_drewN HBr.out _⟩
        case measure => simp [intOf]; omega
      · have c1 : wr.cell? ⟨B, i + n + 3, none⟩ = some (.int .u8 50) := by
          have := ck 3 (by omega)
          rwa [show g (i + n + 3) = 50 from M3.out 3 hlt] at this
        have hd1 : decide ((i : Int) + (n : Int) + 3 < (N : Int)) = true := by simp; omega
        have hin : i + n + 3 < N := by omega
        have t3 := tail3
        clear ck
        go_wp2_with fail
        go_quiet (fail)
        go_wp2_with fail
        go_roundw
        case rel => exact ⟨4, by omega, by go_num, below_drewN HBr.out _⟩
        case measure => simp [intOf]; omega
      · have c1 : wr.cell? ⟨B, i + n + 4, none⟩ = some (.int .u8 50) := by
          have := ck 4 (by omega)
          rwa [show g (i + n + 4) = 50 from M3.out 4 hlt] at this
        have hd1 : decide ((i : Int) + (n : Int) + 4 < (N : Int)) = true := by simp; omega
        have hin : i + n + 4 < N := by omega
        have t4 := tail4
        clear ck
        go_wp2_with fail
        go_quiet (fail)
        go_wp2_with fail
        go_roundw
        case rel => exact ⟨5, by omega, by go_num, below_drewN HBr.out _⟩
        case measure => simp [intOf]; omega
    · have hpk : p = k := by omega
      subst hpk
      have hd5 : decide ((p : Int) < 5) = true := by simp; omega
      have hd1 : decide ((i : Int) + (n : Int) + (p : Int) < (N : Int)) = true := by simp; omega
      have he : ((i : Int) + (n : Int) + (p : Int) == (N : Int)) = false := beqf (by omega)
      have h5 : ((p : Int) == 5) = false := beqf (by omega)
      rcases five p hk with rfl | rfl | rfl | rfl | rfl
      · have c1 := ck 0 hkN
        have hb1 : (g (i + n + 0) == 117) = false := beqf HNE.out
        have hd2 : decide ((i : Int) + (n : Int) < (N : Int)) = true := by simp; omega
        have he2 : ((i : Int) + (n : Int) == (N : Int)) = false := beqf (by omega)
        have t0 := tail0
        generalize g (i + n + 0) = x at c1 hb1
        rw [Nat.add_zero] at c1
        clear ck hd1 he
        go_wp2_with fail
        go_quiet (fail)
        go_wp2_with fail
        go_ret2
        exact ⟨rfl, below_drewN HBr.out _⟩
      · have c1 := ck 1 hkN
        have hb1 : (g (i + n + 1) == 48) = false := beqf HNE.out
        have hd2 : decide ((i : Int) + (n : Int) + 1 < (N : Int)) = true := by simp; omega
        have he2 : ((i : Int) + (n : Int) + 1 == (N : Int)) = false := beqf (by omega)
        have t1 := tail1
        generalize g (i + n + 1) = x at c1 hb1
        skip
        clear ck hd1 he
        go_wp2_with fail
        go_quiet (fail)
        go_wp2_with fail
        go_ret2
        exact ⟨rfl, below_drewN HBr.out _⟩
      · have c1 := ck 2 hkN
        have hb1 : (g (i + n + 2) == 48) = false := beqf HNE.out
        have hd2 : decide ((i : Int) + (n : Int) + 2 < (N : Int)) = true := by simp; omega
        have he2 : ((i : Int) + (n : Int) + 2 == (N : Int)) = false := beqf (by omega)
        have t2 := tail2
        generalize g (i + n + 2) = x at c1 hb1
        skip
        clear ck hd1 he
        go_wp2_with fail
        go_quiet (fail)
        go_wp2_with fail
        go_ret2
        exact ⟨rfl, below_drewN HBr.out _⟩
      · have c1 := ck 3 hkN
        have hb1 : (g (i + n + 3) == 50) = false := beqf HNE.out
        have hd2 : decide ((i : Int) + (n : Int) + 3 < (N : Int)) = true := by simp; omega
        have he2 : ((i : Int) + (n : Int) + 3 == (N : Int)) = false := beqf (by omega)
        have t3 := tail3
        generalize g (i + n + 3) = x at c1 hb1
        skip
        clear ck hd1 he
        go_wp2_with fail
        go_quiet (fail)
        go_wp2_with fail
        go_ret2
        exact ⟨rfl, below_drewN HBr.out _⟩
      · have c1 := ck 4 hkN
        have hb1 : (g (i + n + 4) == 50) = false := beqf HNE.out
        have hd2 : decide ((i : Int) + (n : Int) + 4 < (N : Int)) = true := by simp; omega
        have he2 : ((i : Int) + (n : Int) + 4 == (N : Int)) = false := beqf (by omega)
        have t4 := tail4
        generalize g (i + n + 4) = x at c1 hb1
        skip
        clear ck hd1 he
        go_wp2_with fail
        go_quiet (fail)
        go_wp2_with fail
        go_ret2
        exact ⟨rfl, below_drewN HBr.out _⟩
end Go.Proofs.Qxb6603303a
