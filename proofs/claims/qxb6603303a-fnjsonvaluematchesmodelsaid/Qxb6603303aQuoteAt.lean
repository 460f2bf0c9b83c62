/-
  The walk of quoteAt (25), by its ways.
-/
import Derived.Test.Qxb6603303aQuote
namespace Go.Proofs.Qxb6603303a
open Go.RowKit
set_option linter.unusedVariables false

/-- A text of N bytes g 0, g 1, .. in a row of its own (as zzClone leaves it). -/
structure TextAt (w : World) (B N : Nat) (g : Nat → Int) : Prop where
  cell : ∀ i, i < N → w.cell? ⟨B, 0 + i, none⟩ = some (.int .u8 (g i))
  bound : ∀ i, i < N → 0 ≤ g i ∧ g i < 256
  len : N ≤ 1048576

/-- Q1: a quote right at i. -/
theorem qa_dq (B N i : Nat) (g : Nat → Int) (w : World) (T : TextAt w B N g) (hi : i < N) (h : g i = 34) :
    Calls Try.prog 25 #[.slice (some ⟨B, 0, none⟩) N N, .int .i64 i] w fun e w' => e = .returned (.tuple #[.int .i64 0, .int .i64 ((i + 1 : Nat) : Int)]) ∧ Below w.heap.size w w' := by
  have c0 : w.cell? ⟨B, i, none⟩ = some (.int .u8 34) := by have := T.cell i hi; rwa [Nat.zero_add, h] at this
  have hl := T.len
  clear T
  go_enter Try.func25, Try.ntmps25
  go_wp2_with fail
  go_ret2
  exact ⟨rfl, Below.refl _ _⟩

set_option maxHeartbeats 1000000 in
/-- Q2: n backslashes (n at least 1), then a quote. -/
theorem qa_q2 (B N i n : Nat) (g : Nat → Int) (w : World) (T : TextAt w B N g) (hR : RunAt g N i n) (h0 : 0 < n) (hj : i + n < N) (h : g (i + n) = 34) (E X : Int) (hE : ownE n = E) (hX : bits .andNot .i64 n E = X)
    (hx : (X != 0) = false) :
    Calls Try.prog 25 #[.slice (some ⟨B, 0, none⟩) N N, .int .i64 i] w fun e w' => e = .returned (.tuple #[.int .i64 E, .int .i64 ((i + n + 1 : Nat) : Int)]) ∧ Below w.heap.size w w' := by
  have c0 : w.cell? ⟨B, i, none⟩ = some (.int .u8 92) := by
    have := T.cell i (by omega); rw [Nat.zero_add] at this
    rw [this]; have := hR.2.1 0 h0; rw [Nat.add_zero] at this; rw [this]
  have c1 : w.cell? ⟨B, i + n, none⟩ = some (.int .u8 34) := by have := T.cell (i + n) hj; rwa [Nat.zero_add, h] at this
  have hl := T.len
  have HB : Hid (∀ w0 : World, w0 = w → Calls Try.prog 38 #[.slice (some ⟨B, 0, none⟩) N N, .int .i64 i] w0 fun e w' => e = .returned (.int .i64 n) ∧ w' = w0) := fun w0 e => by
    subst e; exact backs_any B 0 N N i n g _ (by omega) hR T.cell
  have HO : Hid (∀ w0 : World, Calls Try.prog 39 #[.int .i64 n, .bool false] w0 fun e w' => e = .returned (.int .i64 E) ∧ w' = w0) := fun w0 => by rw [← hE]; exact own_false n w0
  clear T hR h hE
  go_enter Try.func25, Try.ntmps25
  go_wp2_with fail
  refine (HB.out _ rfl).mono ?_
  rintro e w1 ⟨rfl, rfl⟩
  go_wp2_with fail
  refine (HO.out _).mono ?_
  rintro e w2 ⟨rfl, rfl⟩
  go_wp2_with fail
  go_ret2
  exact ⟨rfl, Below.refl _ _⟩
set_option maxHeartbeats 1000000 in
/-- Q2, refused: not all of them are the quote's own. -/
theorem qa_q2n (B N i n : Nat) (g : Nat → Int) (w : World) (T : TextAt w B N g) (hR : RunAt g N i n) (h0 : 0 < n) (hj : i + n < N) (h : g (i + n) = 34) (E X : Int) (hE : ownE n = E) (hX : bits .andNot .i64 n E = X)
    (hx : (X != 0) = true) :
    Calls Try.prog 25 #[.slice (some ⟨B, 0, none⟩) N N, .int .i64 i] w fun e w' => e = .returned (.tuple #[.int .i64 (-1), .int .i64 i]) ∧ Below w.heap.size w w' := by
  have c0 : w.cell? ⟨B, i, none⟩ = some (.int .u8 92) := by
    have := T.cell i (by omega); rw [Nat.zero_add] at this
    rw [this]; have := hR.2.1 0 h0; rw [Nat.add_zero] at this; rw [this]
  have c1 : w.cell? ⟨B, i + n, none⟩ = some (.int .u8 34) := by have := T.cell (i + n) hj; rwa [Nat.zero_add, h] at this
  have hl := T.len
  have HB : Hid (∀ w0 : World, w0 = w → Calls Try.prog 38 #[.slice (some ⟨B, 0, none⟩) N N, .int .i64 i] w0 fun e w' => e = .returned (.int .i64 n) ∧ w' = w0) := fun w0 e => by
    subst e; exact backs_any B 0 N N i n g _ (by omega) hR T.cell
  have HO : Hid (∀ w0 : World, Calls Try.prog 39 #[.int .i64 n, .bool false] w0 fun e w' => e = .returned (.int .i64 E) ∧ w' = w0) := fun w0 => by rw [← hE]; exact own_false n w0
  clear T hR h hE
  go_enter Try.func25, Try.ntmps25
  go_wp2_with fail
  refine (HB.out _ rfl).mono ?_
  rintro e w1 ⟨rfl, rfl⟩
  go_wp2_with fail
  refine (HO.out _).mono ?_
  rintro e w2 ⟨rfl, rfl⟩
  go_wp2_with fail
  go_ret2
  exact ⟨rfl, Below.refl _ _⟩
set_option maxHeartbeats 1000000 in
/-- Q3: n backslashes (n at least 1), then u0022. -/
theorem qa_q3 (B N i n : Nat) (g : Nat → Int) (w : World) (T : TextAt w B N g) (hR : RunAt g N i n) (h0 : 0 < n) (hj : i + n + 5 ≤ N) (h : tailB g (i + n) = true) (E X : Int) (hE : ownT n = E) (hX : bits .andNot .i64 n E = X)
    (hx : (X != 0) = false) :
    Calls Try.prog 25 #[.slice (some ⟨B, 0, none⟩) N N, .int .i64 i] w fun e w' => e = .returned (.tuple #[.int .i64 E, .int .i64 ((i + n + 5 : Nat) : Int)]) ∧ Below w.heap.size w w' := by
  have c0 : w.cell? ⟨B, i, none⟩ = some (.int .u8 92) := by
    have := T.cell i (by omega); rw [Nat.zero_add] at this
    rw [this]; have := hR.2.1 0 h0; rw [Nat.add_zero] at this; rw [this]
  have c1 : w.cell? ⟨B, i + n, none⟩ = some (.int .u8 117) := by
    have := T.cell (i + n) (by omega)
    rwa [Nat.zero_add, show g (i + n) = 117 from (tailB_iff g (i + n)).1 h 0 (by omega)] at this
  have hl := T.len
  have HB : Hid (∀ w0 : World, w0 = w → Calls Try.prog 38 #[.slice (some ⟨B, 0, none⟩) N N, .int .i64 i] w0 fun e w' => e = .returned (.int .i64 n) ∧ w' = w0) := fun w0 e => by
    subst e; exact backs_any B 0 N N i n g _ (by omega) hR T.cell
  have HQ : Hid (∀ w0 : World, w0 = w → Calls Try.prog 40 #[.slice (some ⟨B, 0, none⟩) N N, .int .i64 ((i : Int) + (n : Int) - 1)] w0 fun e w' => e = .returned (.bool true) ∧ w' = w0) := fun w0 e => by
    subst e
    rw [show (i : Int) + (n : Int) - 1 = ((i + n - 1 : Nat) : Int) by omega, ← h, show i + n = i + n - 1 + 1 by omega]
    exact esc_long B 0 N N (i + n - 1) g _ (Nat.le_refl _) (by omega) (by omega) T.bound (by have := hR.2.1 (n - 1) (by omega); rwa [show i + (n - 1) = i + n - 1 by omega] at this) T.cell
  have HO : Hid (∀ w0 : World, Calls Try.prog 39 #[.int .i64 n, .bool true] w0 fun e w' => e = .returned (.int .i64 E) ∧ w' = w0) := fun w0 => by rw [← hE]; exact own_true n w0
  clear T hR h hE
  go_enter Try.func25, Try.ntmps25
  go_wp2_with fail
  refine (HB.out _ rfl).mono ?_
  rintro e w1 ⟨rfl, rfl⟩
  go_wp2_with fail
  refine (HQ.out _ rfl).mono ?_
  rintro e w2 ⟨rfl, rfl⟩
  go_wp2_with fail
  refine (HO.out _).mono ?_
  rintro e w3 ⟨rfl, rfl⟩
  go_wp2_with fail
  go_ret2
  exact ⟨by rw [show ((i + n + 5 : Nat) : Int) = (i : Int) + n + 6 - 1 by omega]; rfl, Below.refl _ _⟩

set_option maxHeartbeats 1000000 in
/-- Q3, refused. -/
theorem qa_q3n (B N i n : Nat) (g : Nat → Int) (w : World) (T : TextAt w B N g) (hR : RunAt g N i n) (h0 : 0 < n) (hj : i + n + 5 ≤ N) (h : tailB g (i + n) = true) (E X : Int) (hE : ownT n = E) (hX : bits .andNot .i64 n E = X)
    (hx : (X != 0) = true) :
    Calls Try.prog 25 #[.slice (some ⟨B, 0, none⟩) N N, .int .i64 i] w fun e w' => e = .returned (.tuple #[.int .i64 (-1), .int .i64 i]) ∧ Below w.heap.size w w' := by
  have c0 : w.cell? ⟨B, i, none⟩ = some (.int .u8 92) := by
    have := T.cell i (by omega); rw [Nat.zero_add] at this
    rw [this]; have := hR.2.1 0 h0; rw [Nat.add_zero] at this; rw [this]
  have c1 : w.cell? ⟨B, i + n, none⟩ = some (.int .u8 117) := by
    have := T.cell (i + n) (by omega)
    rwa [Nat.zero_add, show g (i + n) = 117 from (tailB_iff g (i + n)).1 h 0 (by omega)] at this
  have hl := T.len
  have HB : Hid (∀ w0 : World, w0 = w → Calls Try.prog 38 #[.slice (some ⟨B, 0, none⟩) N N, .int .i64 i] w0 fun e w' => e = .returned (.int .i64 n) ∧ w' = w0) := fun w0 e => by
    subst e; exact backs_any B 0 N N i n g _ (by omega) hR T.cell
  have HQ : Hid (∀ w0 : World, w0 = w → Calls Try.prog 40 #[.slice (some ⟨B, 0, none⟩) N N, .int .i64 ((i : Int) + (n : Int) - 1)] w0 fun e w' => e = .returned (.bool true) ∧ w' = w0) := fun w0 e => by
    subst e
    rw [show (i : Int) + (n : Int) - 1 = ((i + n - 1 : Nat) : Int) by omega, ← h, show i + n = i + n - 1 + 1 by omega]
    exact esc_long B 0 N N (i + n - 1) g _ (Nat.le_refl _) (by omega) (by omega) T.bound (by have := hR.2.1 (n - 1) (by omega); rwa [show i + (n - 1) = i + n - 1 by omega] at this) T.cell
  have HO : Hid (∀ w0 : World, Calls Try.prog 39 #[.int .i64 n, .bool true] w0 fun e w' => e = .returned (.int .i64 E) ∧ w' = w0) := fun w0 => by rw [← hE]; exact own_true n w0
  clear T hR h hE
  go_enter Try.func25, Try.ntmps25
  go_wp2_with fail
  refine (HB.out _ rfl).mono ?_
  rintro e w1 ⟨rfl, rfl⟩
  go_wp2_with fail
  refine (HQ.out _ rfl).mono ?_
  rintro e w2 ⟨rfl, rfl⟩
  go_wp2_with fail
  refine (HO.out _).mono ?_
  rintro e w3 ⟨rfl, rfl⟩
  go_wp2_with fail
  go_ret2
  exact ⟨by rfl, Below.refl _ _⟩


set_option maxHeartbeats 1000000 in
/-- Q4: the text ends in the run; n at least 1. -/
theorem qa_q4 (B N i n : Nat) (g : Nat → Int) (w : World) (T : TextAt w B N g) (hR : RunAt g N i n) (h0 : 0 < n) (hj : i + n = N) :
    Calls Try.prog 25 #[.slice (some ⟨B, 0, none⟩) N N, .int .i64 i] w fun e w' => e = .returned (.tuple #[.int .i64 (-1), .int .i64 N]) ∧ Below w.heap.size w w' := by
  have c0 : w.cell? ⟨B, i, none⟩ = some (.int .u8 92) := by
    have := T.cell i (by omega); rw [Nat.zero_add] at this
    rw [this]; have := hR.2.1 0 h0; rw [Nat.add_zero] at this; rw [this]
  have hl := T.len
  have HB : Hid (∀ w0 : World, w0 = w → Calls Try.prog 38 #[.slice (some ⟨B, 0, none⟩) N N, .int .i64 i] w0 fun e w' => e = .returned (.int .i64 n) ∧ w' = w0) := fun w0 e => by
    subst e; exact backs_any B 0 N N i n g _ (by omega) hR T.cell
  have HQ : Hid (∀ w0 : World, Calls Try.prog 40 #[.slice (some ⟨B, 0, none⟩) N N, .int .i64 ((i : Int) + (n : Int) - 1)] w0 fun e w' => e = .returned (.bool false) ∧ w' = w0) := fun w0 => by
    rw [show (i : Int) + (n : Int) - 1 = ((i + n - 1 : Nat) : Int) by omega]
    exact esc_short B 0 N N (i + n - 1) _ (by omega) (by omega) (by omega)
  clear T hR
  go_enter Try.func25, Try.ntmps25
  go_wp2_with fail
  refine (HB.out _ rfl).mono ?_
  rintro e w1 ⟨rfl, rfl⟩
  go_wp2_with fail
  refine (HQ.out _).mono ?_
  rintro e w2 ⟨rfl, rfl⟩
  go_wp2_with fail
  go_quiet (fail)
  go_wp2_with fail
  go_ret2
  exact ⟨rfl, below_drewN (Below.refl _ _) _⟩

set_option maxHeartbeats 1000000 in
/-- Q4: nothing from i on. -/
theorem qa_q4z (B N : Nat) (g : Nat → Int) (w : World) (T : TextAt w B N g) :
    Calls Try.prog 25 #[.slice (some ⟨B, 0, none⟩) N N, .int .i64 N] w fun e w' => e = .returned (.tuple #[.int .i64 (-1), .int .i64 N]) ∧ Below w.heap.size w w' := by
  have hl := T.len
  have HB : Hid (∀ w0 : World, w0 = w → Calls Try.prog 38 #[.slice (some ⟨B, 0, none⟩) N N, .int .i64 N] w0 fun e w' => e = .returned (.int .i64 ((0 : Nat) : Int)) ∧ w' = w0) := fun w0 e => by
    subst e; exact backs_any B 0 N N N 0 g _ (by omega) ⟨by omega, fun k hk => by omega, fun hk => by omega⟩ T.cell
  clear T
  go_enter Try.func25, Try.ntmps25
  go_wp2_with fail
  refine (HB.out _ rfl).mono ?_
  rintro e w1 ⟨rfl, rfl⟩
  go_wp2_with fail
  go_quiet (fail)
  go_wp2_with fail
  go_ret2
  exact ⟨rfl, below_drewN (Below.refl _ _) _⟩

set_option maxHeartbeats 1000000 in
/-- Q6: no backslash and no quote at i. -/
theorem qa_q6z (B N i : Nat) (g : Nat → Int) (w : World) (T : TextAt w B N g) (hi : i < N) (h1 : g i ≠ 34) (h2 : g i ≠ 92) :
    Calls Try.prog 25 #[.slice (some ⟨B, 0, none⟩) N N, .int .i64 i] w fun e w' => e = .returned (.tuple #[.int .i64 (-1), .int .i64 i]) ∧ Below w.heap.size w w' := by
  have c0 : w.cell? ⟨B, i, none⟩ = some (.int .u8 (g i)) := by have := T.cell i hi; rwa [Nat.zero_add] at this
  have hb : (g i == 34) = false := beqf h1
  have hl := T.len
  have hz : (((N - i : Nat) : Int) == 0) = false := beqf (by omega)
  have HB : Hid (∀ w0 : World, w0 = w → Calls Try.prog 38 #[.slice (some ⟨B, 0, none⟩) N N, .int .i64 i] w0 fun e w' => e = .returned (.int .i64 ((0 : Nat) : Int)) ∧ w' = w0) := fun w0 e => by
    subst e; exact backs_any B 0 N N i 0 g _ (by omega) ⟨by omega, fun k hk => by omega, fun _ => h2⟩ T.cell
  clear T h1 h2
  generalize g i = x at c0 hb
  go_enter Try.func25, Try.ntmps25
  go_wp2_with fail
  refine (HB.out _ rfl).mono ?_
  rintro e w1 ⟨rfl, rfl⟩
  go_wp2_with fail
  go_quiet (fail)
  go_wp2_with fail
  go_ret2
  exact ⟨rfl, below_drewN (Below.refl _ _) _⟩

set_option maxHeartbeats 1000000 in
/-- Q6: n backslashes, then at least five bytes that are no quote and not u0022. -/
theorem qa_q6l (B N i n : Nat) (g : Nat → Int) (w : World) (T : TextAt w B N g) (hR : RunAt g N i n) (h0 : 0 < n) (hj : i + n + 5 ≤ N) (h1 : g (i + n) ≠ 34) (h : tailB g (i + n) = false) :
    Calls Try.prog 25 #[.slice (some ⟨B, 0, none⟩) N N, .int .i64 i] w fun e w' => e = .returned (.tuple #[.int .i64 (-1), .int .i64 i]) ∧ Below w.heap.size w w' := by
  have c0 : w.cell? ⟨B, i, none⟩ = some (.int .u8 92) := by
    have := T.cell i (by omega); rw [Nat.zero_add] at this
    rw [this]; have := hR.2.1 0 h0; rw [Nat.add_zero] at this; rw [this]
  have c1 : w.cell? ⟨B, i + n, none⟩ = some (.int .u8 (g (i + n))) := by
    have := T.cell (i + n) (by omega)
    rwa [Nat.zero_add] at this
  have hb : (g (i + n) == 34) = false := beqf h1
  have hl := T.len
  have hz : (((N - (i + n) : Nat) : Int) == 0) = false := beqf (by omega)
  have hd5 : decide (((N - (i + n) : Nat) : Int) < 5) = false := by simp; omega
  have HB : Hid (∀ w0 : World, w0 = w → Calls Try.prog 38 #[.slice (some ⟨B, 0, none⟩) N N, .int .i64 i] w0 fun e w' => e = .returned (.int .i64 n) ∧ w' = w0) := fun w0 e => by
    subst e; exact backs_any B 0 N N i n g _ (by omega) hR T.cell
  have HQ : Hid (∀ w0 : World, w0 = w → Calls Try.prog 40 #[.slice (some ⟨B, 0, none⟩) N N, .int .i64 ((i : Int) + (n : Int) - 1)] w0 fun e w' => e = .returned (.bool false) ∧ w' = w0) := fun w0 e => by
    subst e
    rw [show (i : Int) + (n : Int) - 1 = ((i + n - 1 : Nat) : Int) by omega, ← h, show i + n = i + n - 1 + 1 by omega]
    exact esc_long B 0 N N (i + n - 1) g _ (Nat.le_refl _) (by omega) (by omega) T.bound (by have := hR.2.1 (n - 1) (by omega); rwa [show i + (n - 1) = i + n - 1 by omega] at this) T.cell
  clear T hR h h1
  generalize g (i + n) = x at c1 hb
  go_enter Try.func25, Try.ntmps25
  go_wp2_with fail
  refine (HB.out _ rfl).mono ?_
  rintro e w1 ⟨rfl, rfl⟩
  go_wp2_with fail
  refine (HQ.out _ rfl).mono ?_
  rintro e w2 ⟨rfl, rfl⟩
  go_wp2_with fail
  go_quiet (fail)
  go_wp2_with fail
  go_ret2
  exact ⟨rfl, below_drewN (Below.refl _ _) _⟩

set_option maxHeartbeats 1000000 in
/-- Q5 and Q6: n backslashes, then one to four bytes, the first no quote: are they the head of u0022? -/
theorem qa_q5 (B N i n : Nat) (g : Nat → Int) (w : World) (T : TextAt w B N g) (hR : RunAt g N i n) (h0 : 0 < n) (hj : i + n < N) (hj5 : N < i + n + 5) (h1 : g (i + n) ≠ 34) (P : Bool) (h : preB g (i + n) (N - (i + n)) = P) (R : Nat) (hr : R = if P = true then N else i) :
    Calls Try.prog 25 #[.slice (some ⟨B, 0, none⟩) N N, .int .i64 i] w fun e w' => e = .returned (.tuple #[.int .i64 (-1), .int .i64 R]) ∧ Below w.heap.size w w' := by
  have c0 : w.cell? ⟨B, i, none⟩ = some (.int .u8 92) := by
    have := T.cell i (by omega); rw [Nat.zero_add] at this
    rw [this]; have := hR.2.1 0 h0; rw [Nat.add_zero] at this; rw [this]
  have c1 : w.cell? ⟨B, i + n, none⟩ = some (.int .u8 (g (i + n))) := by
    have := T.cell (i + n) (by omega)
    rwa [Nat.zero_add] at this
  have hb : (g (i + n) == 34) = false := beqf h1
  have hl := T.len
  have hz : (((N - (i + n) : Nat) : Int) == 0) = false := beqf (by omega)
  have hd5 : decide (((N - (i + n) : Nat) : Int) < 5) = true := by simp; omega
  have HB : Hid (∀ w0 : World, w0 = w → Calls Try.prog 38 #[.slice (some ⟨B, 0, none⟩) N N, .int .i64 i] w0 fun e w' => e = .returned (.int .i64 n) ∧ w' = w0) := fun w0 e => by
    subst e; exact backs_any B 0 N N i n g _ (by omega) hR T.cell
  have HQ : Hid (∀ w0 : World, Calls Try.prog 40 #[.slice (some ⟨B, 0, none⟩) N N, .int .i64 ((i : Int) + (n : Int) - 1)] w0 fun e w' => e = .returned (.bool false) ∧ w' = w0) := fun w0 => by
    rw [show (i : Int) + (n : Int) - 1 = ((i + n - 1 : Nat) : Int) by omega]
    exact esc_short B 0 N N (i + n - 1) _ (by omega) (by omega) (by omega)
  have hcut : ∀ q : Nat, (convert 22 9 (.slice (some ⟨B, i + n, none⟩) (N - (i + n)) (N - (i + n)))).run Try.prog (w.drewN q) = .ok (.string (strOfNums (cutN g (i + n) (N - (i + n))))) (w.drewN q) := fun q =>
    run_convert_bytes_arg (P := Try.prog) (w.drewN q) 22 5 Try.underlying22 Try.underlying5 B (i + n) (N - (i + n)) (N - (i + n)) (cutN g (i + n) (N - (i + n))) (cutN_length _ _ _) (fun k hk => by
      have := T.cell (i + n + k) (by omega)
      rw [Nat.zero_add] at this
      show w.cell? _ = _
      rw [this, cutN_get _ _ _ _ hk]) 9 Try.underlying9
  have HP : Hid (∀ w0 : World, Calls Try.prog 41 #[.string { data := #[117, 48, 48, 50, 50] }, .string (strOfNums (cutN g (i + n) (N - (i + n))))] w0 fun e w' => e = .returned (.bool P) ∧ w' = w0) := fun w0 =>
    hasPrefix_any _ (N - (i + n)) P w0 (by rw [strOfNums_size, cutN_length]) (by omega) (by rw [← h]; exact preB_eq g (i + n) (N - (i + n)) (by omega) (by omega) (fun k hk => T.bound _ (by omega)))
  clear T hR h h1
  generalize strOfNums (cutN g (i + n) (N - (i + n))) = S at hcut HP
  generalize g (i + n) = x at c1 hb
  cases P
  · have hr' : R = i := by rw [hr]; rfl
    subst hr'
    clear hr
    go_enter Try.func25, Try.ntmps25
    go_wp2_with fail
    refine (HB.out _ rfl).mono ?_
    rintro e w1 ⟨rfl, rfl⟩
    go_wp2_with fail
    refine (HQ.out _).mono ?_
    rintro e w2 ⟨rfl, rfl⟩
    go_wp2_with fail
    go_quiet ((go_at_call 41; exact Calls.quiet_of_same (HP.out _)))
    go_wp2_with fail
    go_ret2
    exact ⟨rfl, below_drewN (Below.refl _ _) _⟩
  · have hr' : R = N := by rw [hr]; rfl
    subst hr'
    clear hr
    go_enter Try.func25, Try.ntmps25
    go_wp2_with fail
    refine (HB.out _ rfl).mono ?_
    rintro e w1 ⟨rfl, rfl⟩
    go_wp2_with fail
    refine (HQ.out _).mono ?_
    rintro e w2 ⟨rfl, rfl⟩
    go_wp2_with fail
    go_quiet ((go_at_call 41; exact Calls.quiet_of_same (HP.out _)))
    go_wp2_with fail
    go_ret2
    exact ⟨rfl, below_drewN (Below.refl _ _) _⟩
end Go.Proofs.Qxb6603303a
