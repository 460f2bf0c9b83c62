/-
  The walks of zzSpecJSONValue (23), by its ways, and of ZZJSONValue (22).
-/
import Derived.Test.Qxb6603303aJson
namespace Go.Proofs.Qxb6603303a
open Go.RowKit
set_option linter.unusedVariables false

theorem sp_out (a : Option Addr) (N cap : Nat) (i esc : Int) (w : World) (hN : N ≤ 1048576) (h : (N : Int) ≤ i) :
    Calls Try.prog 23 #[.slice a N cap, .int .i64 i, .int .i64 esc] w fun e w' => e = .returned (.tuple #[.int .i64 i, .bool false]) ∧ Below w.heap.size w w' := by
  go_enter Try.func23, Try.ntmps23
  go_wp2_with fail
  go_ret2
  exact ⟨rfl, Below.refl _ _⟩

set_option maxHeartbeats 1000000 in
set_option maxRecDepth 100000 in
theorem sp_w1 (B N i j : Nat) (esc : Int) (g : Nat → Int) (w : World) (T : TextAt w B N g) (hi : i < N) (hj : Bl g N i j) (hN : j = N) :
    Calls Try.prog 23 #[.slice (some ⟨B, 0, none⟩) N N, .int .i64 i, .int .i64 esc] w fun e w' => e = .returned (.tuple #[.int .i64 j, .bool false]) ∧ Below w.heap.size w w' := by
  have hl := T.len
  have H1 : Hid (∀ w0 : World, w0 = w → Calls Try.prog 37 #[.slice (some ⟨B, 0, none⟩) N N, .int .i64 i] w0 fun e w' => e = .returned (.int .i64 j) ∧ w' = w0) := fun w0 e => by
    subst e; exact skip_any B N i j g _ T hj
  subst hN
  have he : ((j : Int) == (j : Int)) = true := beq_iff_eq.2 rfl
  clear T hj
  go_enter Try.func23, Try.ntmps23
  go_wp2_with fail
  refine (H1.out _ rfl).mono ?_
  rintro e w0 ⟨rfl, rfl⟩
  go_wp2_with fail
  go_ret2
  exact ⟨rfl, Below.refl _ _⟩

set_option maxHeartbeats 1000000 in
set_option maxRecDepth 100000 in
theorem sp_w2 (B N i j : Nat) (esc : Int) (g : Nat → Int) (w : World) (T : TextAt w B N g) (hi : i < N) (hj : Bl g N i j) (hN : j < N) (h58 : g j ≠ 58) :
    Calls Try.prog 23 #[.slice (some ⟨B, 0, none⟩) N N, .int .i64 i, .int .i64 esc] w fun e w' => e = .returned (.tuple #[.int .i64 j, .bool false]) ∧ Below w.heap.size w w' := by
  have hl := T.len
  have H1 : Hid (∀ w0 : World, w0 = w → Calls Try.prog 37 #[.slice (some ⟨B, 0, none⟩) N N, .int .i64 i] w0 fun e w' => e = .returned (.int .i64 j) ∧ w' = w0) := fun w0 e => by
    subst e; exact skip_any B N i j g _ T hj
  have he : ((j : Int) == (N : Int)) = false := beqf (by omega)
  have cj : w.cell? ⟨B, j, none⟩ = some (.int .u8 (g j)) := by have := T.cell j hN; rwa [Nat.zero_add] at this
  have b3 : (g j != 58) = true := bnet h58
  clear h58
  generalize g j = x at cj b3
  clear T hj
  go_enter Try.func23, Try.ntmps23
  go_wp2_with fail
  refine (H1.out _ rfl).mono ?_
  rintro e w0 ⟨rfl, rfl⟩
  go_wp2_with fail
  go_ret2
  exact ⟨rfl, Below.refl _ _⟩

set_option maxHeartbeats 1000000 in
set_option maxRecDepth 100000 in
theorem sp_w3 (B N i j k : Nat) (esc : Int) (g : Nat → Int) (w : World) (T : TextAt w B N g) (hi : i < N) (hj : Bl g N i j) (hjN : j < N) (h58 : g j = 58) (hk : Bl g N (j + 1) k) (hN : k = N) :
    Calls Try.prog 23 #[.slice (some ⟨B, 0, none⟩) N N, .int .i64 i, .int .i64 esc] w fun e w' => e = .returned (.tuple #[.int .i64 k, .bool false]) ∧ Below w.heap.size w w' := by
  have hl := T.len
  have H1 : Hid (∀ w0 : World, w0 = w → Calls Try.prog 37 #[.slice (some ⟨B, 0, none⟩) N N, .int .i64 i] w0 fun e w' => e = .returned (.int .i64 j) ∧ w' = w0) := fun w0 e => by
    subst e; exact skip_any B N i j g _ T hj
  have H2 : Hid (∀ w0 : World, w0 = w → Calls Try.prog 37 #[.slice (some ⟨B, 0, none⟩) N N, .int .i64 ((j : Int) + 1)] w0 fun e w' => e = .returned (.int .i64 k) ∧ w' = w0) := fun w0 e => by
    subst e; exact skip_any B N (j + 1) k g _ T hk
  have he : ((j : Int) == (N : Int)) = false := beqf (by omega)
  have cj : w.cell? ⟨B, j, none⟩ = some (.int .u8 58) := by have := T.cell j hjN; rwa [Nat.zero_add, h58] at this
  have hkN := hk.2.1
  subst hN
  have he2 : ((k : Int) == (k : Int)) = true := beq_iff_eq.2 rfl
  clear T hj hk h58
  go_enter Try.func23, Try.ntmps23
  go_wp2_with fail
  refine (H1.out _ rfl).mono ?_
  rintro e w0 ⟨rfl, rfl⟩
  go_wp2_with fail
  refine (H2.out _ rfl).mono ?_
  rintro e w1 ⟨rfl, rfl⟩
  go_wp2_with fail
  go_ret2
  exact ⟨rfl, Below.refl _ _⟩

set_option maxHeartbeats 1000000 in
set_option maxRecDepth 100000 in
theorem sp_w4 (B N i j k : Nat) (esc : Int) (g : Nat → Int) (w : World) (T : TextAt w B N g) (hi : i < N) (hj : Bl g N i j) (hjN : j < N) (h58 : g j = 58) (hk : Bl g N (j + 1) k) (hN : k < N) (h92 : g k ≠ 92) (h34 : g k ≠ 34) :
    Calls Try.prog 23 #[.slice (some ⟨B, 0, none⟩) N N, .int .i64 i, .int .i64 esc] w fun e w' => e = .returned (.tuple #[.int .i64 k, .bool false]) ∧ Below w.heap.size w w' := by
  have hl := T.len
  have H1 : Hid (∀ w0 : World, w0 = w → Calls Try.prog 37 #[.slice (some ⟨B, 0, none⟩) N N, .int .i64 i] w0 fun e w' => e = .returned (.int .i64 j) ∧ w' = w0) := fun w0 e => by
    subst e; exact skip_any B N i j g _ T hj
  have H2 : Hid (∀ w0 : World, w0 = w → Calls Try.prog 37 #[.slice (some ⟨B, 0, none⟩) N N, .int .i64 ((j : Int) + 1)] w0 fun e w' => e = .returned (.int .i64 k) ∧ w' = w0) := fun w0 e => by
    subst e; exact skip_any B N (j + 1) k g _ T hk
  have he : ((j : Int) == (N : Int)) = false := beqf (by omega)
  have cj : w.cell? ⟨B, j, none⟩ = some (.int .u8 58) := by have := T.cell j hjN; rwa [Nat.zero_add, h58] at this
  have hkN := hk.2.1
  have he2 : ((k : Int) == (N : Int)) = false := beqf (by omega)
  have ck : w.cell? ⟨B, k, none⟩ = some (.int .u8 (g k)) := by have := T.cell k hN; rwa [Nat.zero_add] at this
  have b3 : (g k != 92) = true := bnet h92
  have b4 : (g k != 34) = true := bnet h34
  clear h92 h34
  generalize g k = x at ck b3 b4
  clear T hj hk h58
  go_enter Try.func23, Try.ntmps23
  go_wp2_with fail
  refine (H1.out _ rfl).mono ?_
  rintro e w0 ⟨rfl, rfl⟩
  go_wp2_with fail
  refine (H2.out _ rfl).mono ?_
  rintro e w1 ⟨rfl, rfl⟩
  go_wp2_with fail
  go_ret2
  exact ⟨rfl, Below.refl _ _⟩

set_option maxHeartbeats 1000000 in
set_option maxRecDepth 100000 in
theorem sp_w5 (B N i j k : Nat) (esc : Int) (g : Nat → Int) (w : World) (T : TextAt w B N g) (hi : i < N) (hj : Bl g N i j) (hjN : j < N) (h58 : g j = 58) (hk : Bl g N (j + 1) k) (hN : k < N) (hb : g k = 92 ∨ g k = 34) (x y : Int) (hq : Answers 13 B N k g x y) (he3 : (x == esc) = true) :
    Calls Try.prog 23 #[.slice (some ⟨B, 0, none⟩) N N, .int .i64 i, .int .i64 esc] w fun e w' => e = .returned (.tuple #[.int .i64 y, .bool true]) ∧ Below w.heap.size w w' := by
  have hl := T.len
  have H1 : Hid (∀ w0 : World, w0 = w → Calls Try.prog 37 #[.slice (some ⟨B, 0, none⟩) N N, .int .i64 i] w0 fun e w' => e = .returned (.int .i64 j) ∧ w' = w0) := fun w0 e => by
    subst e; exact skip_any B N i j g _ T hj
  have H2 : Hid (∀ w0 : World, w0 = w → Calls Try.prog 37 #[.slice (some ⟨B, 0, none⟩) N N, .int .i64 ((j : Int) + 1)] w0 fun e w' => e = .returned (.int .i64 k) ∧ w' = w0) := fun w0 e => by
    subst e; exact skip_any B N (j + 1) k g _ T hk
  have he : ((j : Int) == (N : Int)) = false := beqf (by omega)
  have cj : w.cell? ⟨B, j, none⟩ = some (.int .u8 58) := by have := T.cell j hjN; rwa [Nat.zero_add, h58] at this
  have hkN := hk.2.1
  have he2 : ((k : Int) == (N : Int)) = false := beqf (by omega)
  have ck : w.cell? ⟨B, k, none⟩ = some (.int .u8 (g k)) := by have := T.cell k hN; rwa [Nat.zero_add] at this
  have HQ : Hid (∀ w0 : World, w0 = w → Calls Try.prog 13 #[.slice (some ⟨B, 0, none⟩) N N, .int .i64 k] w0 fun e w' => e = .returned (.tuple #[.int .i64 x, .int .i64 y]) ∧ Below w0.heap.size w0 w') := fun w0 e => by
    subst e; exact hq _ T
  clear T hj hk h58
  clear hq
  generalize g k = c at ck hb
  rcases hb with rfl | rfl
  all_goals
    go_enter Try.func23, Try.ntmps23
    go_wp2_with fail
    refine (H1.out _ rfl).mono ?_
    rintro e w0 ⟨rfl, rfl⟩
    go_wp2_with fail
    refine (H2.out _ rfl).mono ?_
    rintro e w1 ⟨rfl, rfl⟩
    go_wp2_with fail
    refine (HQ.out _ rfl).mono ?_
    rintro e w2 ⟨rfl, hb1⟩
    have HB1 : Hid (Below w1.heap.size w1 w2) := hb1
    clear hb1
    go_wp2_with fail
    go_ret2
    exact ⟨rfl, HB1.out⟩

set_option maxHeartbeats 1000000 in
set_option maxRecDepth 100000 in
theorem sp_w6 (B N i j k : Nat) (esc : Int) (g : Nat → Int) (w : World) (T : TextAt w B N g) (hi : i < N) (hj : Bl g N i j) (hjN : j < N) (h58 : g j = 58) (hk : Bl g N (j + 1) k) (hN : k < N) (hb : g k = 92 ∨ g k = 34) (x y : Int) (hq : Answers 13 B N k g x y) (he3 : (x == esc) = false) (hx : x < 0) (hy : (y == (N : Int)) = true) (n : Nat) (hR : RunAt g N k n) (hn : (n : Int) ≤ esc) :
    Calls Try.prog 23 #[.slice (some ⟨B, 0, none⟩) N N, .int .i64 i, .int .i64 esc] w fun e w' => e = .returned (.tuple #[.int .i64 N, .bool false]) ∧ Below w.heap.size w w' := by
  have hl := T.len
  have H1 : Hid (∀ w0 : World, w0 = w → Calls Try.prog 37 #[.slice (some ⟨B, 0, none⟩) N N, .int .i64 i] w0 fun e w' => e = .returned (.int .i64 j) ∧ w' = w0) := fun w0 e => by
    subst e; exact skip_any B N i j g _ T hj
  have H2 : Hid (∀ w0 : World, w0 = w → Calls Try.prog 37 #[.slice (some ⟨B, 0, none⟩) N N, .int .i64 ((j : Int) + 1)] w0 fun e w' => e = .returned (.int .i64 k) ∧ w' = w0) := fun w0 e => by
    subst e; exact skip_any B N (j + 1) k g _ T hk
  have he : ((j : Int) == (N : Int)) = false := beqf (by omega)
  have cj : w.cell? ⟨B, j, none⟩ = some (.int .u8 58) := by have := T.cell j hjN; rwa [Nat.zero_add, h58] at this
  have hkN := hk.2.1
  have he2 : ((k : Int) == (N : Int)) = false := beqf (by omega)
  have ck : w.cell? ⟨B, k, none⟩ = some (.int .u8 (g k)) := by have := T.cell k hN; rwa [Nat.zero_add] at this
  have HQ : Hid (∀ w0 : World, w0 = w → Calls Try.prog 13 #[.slice (some ⟨B, 0, none⟩) N N, .int .i64 k] w0 fun e w' => e = .returned (.tuple #[.int .i64 x, .int .i64 y]) ∧ Below w0.heap.size w0 w') := fun w0 e => by
    subst e; exact hq _ T
  have HBK : Hid (∀ w0 : World, Below w.heap.size w w0 → Calls Try.prog 26 #[.slice (some ⟨B, 0, none⟩) N N, .int .i64 k] w0 fun e w' => e = .returned (.int .i64 n) ∧ w' = w0) := fun w0 hb =>
    runFrom_any B 0 N N k n g w0 (by omega) hR (fun i hi => (hb.cell (p := ⟨B, 0 + i, none⟩) (World.block_lt_of_cell? _ _ (T.cell i hi))).trans (T.cell i hi))
  clear hR
  clear T hj hk h58
  clear hq
  generalize g k = c at ck hb
  rcases hb with rfl | rfl
  all_goals
    go_enter Try.func23, Try.ntmps23
    go_wp2_with fail
    refine (H1.out _ rfl).mono ?_
    rintro e w0 ⟨rfl, rfl⟩
    go_wp2_with fail
    refine (H2.out _ rfl).mono ?_
    rintro e w1 ⟨rfl, rfl⟩
    go_wp2_with fail
    refine (HQ.out _ rfl).mono ?_
    rintro e w2 ⟨rfl, hb1⟩
    have HB1 : Hid (Below w1.heap.size w1 w2) := hb1
    clear hb1
    go_wp2_with fail
    refine (HBK.out _ HB1.out).mono ?_
    rintro e w3 ⟨rfl, rfl⟩
    go_wp2_with fail
    go_ret2
    exact ⟨rfl, HB1.out⟩

set_option maxHeartbeats 1000000 in
set_option maxRecDepth 100000 in
theorem sp_w7a (B N i j k : Nat) (esc : Int) (g : Nat → Int) (w : World) (T : TextAt w B N g) (hi : i < N) (hj : Bl g N i j) (hjN : j < N) (h58 : g j = 58) (hk : Bl g N (j + 1) k) (hN : k < N) (hb : g k = 92 ∨ g k = 34) (x y : Int) (hq : Answers 13 B N k g x y) (he3 : (x == esc) = false) (hx : ¬ x < 0) :
    Calls Try.prog 23 #[.slice (some ⟨B, 0, none⟩) N N, .int .i64 i, .int .i64 esc] w fun e w' => e = .returned (.tuple #[.int .i64 k, .bool false]) ∧ Below w.heap.size w w' := by
  have hl := T.len
  have H1 : Hid (∀ w0 : World, w0 = w → Calls Try.prog 37 #[.slice (some ⟨B, 0, none⟩) N N, .int .i64 i] w0 fun e w' => e = .returned (.int .i64 j) ∧ w' = w0) := fun w0 e => by
    subst e; exact skip_any B N i j g _ T hj
  have H2 : Hid (∀ w0 : World, w0 = w → Calls Try.prog 37 #[.slice (some ⟨B, 0, none⟩) N N, .int .i64 ((j : Int) + 1)] w0 fun e w' => e = .returned (.int .i64 k) ∧ w' = w0) := fun w0 e => by
    subst e; exact skip_any B N (j + 1) k g _ T hk
  have he : ((j : Int) == (N : Int)) = false := beqf (by omega)
  have cj : w.cell? ⟨B, j, none⟩ = some (.int .u8 58) := by have := T.cell j hjN; rwa [Nat.zero_add, h58] at this
  have hkN := hk.2.1
  have he2 : ((k : Int) == (N : Int)) = false := beqf (by omega)
  have ck : w.cell? ⟨B, k, none⟩ = some (.int .u8 (g k)) := by have := T.cell k hN; rwa [Nat.zero_add] at this
  have HQ : Hid (∀ w0 : World, w0 = w → Calls Try.prog 13 #[.slice (some ⟨B, 0, none⟩) N N, .int .i64 k] w0 fun e w' => e = .returned (.tuple #[.int .i64 x, .int .i64 y]) ∧ Below w0.heap.size w0 w') := fun w0 e => by
    subst e; exact hq _ T
  clear T hj hk h58
  clear hq
  generalize g k = c at ck hb
  rcases hb with rfl | rfl
  all_goals
    go_enter Try.func23, Try.ntmps23
    go_wp2_with fail
    refine (H1.out _ rfl).mono ?_
    rintro e w0 ⟨rfl, rfl⟩
    go_wp2_with fail
    refine (H2.out _ rfl).mono ?_
    rintro e w1 ⟨rfl, rfl⟩
    go_wp2_with fail
    refine (HQ.out _ rfl).mono ?_
    rintro e w2 ⟨rfl, hb1⟩
    have HB1 : Hid (Below w1.heap.size w1 w2) := hb1
    clear hb1
    go_wp2_with fail
    go_ret2
    exact ⟨rfl, HB1.out⟩

set_option maxHeartbeats 1000000 in
set_option maxRecDepth 100000 in
theorem sp_w7b (B N i j k : Nat) (esc : Int) (g : Nat → Int) (w : World) (T : TextAt w B N g) (hi : i < N) (hj : Bl g N i j) (hjN : j < N) (h58 : g j = 58) (hk : Bl g N (j + 1) k) (hN : k < N) (hb : g k = 92 ∨ g k = 34) (x y : Int) (hq : Answers 13 B N k g x y) (he3 : (x == esc) = false) (hx : x < 0) (hy : (y == (N : Int)) = false) :
    Calls Try.prog 23 #[.slice (some ⟨B, 0, none⟩) N N, .int .i64 i, .int .i64 esc] w fun e w' => e = .returned (.tuple #[.int .i64 k, .bool false]) ∧ Below w.heap.size w w' := by
  have hl := T.len
  have H1 : Hid (∀ w0 : World, w0 = w → Calls Try.prog 37 #[.slice (some ⟨B, 0, none⟩) N N, .int .i64 i] w0 fun e w' => e = .returned (.int .i64 j) ∧ w' = w0) := fun w0 e => by
    subst e; exact skip_any B N i j g _ T hj
  have H2 : Hid (∀ w0 : World, w0 = w → Calls Try.prog 37 #[.slice (some ⟨B, 0, none⟩) N N, .int .i64 ((j : Int) + 1)] w0 fun e w' => e = .returned (.int .i64 k) ∧ w' = w0) := fun w0 e => by
    subst e; exact skip_any B N (j + 1) k g _ T hk
  have he : ((j : Int) == (N : Int)) = false := beqf (by omega)
  have cj : w.cell? ⟨B, j, none⟩ = some (.int .u8 58) := by have := T.cell j hjN; rwa [Nat.zero_add, h58] at this
  have hkN := hk.2.1
  have he2 : ((k : Int) == (N : Int)) = false := beqf (by omega)
  have ck : w.cell? ⟨B, k, none⟩ = some (.int .u8 (g k)) := by have := T.cell k hN; rwa [Nat.zero_add] at this
  have HQ : Hid (∀ w0 : World, w0 = w → Calls Try.prog 13 #[.slice (some ⟨B, 0, none⟩) N N, .int .i64 k] w0 fun e w' => e = .returned (.tuple #[.int .i64 x, .int .i64 y]) ∧ Below w0.heap.size w0 w') := fun w0 e => by
    subst e; exact hq _ T
  clear T hj hk h58
  clear hq
  generalize g k = c at ck hb
  rcases hb with rfl | rfl
  all_goals
    go_enter Try.func23, Try.ntmps23
    go_wp2_with fail
    refine (H1.out _ rfl).mono ?_
    rintro e w0 ⟨rfl, rfl⟩
    go_wp2_with fail
    refine (H2.out _ rfl).mono ?_
    rintro e w1 ⟨rfl, rfl⟩
    go_wp2_with fail
    refine (HQ.out _ rfl).mono ?_
    rintro e w2 ⟨rfl, hb1⟩
    have HB1 : Hid (Below w1.heap.size w1 w2) := hb1
    clear hb1
    go_wp2_with fail
    go_ret2
    exact ⟨rfl, HB1.out⟩

set_option maxHeartbeats 1000000 in
set_option maxRecDepth 100000 in
theorem sp_w7c (B N i j k : Nat) (esc : Int) (g : Nat → Int) (w : World) (T : TextAt w B N g) (hi : i < N) (hj : Bl g N i j) (hjN : j < N) (h58 : g j = 58) (hk : Bl g N (j + 1) k) (hN : k < N) (hb : g k = 92 ∨ g k = 34) (x y : Int) (hq : Answers 13 B N k g x y) (he3 : (x == esc) = false) (hx : x < 0) (hy : (y == (N : Int)) = true) (n : Nat) (hR : RunAt g N k n) (hn : ¬ (n : Int) ≤ esc) :
    Calls Try.prog 23 #[.slice (some ⟨B, 0, none⟩) N N, .int .i64 i, .int .i64 esc] w fun e w' => e = .returned (.tuple #[.int .i64 k, .bool false]) ∧ Below w.heap.size w w' := by
  have hl := T.len
  have H1 : Hid (∀ w0 : World, w0 = w → Calls Try.prog 37 #[.slice (some ⟨B, 0, none⟩) N N, .int .i64 i] w0 fun e w' => e = .returned (.int .i64 j) ∧ w' = w0) := fun w0 e => by
    subst e; exact skip_any B N i j g _ T hj
  have H2 : Hid (∀ w0 : World, w0 = w → Calls Try.prog 37 #[.slice (some ⟨B, 0, none⟩) N N, .int .i64 ((j : Int) + 1)] w0 fun e w' => e = .returned (.int .i64 k) ∧ w' = w0) := fun w0 e => by
    subst e; exact skip_any B N (j + 1) k g _ T hk
  have he : ((j : Int) == (N : Int)) = false := beqf (by omega)
  have cj : w.cell? ⟨B, j, none⟩ = some (.int .u8 58) := by have := T.cell j hjN; rwa [Nat.zero_add, h58] at this
  have hkN := hk.2.1
  have he2 : ((k : Int) == (N : Int)) = false := beqf (by omega)
  have ck : w.cell? ⟨B, k, none⟩ = some (.int .u8 (g k)) := by have := T.cell k hN; rwa [Nat.zero_add] at this
  have HQ : Hid (∀ w0 : World, w0 = w → Calls Try.prog 13 #[.slice (some ⟨B, 0, none⟩) N N, .int .i64 k] w0 fun e w' => e = .returned (.tuple #[.int .i64 x, .int .i64 y]) ∧ Below w0.heap.size w0 w') := fun w0 e => by
    subst e; exact hq _ T
  have HBK : Hid (∀ w0 : World, Below w.heap.size w w0 → Calls Try.prog 26 #[.slice (some ⟨B, 0, none⟩) N N, .int .i64 k] w0 fun e w' => e = .returned (.int .i64 n) ∧ w' = w0) := fun w0 hb =>
    runFrom_any B 0 N N k n g w0 (by omega) hR (fun i hi => (hb.cell (p := ⟨B, 0 + i, none⟩) (World.block_lt_of_cell? _ _ (T.cell i hi))).trans (T.cell i hi))
  clear hR
  clear T hj hk h58
  clear hq
  generalize g k = c at ck hb
  rcases hb with rfl | rfl
  all_goals
    go_enter Try.func23, Try.ntmps23
    go_wp2_with fail
    refine (H1.out _ rfl).mono ?_
    rintro e w0 ⟨rfl, rfl⟩
    go_wp2_with fail
    refine (H2.out _ rfl).mono ?_
    rintro e w1 ⟨rfl, rfl⟩
    go_wp2_with fail
    refine (HQ.out _ rfl).mono ?_
    rintro e w2 ⟨rfl, hb1⟩
    have HB1 : Hid (Below w1.heap.size w1 w2) := hb1
    clear hb1
    go_wp2_with fail
    refine (HBK.out _ HB1.out).mono ?_
    rintro e w3 ⟨rfl, rfl⟩
    go_wp2_with fail
    go_ret2
    exact ⟨rfl, HB1.out⟩

/-- ZZJSONValue hands jsonValue's answer on. -/
theorem zzj_of (a : Option Addr) (N cap : Nat) (i esc x : Int) (ok : Bool) (w : World) (h : Calls Try.prog 36 #[.slice a N cap, .int .i64 i, .int .i64 esc] w fun e w' => e = .returned (.tuple #[.int .i64 x, .bool ok]) ∧ Below w.heap.size w w') :
    Calls Try.prog 22 #[.slice a N cap, .int .i64 i, .int .i64 esc] w fun e w' => e = .returned (.tuple #[.int .i64 x, .bool ok]) ∧ Below w.heap.size w w' := by
  have H : Hid (Calls Try.prog 36 #[.slice a N cap, .int .i64 i, .int .i64 esc] w fun e w' => e = .returned (.tuple #[.int .i64 x, .bool ok]) ∧ Below w.heap.size w w') := h
  clear h
  go_enter Try.func22, Try.ntmps22
  go_wp2_with fail
  refine (Hid.out H).mono ?_
  rintro e w1 ⟨rfl, hb⟩
  have HB : Hid (Below w.heap.size w w1) := hb
  clear hb
  go_wp2_with fail
  go_ret2
  exact ⟨rfl, HB.out⟩

/-- Both answer the same, whatever i >= 0 and esc. -/
theorem json_both (B N : Nat) (i esc : Int) (g : Nat → Int) (hN : N ≤ 1048576) (hi : 0 ≤ i) :
    ∃ (x : Int) (ok : Bool), (∀ w, TextAt w B N g → Calls Try.prog 36 #[.slice (some ⟨B, 0, none⟩) N N, .int .i64 i, .int .i64 esc] w fun e w' => e = .returned (.tuple #[.int .i64 x, .bool ok]) ∧ Below w.heap.size w w') ∧
      (∀ w, TextAt w B N g → Calls Try.prog 23 #[.slice (some ⟨B, 0, none⟩) N N, .int .i64 i, .int .i64 esc] w fun e w' => e = .returned (.tuple #[.int .i64 x, .bool ok]) ∧ Below w.heap.size w w') := by
  obtain ⟨i, rfl⟩ := Int.eq_ofNat_of_zero_le hi
  by_cases hiN : i < N
  · obtain ⟨j, hj⟩ := Bl.ex g N i (by omega)
    by_cases hjN : j = N
    · exact ⟨j, false, fun w T => jv_w1 B N i j esc g w T hj hjN, fun w T => sp_w1 B N i j esc g w T hiN hj hjN⟩
    have hj2 := hj.2.1
    have hjlt : j < N := by omega
    by_cases h58 : g j = 58
    · obtain ⟨k, hk⟩ := Bl.ex g N (j + 1) (by omega)
      have hk2 := hk.2.1
      by_cases hkN : k = N
      · exact ⟨k, false, fun w T => jv_w3 B N i j k esc g w T hj hjlt h58 hk hkN, fun w T => sp_w3 B N i j k esc g w T hiN hj hjlt h58 hk hkN⟩
      have hklt : k < N := by omega
      by_cases hb : g k = 92 ∨ g k = 34
      · obtain ⟨n, hR⟩ := RunAt.ex g N k (by omega)
        obtain ⟨x, y, hq, hs⟩ := qa_both B N k n g hN hklt hb hR
        by_cases he : x = esc
        · exact ⟨y, true, fun w T => jv_w5 B N i j k esc g w T hj hjlt h58 hk hklt hb x y hq (beq_iff_eq.2 he), fun w T => sp_w5 B N i j k esc g w T hiN hj hjlt h58 hk hklt hb x y hs (beq_iff_eq.2 he)⟩
        by_cases hx : x < 0
        · by_cases hy : y = (N : Int)
          · by_cases hn : (n : Int) ≤ esc
            · exact ⟨N, false, fun w T => jv_w6 B N i j k esc g w T hj hjlt h58 hk hklt hb x y hq (beqf he) hx (beq_iff_eq.2 hy) n hR hn, fun w T => sp_w6 B N i j k esc g w T hiN hj hjlt h58 hk hklt hb x y hs (beqf he) hx (beq_iff_eq.2 hy) n hR hn⟩
            · exact ⟨k, false, fun w T => jv_w7c B N i j k esc g w T hj hjlt h58 hk hklt hb x y hq (beqf he) hx (beq_iff_eq.2 hy) n hR hn, fun w T => sp_w7c B N i j k esc g w T hiN hj hjlt h58 hk hklt hb x y hs (beqf he) hx (beq_iff_eq.2 hy) n hR hn⟩
          · exact ⟨k, false, fun w T => jv_w7b B N i j k esc g w T hj hjlt h58 hk hklt hb x y hq (beqf he) hx (beqf hy), fun w T => sp_w7b B N i j k esc g w T hiN hj hjlt h58 hk hklt hb x y hs (beqf he) hx (beqf hy)⟩
        · exact ⟨k, false, fun w T => jv_w7a B N i j k esc g w T hj hjlt h58 hk hklt hb x y hq (beqf he) hx, fun w T => sp_w7a B N i j k esc g w T hiN hj hjlt h58 hk hklt hb x y hs (beqf he) hx⟩
      · have h92 : g k ≠ 92 := fun h => hb (Or.inl h)
        have h34 : g k ≠ 34 := fun h => hb (Or.inr h)
        exact ⟨k, false, fun w T => jv_w4 B N i j k esc g w T hj hjlt h58 hk hklt h92 h34, fun w T => sp_w4 B N i j k esc g w T hiN hj hjlt h58 hk hklt h92 h34⟩
    · exact ⟨j, false, fun w T => jv_w2 B N i j esc g w T hj hjlt h58, fun w T => sp_w2 B N i j esc g w T hiN hj hjlt h58⟩
  · exact ⟨i, false, fun w T => jv_out _ N N i esc w hN (by omega), fun w T => sp_out _ N N i esc w hN (by omega)⟩
end Go.Proofs.Qxb6603303a
