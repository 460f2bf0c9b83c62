/-
  The walks of zzSkipBlanks (37), jsonValue (36), zzSpecJSONValue (23), ZZJSONValue (22), by their ways.
-/
import Derived.Test.Qxb6603303aBoth
namespace Go.Proofs.Qxb6603303a
open Go.RowKit
set_option linter.unusedVariables false

def blank (c : Int) : Bool := c == 32 || c == 9
/-- From i on stand blanks up to j, and no further. -/
def Bl (g : Nat → Int) (N i j : Nat) : Prop := i ≤ j ∧ j ≤ N ∧ (∀ p, i ≤ p → p < j → blank (g p) = true) ∧ (j < N → blank (g j) = false)

theorem Bl.ex (g : Nat → Int) (N i : Nat) (h : i ≤ N) : ∃ j, Bl g N i j := by
  obtain ⟨d, hd⟩ : ∃ d, N = i + d := ⟨N - i, by omega⟩
  induction d generalizing i with
  | zero => exact ⟨i, by omega, by omega, fun p h1 h2 => by omega, fun hk => by omega⟩
  | succ d ih =>
    cases hb : blank (g i)
    · exact ⟨i, by omega, by omega, fun p h1 h2 => by omega, fun _ => hb⟩
    · obtain ⟨j, h1, h2, h3, h4⟩ := ih (i + 1) (by omega) (by omega)
      refine ⟨j, by omega, h2, fun p hp1 hp2 => ?_, h4⟩
      by_cases e : p = i
      · rw [e]; exact hb
      · exact h3 p (by omega) hp2

theorem blank_true {c : Int} (h : blank c = true) : c = 32 ∨ ((c == 32) = false ∧ c = 9) := by
  unfold blank at h
  rw [Bool.or_eq_true, beq_iff_eq, beq_iff_eq] at h
  by_cases e : c = 32
  · exact Or.inl e
  · exact Or.inr ⟨beqf e, by rcases h with h | h; exact absurd h e; exact h⟩
theorem blank_false {c : Int} (h : blank c = false) : (c == 32) = false ∧ (c == 9) = false := by
  unfold blank at h
  rw [Bool.or_eq_false_iff] at h
  exact h

set_option maxHeartbeats 1000000 in
theorem skip_any (B N i j : Nat) (g : Nat → Int) (w : World) (T : TextAt w B N g) (h : Bl g N i j) :
    Calls Try.prog 37 #[.slice (some ⟨B, 0, none⟩) N N, .int .i64 i] w fun e w' => e = .returned (.int .i64 j) ∧ w' = w := by
  have HC : Hid (∀ i, i < N → w.cell? ⟨B, 0 + i, none⟩ = some (.int .u8 (g i))) := T.cell
  have hl := T.len
  obtain ⟨h1, h2, h3, h4⟩ := h
  have H3 : Hid (∀ p, i ≤ p → p < j → blank (g p) = true) := h3
  have H4 : Hid (j < N → blank (g j) = false) := h4
  clear T h3 h4
  go_enter Try.func37, Try.ntmps37
  go_wp2_with fail
  go_loop [1] (fun v => ∃ p : Nat, i ≤ p ∧ p ≤ j ∧ v = .int .i64 p) (fun v => j - (intOf v).toNat)
  case atStart => exact ⟨i, Nat.le_refl _, h1, rfl⟩
  case round =>
    obtain ⟨p, hp1, hp2, rfl⟩ := hrel
    by_cases hlt : p < j
    · have c1 : w.cell? ⟨B, p, none⟩ = some (.int .u8 (g p)) := by have := HC.out p (by omega); rwa [Nat.zero_add] at this
      have hin : p < N := by omega
      have hb := H3.out p hp1 hlt
      generalize g p = x at c1 hb
      rcases blank_true hb with rfl | ⟨hx, rfl⟩
      all_goals
        clear hb
        go_wp2_with fail
        go_round
        case rel => exact ⟨p + 1, by omega, by omega, by go_num⟩
        case measure => simp [intOf]; omega
    · have hpj : p = j := by omega
      subst hpj
      by_cases hN : p < N
      · have c1 : w.cell? ⟨B, p, none⟩ = some (.int .u8 (g p)) := by have := HC.out p (by omega); rwa [Nat.zero_add] at this
        obtain ⟨b1, b2⟩ := blank_false (H4.out hN)
        generalize g p = x at c1 b1 b2
        go_wp2_with fail
        go_ret
        exact ⟨rfl, rfl⟩
      · go_wp2_with fail
        go_ret
        exact ⟨rfl, rfl⟩
/-! ### jsonValue -/
theorem jv_out (a : Option Addr) (N cap : Nat) (i esc : Int) (w : World) (hN : N ≤ 1048576) (h : (N : Int) ≤ i) :
    Calls Try.prog 36 #[.slice a N cap, .int .i64 i, .int .i64 esc] w fun e w' => e = .returned (.tuple #[.int .i64 i, .bool false]) ∧ Below w.heap.size w w' := by
  go_enter Try.func36, Try.ntmps36
  go_wp2_with fail
  go_loop [1, 8] (fun v c => v = .int .i64 i ∧ c = .bool false) (fun _ _ => 0)
  case atStart => exact ⟨rfl, rfl⟩
  case round =>
    obtain ⟨rfl, rfl⟩ := hrel
    go_wp2_with fail
    go_ret2
    exact ⟨rfl, Below.refl _ _⟩

set_option maxHeartbeats 1000000 in
set_option maxRecDepth 100000 in
/-- W1: blanks to the end. -/
theorem jv_w1 (B N i j : Nat) (esc : Int) (g : Nat → Int) (w : World) (T : TextAt w B N g) (hj : Bl g N i j) (hN : j = N) :
    Calls Try.prog 36 #[.slice (some ⟨B, 0, none⟩) N N, .int .i64 i, .int .i64 esc] w fun e w' => e = .returned (.tuple #[.int .i64 j, .bool false]) ∧ Below w.heap.size w w' := by
  have HC : Hid (∀ i, i < N → w.cell? ⟨B, 0 + i, none⟩ = some (.int .u8 (g i))) := T.cell
  have hl := T.len
  obtain ⟨h1, h2, h3, h4⟩ := hj
  have H3 : Hid (∀ p, i ≤ p → p < j → blank (g p) = true) := h3
  have H4 : Hid (j < N → blank (g j) = false) := h4
  clear h3 h4
  clear T
  go_enter Try.func36, Try.ntmps36
  go_wp2_with fail
  go_loop [1, 8] (fun v c => ∃ p : Nat, i ≤ p ∧ p ≤ j ∧ v = .int .i64 p ∧ c = .bool false) (fun v _ => j - (intOf v).toNat)
  case atStart => exact ⟨i, Nat.le_refl _, h1, rfl, rfl⟩
  case round =>
    obtain ⟨p, hp1, hp2, rfl, rfl⟩ := hrel
    by_cases hlt : p < j
    · have c1 : w.cell? ⟨B, p, none⟩ = some (.int .u8 (g p)) := by have := HC.out p (by omega); rwa [Nat.zero_add] at this
      have hin : p < N := by omega
      have hb := H3.out p hp1 hlt
      generalize g p = x at c1 hb
      rcases blank_true hb with rfl | ⟨hx, rfl⟩
      all_goals
        clear hb
        go_wp2_with fail
        go_round
        case rel => exact ⟨p + 1, by omega, by omega, by go_num, rfl⟩
        case measure => simp [intOf]; omega
    · have hpj : p = j := by omega
      subst hpj
      go_wp2_with fail
      go_ret2
      exact ⟨rfl, Below.refl _ _⟩

set_option maxHeartbeats 1000000 in
set_option maxRecDepth 100000 in
/-- W2: no colon behind the blanks. -/
theorem jv_w2 (B N i j : Nat) (esc : Int) (g : Nat → Int) (w : World) (T : TextAt w B N g) (hj : Bl g N i j) (hN : j < N) (h58 : g j ≠ 58) :
    Calls Try.prog 36 #[.slice (some ⟨B, 0, none⟩) N N, .int .i64 i, .int .i64 esc] w fun e w' => e = .returned (.tuple #[.int .i64 j, .bool false]) ∧ Below w.heap.size w w' := by
  have HC : Hid (∀ i, i < N → w.cell? ⟨B, 0 + i, none⟩ = some (.int .u8 (g i))) := T.cell
  have hl := T.len
  obtain ⟨h1, h2, h3, h4⟩ := hj
  have H3 : Hid (∀ p, i ≤ p → p < j → blank (g p) = true) := h3
  have H4 : Hid (j < N → blank (g j) = false) := h4
  clear h3 h4
  clear T
  go_enter Try.func36, Try.ntmps36
  go_wp2_with fail
  go_loop [1, 8] (fun v c => ∃ p : Nat, i ≤ p ∧ p ≤ j ∧ v = .int .i64 p ∧ c = .bool false) (fun v _ => j - (intOf v).toNat)
  case atStart => exact ⟨i, Nat.le_refl _, h1, rfl, rfl⟩
  case round =>
    obtain ⟨p, hp1, hp2, rfl, rfl⟩ := hrel
    by_cases hlt : p < j
    · have c1 : w.cell? ⟨B, p, none⟩ = some (.int .u8 (g p)) := by have := HC.out p (by omega); rwa [Nat.zero_add] at this
      have hin : p < N := by omega
      have hb := H3.out p hp1 hlt
      generalize g p = x at c1 hb
      rcases blank_true hb with rfl | ⟨hx, rfl⟩
      all_goals
        clear hb
        go_wp2_with fail
        go_round
        case rel => exact ⟨p + 1, by omega, by omega, by go_num, rfl⟩
        case measure => simp [intOf]; omega
    · have hpj : p = j := by omega
      subst hpj
      have c1 : w.cell? ⟨B, p, none⟩ = some (.int .u8 (g p)) := by have := HC.out p (by omega); rwa [Nat.zero_add] at this
      obtain ⟨b1, b2⟩ := blank_false (H4.out hN)
      have b3 : (g p == 58) = false := beqf h58
      clear h58
      generalize g p = x at c1 b1 b2 b3
      go_wp2_with fail
      go_ret2
      exact ⟨rfl, Below.refl _ _⟩

set_option maxHeartbeats 2000000 in
set_option maxRecDepth 100000 in
/-- W3: a colon, then blanks to the end. -/
theorem jv_w3 (B N i j k : Nat) (esc : Int) (g : Nat → Int) (w : World) (T : TextAt w B N g) (hj : Bl g N i j) (hjN : j < N) (h58 : g j = 58) (hk : Bl g N (j + 1) k) (hN : k = N) :
    Calls Try.prog 36 #[.slice (some ⟨B, 0, none⟩) N N, .int .i64 i, .int .i64 esc] w fun e w' => e = .returned (.tuple #[.int .i64 k, .bool false]) ∧ Below w.heap.size w w' := by
  have HC : Hid (∀ i, i < N → w.cell? ⟨B, 0 + i, none⟩ = some (.int .u8 (g i))) := T.cell
  have hl := T.len
  obtain ⟨h1, h2, h3, h4⟩ := hj
  have H3 : Hid (∀ p, i ≤ p → p < j → blank (g p) = true) := h3
  have H4 : Hid (j < N → blank (g j) = false) := h4
  clear h3 h4
  obtain ⟨k1, k2, k3, k4⟩ := hk
  have K3 : Hid (∀ p, j + 1 ≤ p → p < k → blank (g p) = true) := k3
  have K4 : Hid (k < N → blank (g k) = false) := k4
  clear k3 k4
  have cj : w.cell? ⟨B, j, none⟩ = some (.int .u8 58) := by have := HC.out j hjN; rwa [Nat.zero_add, h58] at this
  clear T h58
  go_enter Try.func36, Try.ntmps36
  go_wp2_with fail
  go_loop [1, 8] (fun v c => (∃ p : Nat, i ≤ p ∧ p ≤ j ∧ v = .int .i64 p ∧ c = .bool false) ∨ (∃ p : Nat, j + 1 ≤ p ∧ p ≤ k ∧ v = .int .i64 p ∧ c = .bool true)) (fun v _ => N + 1 - (intOf v).toNat)
  case atStart => exact Or.inl ⟨i, Nat.le_refl _, h1, rfl, rfl⟩
  case round =>
    rcases hrel with ⟨p, hp1, hp2, rfl, rfl⟩ | ⟨p, hp1, hp2, rfl, rfl⟩
    · by_cases hlt : p < j
      · have c1 : w.cell? ⟨B, p, none⟩ = some (.int .u8 (g p)) := by have := HC.out p (by omega); rwa [Nat.zero_add] at this
        have hin : p < N := by omega
        have hb := H3.out p hp1 hlt
        generalize g p = x at c1 hb
        rcases blank_true hb with rfl | ⟨hx, rfl⟩
        all_goals
          clear hb
          go_wp2_with fail
          go_round
          case rel => exact Or.inl ⟨p + 1, by omega, by omega, by go_num, rfl⟩
          case measure => simp [intOf]; omega
      · have hpj : p = j := by omega
        subst hpj
        go_wp2_with fail
        go_round
        case rel => exact Or.inr ⟨p + 1, by omega, by omega, by go_num, rfl⟩
        case measure => simp [intOf]; omega
    · by_cases hlt : p < k
      · clear cj
        have c1 : w.cell? ⟨B, p, none⟩ = some (.int .u8 (g p)) := by have := HC.out p (by omega); rwa [Nat.zero_add] at this
        have hin : p < N := by omega
        have hb := K3.out p hp1 hlt
        generalize g p = x at c1 hb
        rcases blank_true hb with rfl | ⟨hx, rfl⟩
        all_goals
          clear hb
          go_wp2_with fail
          go_round
          case rel => exact Or.inr ⟨p + 1, by omega, by omega, by go_num, rfl⟩
          case measure => simp [intOf]; omega
      · have hpk : p = k := by omega
        subst hpk
        clear cj
        go_wp2_with fail
        go_ret2
        exact ⟨rfl, Below.refl _ _⟩

set_option maxHeartbeats 2000000 in
set_option maxRecDepth 100000 in
/-- W4: behind the colon neither a backslash nor a quote. -/
theorem jv_w4 (B N i j k : Nat) (esc : Int) (g : Nat → Int) (w : World) (T : TextAt w B N g) (hj : Bl g N i j) (hjN : j < N) (h58 : g j = 58) (hk : Bl g N (j + 1) k) (hN : k < N) (h92 : g k ≠ 92) (h34 : g k ≠ 34) :
    Calls Try.prog 36 #[.slice (some ⟨B, 0, none⟩) N N, .int .i64 i, .int .i64 esc] w fun e w' => e = .returned (.tuple #[.int .i64 k, .bool false]) ∧ Below w.heap.size w w' := by
  have HC : Hid (∀ i, i < N → w.cell? ⟨B, 0 + i, none⟩ = some (.int .u8 (g i))) := T.cell
  have hl := T.len
  obtain ⟨h1, h2, h3, h4⟩ := hj
  have H3 : Hid (∀ p, i ≤ p → p < j → blank (g p) = true) := h3
  have H4 : Hid (j < N → blank (g j) = false) := h4
  clear h3 h4
  obtain ⟨k1, k2, k3, k4⟩ := hk
  have K3 : Hid (∀ p, j + 1 ≤ p → p < k → blank (g p) = true) := k3
  have K4 : Hid (k < N → blank (g k) = false) := k4
  clear k3 k4
  have cj : w.cell? ⟨B, j, none⟩ = some (.int .u8 58) := by have := HC.out j hjN; rwa [Nat.zero_add, h58] at this
  have ck : w.cell? ⟨B, k, none⟩ = some (.int .u8 (g k)) := by have := HC.out k hN; rwa [Nat.zero_add] at this
  have b3 : (g k == 92) = false := beqf h92
  have b4 : (g k == 34) = false := beqf h34
  clear T h58
  go_enter Try.func36, Try.ntmps36
  go_wp2_with fail
  go_loop [1, 8] (fun v c => (∃ p : Nat, i ≤ p ∧ p ≤ j ∧ v = .int .i64 p ∧ c = .bool false) ∨ (∃ p : Nat, j + 1 ≤ p ∧ p ≤ k ∧ v = .int .i64 p ∧ c = .bool true)) (fun v _ => N + 1 - (intOf v).toNat)
  case atStart => exact Or.inl ⟨i, Nat.le_refl _, h1, rfl, rfl⟩
  case round =>
    rcases hrel with ⟨p, hp1, hp2, rfl, rfl⟩ | ⟨p, hp1, hp2, rfl, rfl⟩
    · by_cases hlt : p < j
      · have c1 : w.cell? ⟨B, p, none⟩ = some (.int .u8 (g p)) := by have := HC.out p (by omega); rwa [Nat.zero_add] at this
        have hin : p < N := by omega
        have hb := H3.out p hp1 hlt
        generalize g p = x at c1 hb
        rcases blank_true hb with rfl | ⟨hx, rfl⟩
        all_goals
          clear hb
          go_wp2_with fail
          go_round
          case rel => exact Or.inl ⟨p + 1, by omega, by omega, by go_num, rfl⟩
          case measure => simp [intOf]; omega
      · have hpj : p = j := by omega
        subst hpj
        go_wp2_with fail
        go_round
        case rel => exact Or.inr ⟨p + 1, by omega, by omega, by go_num, rfl⟩
        case measure => simp [intOf]; omega
    · by_cases hlt : p < k
      · clear cj
        have c1 : w.cell? ⟨B, p, none⟩ = some (.int .u8 (g p)) := by have := HC.out p (by omega); rwa [Nat.zero_add] at this
        have hin : p < N := by omega
        have hb := K3.out p hp1 hlt
        generalize g p = x at c1 hb
        rcases blank_true hb with rfl | ⟨hx, rfl⟩
        all_goals
          clear hb
          go_wp2_with fail
          go_round
          case rel => exact Or.inr ⟨p + 1, by omega, by omega, by go_num, rfl⟩
          case measure => simp [intOf]; omega
      · have hpk : p = k := by omega
        subst hpk
        clear cj
        obtain ⟨b1, b2⟩ := blank_false (K4.out hN)
        clear h92 h34
        generalize g p = x at ck b1 b2 b3 b4
        by_cases h5 : x = 58
        · subst h5
          go_wp2_with fail
          go_ret2
          exact ⟨rfl, Below.refl _ _⟩
        · have b5 : (x == 58) = false := beqf h5
          go_wp2_with fail
          go_ret2
          exact ⟨rfl, Below.refl _ _⟩

set_option maxHeartbeats 2000000 in
set_option maxRecDepth 100000 in
/-- W5: the quote with the escape that is asked for. -/
theorem jv_w5 (B N i j k : Nat) (esc : Int) (g : Nat → Int) (w : World) (T : TextAt w B N g) (hj : Bl g N i j) (hjN : j < N) (h58 : g j = 58) (hk : Bl g N (j + 1) k) (hN : k < N) (hb : g k = 92 ∨ g k = 34) (x y : Int) (hq : Answers 25 B N k g x y) (he : (x == esc) = true) :
    Calls Try.prog 36 #[.slice (some ⟨B, 0, none⟩) N N, .int .i64 i, .int .i64 esc] w fun e w' => e = .returned (.tuple #[.int .i64 y, .bool true]) ∧ Below w.heap.size w w' := by
  have HC : Hid (∀ i, i < N → w.cell? ⟨B, 0 + i, none⟩ = some (.int .u8 (g i))) := T.cell
  have hl := T.len
  obtain ⟨h1, h2, h3, h4⟩ := hj
  have H3 : Hid (∀ p, i ≤ p → p < j → blank (g p) = true) := h3
  have H4 : Hid (j < N → blank (g j) = false) := h4
  clear h3 h4
  obtain ⟨k1, k2, k3, k4⟩ := hk
  have K3 : Hid (∀ p, j + 1 ≤ p → p < k → blank (g p) = true) := k3
  have K4 : Hid (k < N → blank (g k) = false) := k4
  clear k3 k4
  have cj : w.cell? ⟨B, j, none⟩ = some (.int .u8 58) := by have := HC.out j hjN; rwa [Nat.zero_add, h58] at this
  have ck : w.cell? ⟨B, k, none⟩ = some (.int .u8 (g k)) := by have := HC.out k hN; rwa [Nat.zero_add] at this
  have HQ : Hid (∀ w0 : World, w0 = w → Calls Try.prog 25 #[.slice (some ⟨B, 0, none⟩) N N, .int .i64 k] w0 fun e w' => e = .returned (.tuple #[.int .i64 x, .int .i64 y]) ∧ Below w0.heap.size w0 w') := fun w0 e => by
    subst e; exact hq _ T
  clear hq
  clear T h58
  go_enter Try.func36, Try.ntmps36
  go_wp2_with fail
  go_loop [1, 8] (fun v c => (∃ p : Nat, i ≤ p ∧ p ≤ j ∧ v = .int .i64 p ∧ c = .bool false) ∨ (∃ p : Nat, j + 1 ≤ p ∧ p ≤ k ∧ v = .int .i64 p ∧ c = .bool true)) (fun v _ => N + 1 - (intOf v).toNat)
  case atStart => exact Or.inl ⟨i, Nat.le_refl _, h1, rfl, rfl⟩
  case round =>
    rcases hrel with ⟨p, hp1, hp2, rfl, rfl⟩ | ⟨p, hp1, hp2, rfl, rfl⟩
    · by_cases hlt : p < j
      · have c1 : w.cell? ⟨B, p, none⟩ = some (.int .u8 (g p)) := by have := HC.out p (by omega); rwa [Nat.zero_add] at this
        have hin : p < N := by omega
        have hb := H3.out p hp1 hlt
        generalize g p = x at c1 hb
        rcases blank_true hb with rfl | ⟨hx, rfl⟩
        all_goals
          clear hb
          go_wp2_with fail
          go_round
          case rel => exact Or.inl ⟨p + 1, by omega, by omega, by go_num, rfl⟩
          case measure => simp [intOf]; omega
      · have hpj : p = j := by omega
        subst hpj
        go_wp2_with fail
        go_round
        case rel => exact Or.inr ⟨p + 1, by omega, by omega, by go_num, rfl⟩
        case measure => simp [intOf]; omega
    · by_cases hlt : p < k
      · clear cj
        have c1 : w.cell? ⟨B, p, none⟩ = some (.int .u8 (g p)) := by have := HC.out p (by omega); rwa [Nat.zero_add] at this
        have hin : p < N := by omega
        have hb := K3.out p hp1 hlt
        generalize g p = x at c1 hb
        rcases blank_true hb with rfl | ⟨hx, rfl⟩
        all_goals
          clear hb
          go_wp2_with fail
          go_round
          case rel => exact Or.inr ⟨p + 1, by omega, by omega, by go_num, rfl⟩
          case measure => simp [intOf]; omega
      · have hpk : p = k := by omega
        subst hpk
        clear cj
        generalize g p = c at ck hb
        rcases hb with rfl | rfl
        all_goals
          go_wp2_with fail
          refine (HQ.out _ rfl).mono ?_
          rintro e w1 ⟨rfl, hb1⟩
          have HB1 : Hid (Below w.heap.size w w1) := hb1
          clear hb1
          go_wp2_with fail
          go_ret2
          exact ⟨rfl, HB1.out⟩

set_option maxHeartbeats 2000000 in
set_option maxRecDepth 100000 in
/-- W6: the text ends first. -/
theorem jv_w6 (B N i j k : Nat) (esc : Int) (g : Nat → Int) (w : World) (T : TextAt w B N g) (hj : Bl g N i j) (hjN : j < N) (h58 : g j = 58) (hk : Bl g N (j + 1) k) (hN : k < N) (hb : g k = 92 ∨ g k = 34) (x y : Int) (hq : Answers 25 B N k g x y) (he : (x == esc) = false) (hx : x < 0) (hy : (y == (N : Int)) = true) (n : Nat) (hR : RunAt g N k n) (hn : (n : Int) ≤ esc) :
    Calls Try.prog 36 #[.slice (some ⟨B, 0, none⟩) N N, .int .i64 i, .int .i64 esc] w fun e w' => e = .returned (.tuple #[.int .i64 N, .bool false]) ∧ Below w.heap.size w w' := by
  have HC : Hid (∀ i, i < N → w.cell? ⟨B, 0 + i, none⟩ = some (.int .u8 (g i))) := T.cell
  have hl := T.len
  obtain ⟨h1, h2, h3, h4⟩ := hj
  have H3 : Hid (∀ p, i ≤ p → p < j → blank (g p) = true) := h3
  have H4 : Hid (j < N → blank (g j) = false) := h4
  clear h3 h4
  obtain ⟨k1, k2, k3, k4⟩ := hk
  have K3 : Hid (∀ p, j + 1 ≤ p → p < k → blank (g p) = true) := k3
  have K4 : Hid (k < N → blank (g k) = false) := k4
  clear k3 k4
  have cj : w.cell? ⟨B, j, none⟩ = some (.int .u8 58) := by have := HC.out j hjN; rwa [Nat.zero_add, h58] at this
  have ck : w.cell? ⟨B, k, none⟩ = some (.int .u8 (g k)) := by have := HC.out k hN; rwa [Nat.zero_add] at this
  have HQ : Hid (∀ w0 : World, w0 = w → Calls Try.prog 25 #[.slice (some ⟨B, 0, none⟩) N N, .int .i64 k] w0 fun e w' => e = .returned (.tuple #[.int .i64 x, .int .i64 y]) ∧ Below w0.heap.size w0 w') := fun w0 e => by
    subst e; exact hq _ T
  have HBK : Hid (∀ w0 : World, Below w.heap.size w w0 → Calls Try.prog 38 #[.slice (some ⟨B, 0, none⟩) N N, .int .i64 k] w0 fun e w' => e = .returned (.int .i64 n) ∧ w' = w0) := fun w0 hb =>
    backs_any B 0 N N k n g w0 (by omega) hR (fun i hi => (hb.cell (p := ⟨B, 0 + i, none⟩) (World.block_lt_of_cell? _ _ (T.cell i hi))).trans (T.cell i hi))
  clear hq hR
  clear T h58
  go_enter Try.func36, Try.ntmps36
  go_wp2_with fail
  go_loop [1, 8] (fun v c => (∃ p : Nat, i ≤ p ∧ p ≤ j ∧ v = .int .i64 p ∧ c = .bool false) ∨ (∃ p : Nat, j + 1 ≤ p ∧ p ≤ k ∧ v = .int .i64 p ∧ c = .bool true)) (fun v _ => N + 1 - (intOf v).toNat)
  case atStart => exact Or.inl ⟨i, Nat.le_refl _, h1, rfl, rfl⟩
  case round =>
    rcases hrel with ⟨p, hp1, hp2, rfl, rfl⟩ | ⟨p, hp1, hp2, rfl, rfl⟩
    · by_cases hlt : p < j
      · have c1 : w.cell? ⟨B, p, none⟩ = some (.int .u8 (g p)) := by have := HC.out p (by omega); rwa [Nat.zero_add] at this
        have hin : p < N := by omega
        have hb := H3.out p hp1 hlt
        generalize g p = x at c1 hb
        rcases blank_true hb with rfl | ⟨hx, rfl⟩
        all_goals
          clear hb
          go_wp2_with fail
          go_round
          case rel => exact Or.inl ⟨p + 1, by omega, by omega, by go_num, rfl⟩
          case measure => simp [intOf]; omega
      · have hpj : p = j := by omega
        subst hpj
        go_wp2_with fail
        go_round
        case rel => exact Or.inr ⟨p + 1, by omega, by omega, by go_num, rfl⟩
        case measure => simp [intOf]; omega
    · by_cases hlt : p < k
      · clear cj
        have c1 : w.cell? ⟨B, p, none⟩ = some (.int .u8 (g p)) := by have := HC.out p (by omega); rwa [Nat.zero_add] at this
        have hin : p < N := by omega
        have hb := K3.out p hp1 hlt
        generalize g p = x at c1 hb
        rcases blank_true hb with rfl | ⟨hx, rfl⟩
        all_goals
          clear hb
          go_wp2_with fail
          go_round
          case rel => exact Or.inr ⟨p + 1, by omega, by omega, by go_num, rfl⟩
          case measure => simp [intOf]; omega
      · have hpk : p = k := by omega
        subst hpk
        clear cj
        generalize g p = c at ck hb
        rcases hb with rfl | rfl
        all_goals
          go_wp2_with fail
          refine (HQ.out _ rfl).mono ?_
          rintro e w1 ⟨rfl, hb1⟩
          have HB1 : Hid (Below w.heap.size w w1) := hb1
          clear hb1
          go_wp2_with fail
          refine (HBK.out _ HB1.out).mono ?_
          rintro e w2 ⟨rfl, rfl⟩
          go_wp2_with fail
          go_ret2
          exact ⟨rfl, HB1.out⟩

set_option maxHeartbeats 2000000 in
set_option maxRecDepth 100000 in
/-- W7: another quote. -/
theorem jv_w7a (B N i j k : Nat) (esc : Int) (g : Nat → Int) (w : World) (T : TextAt w B N g) (hj : Bl g N i j) (hjN : j < N) (h58 : g j = 58) (hk : Bl g N (j + 1) k) (hN : k < N) (hb : g k = 92 ∨ g k = 34) (x y : Int) (hq : Answers 25 B N k g x y) (he : (x == esc) = false) (hx : ¬ x < 0) :
    Calls Try.prog 36 #[.slice (some ⟨B, 0, none⟩) N N, .int .i64 i, .int .i64 esc] w fun e w' => e = .returned (.tuple #[.int .i64 k, .bool false]) ∧ Below w.heap.size w w' := by
  have HC : Hid (∀ i, i < N → w.cell? ⟨B, 0 + i, none⟩ = some (.int .u8 (g i))) := T.cell
  have hl := T.len
  obtain ⟨h1, h2, h3, h4⟩ := hj
  have H3 : Hid (∀ p, i ≤ p → p < j → blank (g p) = true) := h3
  have H4 : Hid (j < N → blank (g j) = false) := h4
  clear h3 h4
  obtain ⟨k1, k2, k3, k4⟩ := hk
  have K3 : Hid (∀ p, j + 1 ≤ p → p < k → blank (g p) = true) := k3
  have K4 : Hid (k < N → blank (g k) = false) := k4
  clear k3 k4
  have cj : w.cell? ⟨B, j, none⟩ = some (.int .u8 58) := by have := HC.out j hjN; rwa [Nat.zero_add, h58] at this
  have ck : w.cell? ⟨B, k, none⟩ = some (.int .u8 (g k)) := by have := HC.out k hN; rwa [Nat.zero_add] at this
  have HQ : Hid (∀ w0 : World, w0 = w → Calls Try.prog 25 #[.slice (some ⟨B, 0, none⟩) N N, .int .i64 k] w0 fun e w' => e = .returned (.tuple #[.int .i64 x, .int .i64 y]) ∧ Below w0.heap.size w0 w') := fun w0 e => by
    subst e; exact hq _ T
  clear hq
  clear T h58
  go_enter Try.func36, Try.ntmps36
  go_wp2_with fail
  go_loop [1, 8] (fun v c => (∃ p : Nat, i ≤ p ∧ p ≤ j ∧ v = .int .i64 p ∧ c = .bool false) ∨ (∃ p : Nat, j + 1 ≤ p ∧ p ≤ k ∧ v = .int .i64 p ∧ c = .bool true)) (fun v _ => N + 1 - (intOf v).toNat)
  case atStart => exact Or.inl ⟨i, Nat.le_refl _, h1, rfl, rfl⟩
  case round =>
    rcases hrel with ⟨p, hp1, hp2, rfl, rfl⟩ | ⟨p, hp1, hp2, rfl, rfl⟩
    · by_cases hlt : p < j
      · have c1 : w.cell? ⟨B, p, none⟩ = some (.int .u8 (g p)) := by have := HC.out p (by omega); rwa [Nat.zero_add] at this
        have hin : p < N := by omega
        have hb := H3.out p hp1 hlt
        generalize g p = x at c1 hb
        rcases blank_true hb with rfl | ⟨hx, rfl⟩
        all_goals
          clear hb
          go_wp2_with fail
          go_round
          case rel => exact Or.inl ⟨p + 1, by omega, by omega, by go_num, rfl⟩
          case measure => simp [intOf]; omega
      · have hpj : p = j := by omega
        subst hpj
        go_wp2_with fail
        go_round
        case rel => exact Or.inr ⟨p + 1, by omega, by omega, by go_num, rfl⟩
        case measure => simp [intOf]; omega
    · by_cases hlt : p < k
      · clear cj
        have c1 : w.cell? ⟨B, p, none⟩ = some (.int .u8 (g p)) := by have := HC.out p (by omega); rwa [Nat.zero_add] at this
        have hin : p < N := by omega
        have hb := K3.out p hp1 hlt
        generalize g p = x at c1 hb
        rcases blank_true hb with rfl | ⟨hx, rfl⟩
        all_goals
          clear hb
          go_wp2_with fail
          go_round
          case rel => exact Or.inr ⟨p + 1, by omega, by omega, by go_num, rfl⟩
          case measure => simp [intOf]; omega
      · have hpk : p = k := by omega
        subst hpk
        clear cj
        generalize g p = c at ck hb
        rcases hb with rfl | rfl
        all_goals
          go_wp2_with fail
          refine (HQ.out _ rfl).mono ?_
          rintro e w1 ⟨rfl, hb1⟩
          have HB1 : Hid (Below w.heap.size w w1) := hb1
          clear hb1
          go_wp2_with fail
          go_ret2
          exact ⟨rfl, HB1.out⟩

set_option maxHeartbeats 2000000 in
set_option maxRecDepth 100000 in
/-- W7: refused. -/
theorem jv_w7b (B N i j k : Nat) (esc : Int) (g : Nat → Int) (w : World) (T : TextAt w B N g) (hj : Bl g N i j) (hjN : j < N) (h58 : g j = 58) (hk : Bl g N (j + 1) k) (hN : k < N) (hb : g k = 92 ∨ g k = 34) (x y : Int) (hq : Answers 25 B N k g x y) (he : (x == esc) = false) (hx : x < 0) (hy : (y == (N : Int)) = false) :
    Calls Try.prog 36 #[.slice (some ⟨B, 0, none⟩) N N, .int .i64 i, .int .i64 esc] w fun e w' => e = .returned (.tuple #[.int .i64 k, .bool false]) ∧ Below w.heap.size w w' := by
  have HC : Hid (∀ i, i < N → w.cell? ⟨B, 0 + i, none⟩ = some (.int .u8 (g i))) := T.cell
  have hl := T.len
  obtain ⟨h1, h2, h3, h4⟩ := hj
  have H3 : Hid (∀ p, i ≤ p → p < j → blank (g p) = true) := h3
  have H4 : Hid (j < N → blank (g j) = false) := h4
  clear h3 h4
  obtain ⟨k1, k2, k3, k4⟩ := hk
  have K3 : Hid (∀ p, j + 1 ≤ p → p < k → blank (g p) = true) := k3
  have K4 : Hid (k < N → blank (g k) = false) := k4
  clear k3 k4
  have cj : w.cell? ⟨B, j, none⟩ = some (.int .u8 58) := by have := HC.out j hjN; rwa [Nat.zero_add, h58] at this
  have ck : w.cell? ⟨B, k, none⟩ = some (.int .u8 (g k)) := by have := HC.out k hN; rwa [Nat.zero_add] at this
  have HQ : Hid (∀ w0 : World, w0 = w → Calls Try.prog 25 #[.slice (some ⟨B, 0, none⟩) N N, .int .i64 k] w0 fun e w' => e = .returned (.tuple #[.int .i64 x, .int .i64 y]) ∧ Below w0.heap.size w0 w') := fun w0 e => by
    subst e; exact hq _ T
  clear hq
  clear T h58
  go_enter Try.func36, Try.ntmps36
  go_wp2_with fail
  go_loop [1, 8] (fun v c => (∃ p : Nat, i ≤ p ∧ p ≤ j ∧ v = .int .i64 p ∧ c = .bool false) ∨ (∃ p : Nat, j + 1 ≤ p ∧ p ≤ k ∧ v = .int .i64 p ∧ c = .bool true)) (fun v _ => N + 1 - (intOf v).toNat)
  case atStart => exact Or.inl ⟨i, Nat.le_refl _, h1, rfl, rfl⟩
  case round =>
    rcases hrel with ⟨p, hp1, hp2, rfl, rfl⟩ | ⟨p, hp1, hp2, rfl, rfl⟩
    · by_cases hlt : p < j
      · have c1 : w.cell? ⟨B, p, none⟩ = some (.int .u8 (g p)) := by have := HC.out p (by omega); rwa [Nat.zero_add] at this
        have hin : p < N := by omega
        have hb := H3.out p hp1 hlt
        generalize g p = x at c1 hb
        rcases blank_true hb with rfl | ⟨hx, rfl⟩
        all_goals
          clear hb
          go_wp2_with fail
          go_round
          case rel => exact Or.inl ⟨p + 1, by omega, by omega, by go_num, rfl⟩
          case measure => simp [intOf]; omega
      · have hpj : p = j := by omega
        subst hpj
        go_wp2_with fail
        go_round
        case rel => exact Or.inr ⟨p + 1, by omega, by omega, by go_num, rfl⟩
        case measure => simp [intOf]; omega
    · by_cases hlt : p < k
      · clear cj
        have c1 : w.cell? ⟨B, p, none⟩ = some (.int .u8 (g p)) := by have := HC.out p (by omega); rwa [Nat.zero_add] at this
        have hin : p < N := by omega
        have hb := K3.out p hp1 hlt
        generalize g p = x at c1 hb
        rcases blank_true hb with rfl | ⟨hx, rfl⟩
        all_goals
          clear hb
          go_wp2_with fail
          go_round
          case rel => exact Or.inr ⟨p + 1, by omega, by omega, by go_num, rfl⟩
          case measure => simp [intOf]; omega
      · have hpk : p = k := by omega
        subst hpk
        clear cj
        generalize g p = c at ck hb
        rcases hb with rfl | rfl
        all_goals
          go_wp2_with fail
          refine (HQ.out _ rfl).mono ?_
          rintro e w1 ⟨rfl, hb1⟩
          have HB1 : Hid (Below w.heap.size w w1) := hb1
          clear hb1
          go_wp2_with fail
          go_ret2
          exact ⟨rfl, HB1.out⟩

set_option maxHeartbeats 2000000 in
set_option maxRecDepth 100000 in
/-- W7: too many backslashes. -/
theorem jv_w7c (B N i j k : Nat) (esc : Int) (g : Nat → Int) (w : World) (T : TextAt w B N g) (hj : Bl g N i j) (hjN : j < N) (h58 : g j = 58) (hk : Bl g N (j + 1) k) (hN : k < N) (hb : g k = 92 ∨ g k = 34) (x y : Int) (hq : Answers 25 B N k g x y) (he : (x == esc) = false) (hx : x < 0) (hy : (y == (N : Int)) = true) (n : Nat) (hR : RunAt g N k n) (hn : ¬ (n : Int) ≤ esc) :
    Calls Try.prog 36 #[.slice (some ⟨B, 0, none⟩) N N, .int .i64 i, .int .i64 esc] w fun e w' => e = .returned (.tuple #[.int .i64 k, .bool false]) ∧ Below w.heap.size w w' := by
  have HC : Hid (∀ i, i < N → w.cell? ⟨B, 0 + i, none⟩ = some (.int .u8 (g i))) := T.cell
  have hl := T.len
  obtain ⟨h1, h2, h3, h4⟩ := hj
  have H3 : Hid (∀ p, i ≤ p → p < j → blank (g p) = true) := h3
  have H4 : Hid (j < N → blank (g j) = false) := h4
  clear h3 h4
  obtain ⟨k1, k2, k3, k4⟩ := hk
  have K3 : Hid (∀ p, j + 1 ≤ p → p < k → blank (g p) = true) := k3
  have K4 : Hid (k < N → blank (g k) = false) := k4
  clear k3 k4
  have cj : w.cell? ⟨B, j, none⟩ = some (.int .u8 58) := by have := HC.out j hjN; rwa [Nat.zero_add, h58] at this
  have ck : w.cell? ⟨B, k, none⟩ = some (.int .u8 (g k)) := by have := HC.out k hN; rwa [Nat.zero_add] at this
  have HQ : Hid (∀ w0 : World, w0 = w → Calls Try.prog 25 #[.slice (some ⟨B, 0, none⟩) N N, .int .i64 k] w0 fun e w' => e = .returned (.tuple #[.int .i64 x, .int .i64 y]) ∧ Below w0.heap.size w0 w') := fun w0 e => by
    subst e; exact hq _ T
  have HBK : Hid (∀ w0 : World, Below w.heap.size w w0 → Calls Try.prog 38 #[.slice (some ⟨B, 0, none⟩) N N, .int .i64 k] w0 fun e w' => e = .returned (.int .i64 n) ∧ w' = w0) := fun w0 hb =>
    backs_any B 0 N N k n g w0 (by omega) hR (fun i hi => (hb.cell (p := ⟨B, 0 + i, none⟩) (World.block_lt_of_cell? _ _ (T.cell i hi))).trans (T.cell i hi))
  clear hq hR
  clear T h58
  go_enter Try.func36, Try.ntmps36
  go_wp2_with fail
  go_loop [1, 8] (fun v c => (∃ p : Nat, i ≤ p ∧ p ≤ j ∧ v = .int .i64 p ∧ c = .bool false) ∨ (∃ p : Nat, j + 1 ≤ p ∧ p ≤ k ∧ v = .int .i64 p ∧ c = .bool true)) (fun v _ => N + 1 - (intOf v).toNat)
  case atStart => exact Or.inl ⟨i, Nat.le_refl _, h1, rfl, rfl⟩
  case round =>
    rcases hrel with ⟨p, hp1, hp2, rfl, rfl⟩ | ⟨p, hp1, hp2, rfl, rfl⟩
    · by_cases hlt : p < j
      · have c1 : w.cell? ⟨B, p, none⟩ = some (.int .u8 (g p)) := by have := HC.out p (by omega); rwa [Nat.zero_add] at this
        have hin : p < N := by omega
        have hb := H3.out p hp1 hlt
        generalize g p = x at c1 hb
        rcases blank_true hb with rfl | ⟨hx, rfl⟩
        all_goals
          clear hb
          go_wp2_with fail
          go_round
          case rel => exact Or.inl ⟨p + 1, by omega, by omega, by go_num, rfl⟩
          case measure => simp [intOf]; omega
      · have hpj : p = j := by omega
        subst hpj
        go_wp2_with fail
        go_round
        case rel => exact Or.inr ⟨p + 1, by omega, by omega, by go_num, rfl⟩
        case measure => simp [intOf]; omega
    · by_cases hlt : p < k
      · clear cj
        have c1 : w.cell? ⟨B, p, none⟩ = some (.int .u8 (g p)) := by have := HC.out p (by omega); rwa [Nat.zero_add] at this
        have hin : p < N := by omega
        have hb := K3.out p hp1 hlt
        generalize g p = x at c1 hb
        rcases blank_true hb with rfl | ⟨hx, rfl⟩
        all_goals
          clear hb
          go_wp2_with fail
          go_round
          case rel => exact Or.inr ⟨p + 1, by omega, by omega, by go_num, rfl⟩
          case measure => simp [intOf]; omega
      · have hpk : p = k := by omega
        subst hpk
        clear cj
        generalize g p = c at ck hb
        rcases hb with rfl | rfl
        all_goals
          go_wp2_with fail
          refine (HQ.out _ rfl).mono ?_
          rintro e w1 ⟨rfl, hb1⟩
          have HB1 : Hid (Below w.heap.size w w1) := hb1
          clear hb1
          go_wp2_with fail
          refine (HBK.out _ HB1.out).mono ?_
          rintro e w2 ⟨rfl, rfl⟩
          go_wp2_with fail
          go_ret2
          exact ⟨rfl, HB1.out⟩

end Go.Proofs.Qxb6603303a
