/-
  The plain law on bits: what 'run &^ (run + 1)' and 'run | (run - 1)' come to. No Go text in sight; 'bits' is the model's own word for Go's bit operations.
-/
import Derived.RowKit
import Derived.Laws.BitsLemmas
namespace Go.Proofs.Qxb6603303a
open Go.RowKit

/-- ownEscape(run, false). -/
def ownE (r : Int) : Int := bits .andNot .i64 r (wrap64 (r + 1))
/-- ownEscape(run, true). -/
def ownT (r : Int) : Int := ownE (bits .or .i64 r (wrap64 (r - 1)))

theorem ofInt_wrap (s : Nat) : BitVec.ofInt 64 (wrap64 (s : Int)) = BitVec.ofNat 64 s := by
  apply BitVec.eq_of_toNat_eq
  rw [BitVec.toNat_ofInt, BitVec.toNat_ofNat]
  unfold wrap64
  omega

theorem i64_wrap_nat (n : Nat) (h : n < 9223372036854775808) : IntKind.i64.wrap (n : Int) = n := by
  rw [IntKind.wrap_i64]; omega

theorem pow63 {t : Nat} (h : 2 ^ t - 1 < 9223372036854775808) : t ≤ 63 := by
  by_cases h' : t ≤ 63
  · exact h'
  · have : 2 ^ 64 ≤ 2 ^ t := Nat.pow_le_pow_right (by omega) (by omega)
    omega

theorem pow_lt63 {t : Nat} (h : t ≤ 63) : 2 ^ t ≤ 9223372036854775808 := by
  have : 2 ^ t ≤ 2 ^ 63 := Nat.pow_le_pow_right (by omega) h
  omega

theorem two_bit (m k : Nat) : ((2 * m).testBit k && !(2 * m + 1).testBit k) = false := by
  cases k with
  | zero => simp
  | succ k =>
    rw [Nat.testBit_succ, Nat.testBit_succ]
    rw [show 2 * m / 2 = m by omega, show (2 * m + 1) / 2 = m by omega]
    cases m.testBit k <;> rfl

/-- r with t ones lowest and a zero above them: 'r &^ (r + 1)' is 2^t - 1. -/
theorem ownE_eq (m t : Nat) (h : 2 ^ t * (2 * m) + (2 ^ t - 1) < 9223372036854775808) : ownE ((2 ^ t * (2 * m) + (2 ^ t - 1) : Nat) : Int) = ((2 ^ t - 1 : Nat) : Int) := by
  have hp : 0 < 2 ^ t := Nat.two_pow_pos t
  have e1 : (((2 ^ t * (2 * m) + (2 ^ t - 1) : Nat) : Int) + 1) = ((2 ^ t * (2 * m + 1) + 0 : Nat) : Int) := by
    rw [Nat.mul_add]; omega
  show IntKind.i64.wrap ((BitVec.ofInt 64 ((2 ^ t * (2 * m) + (2 ^ t - 1) : Nat) : Int) &&& ~~~BitVec.ofInt 64 (wrap64 (((2 ^ t * (2 * m) + (2 ^ t - 1) : Nat) : Int) + 1))).toNat : Int) = _
  rw [e1, ofInt_wrap, BitVec.ofInt_natCast]
  have key : (BitVec.ofNat 64 (2 ^ t * (2 * m) + (2 ^ t - 1)) &&& ~~~BitVec.ofNat 64 (2 ^ t * (2 * m + 1) + 0)) = BitVec.ofNat 64 (2 ^ t - 1) := by
    apply BitVec.eq_of_getLsbD_eq
    intro j hj
    simp only [BitVec.getLsbD_and, BitVec.getLsbD_not, BitVec.getLsbD_ofNat, hj, decide_true, Bool.true_and]
    rw [Nat.testBit_two_pow_mul_add (2 * m) (show 2 ^ t - 1 < 2 ^ t by omega), Nat.testBit_two_pow_mul_add (2 * m + 1) hp, Nat.testBit_two_pow_sub_one]
    by_cases hjt : j < t
    · simp [hjt]
    · rw [if_neg hjt, if_neg hjt]
      simp only [hjt, decide_false]
      exact two_bit m (j - t)
  rw [key, BitVec.toNat_ofNat, Nat.mod_eq_of_lt (by omega)]
  exact i64_wrap_nat _ (by omega)

theorem odd_bit (q : Nat) (hq : q % 2 = 1) (k : Nat) : (q.testBit k || (q - 1).testBit k) = q.testBit k := by
  obtain ⟨m, rfl⟩ : ∃ m, q = 2 * m + 1 := ⟨q / 2, by omega⟩
  cases k with
  | zero => simp
  | succ k =>
    rw [Nat.testBit_succ, Nat.testBit_succ]
    rw [show (2 * m + 1 - 1) / 2 = m by omega, show (2 * m + 1) / 2 = m by omega]
    cases m.testBit k <;> rfl

theorem or_lt (q a : Nat) (hq : q % 2 = 1) (h : 2 ^ a * q < 9223372036854775808) : 2 ^ a * q + (2 ^ a - 1) < 9223372036854775808 := by
  have hp : 0 < 2 ^ a := Nat.two_pow_pos a
  have ha : a ≤ 63 := by
    refine pow63 ?_
    have : 2 ^ a * 1 ≤ 2 ^ a * q := Nat.mul_le_mul_left _ (by omega)
    omega
  have e : 9223372036854775808 = 2 ^ a * 2 ^ (63 - a) := by
    rw [← Nat.pow_add, show a + (63 - a) = 63 by omega]
  have hlt : q < 2 ^ (63 - a) := by
    apply Nat.lt_of_mul_lt_mul_left (a := 2 ^ a)
    rw [← e]; exact h
  have : 2 ^ a * (q + 1) ≤ 2 ^ a * 2 ^ (63 - a) := Nat.mul_le_mul_left _ hlt
  rw [← e, Nat.mul_add] at this
  omega

/-- r with a zeros lowest, then an odd q: 'r | (r - 1)' sets the zeros. -/
theorem or_eq (q a : Nat) (hq : q % 2 = 1) (h : 2 ^ a * q < 9223372036854775808) :
    bits .or .i64 ((2 ^ a * q : Nat) : Int) (wrap64 (((2 ^ a * q : Nat) : Int) - 1)) = ((2 ^ a * q + (2 ^ a - 1) : Nat) : Int) := by
  have hp : 0 < 2 ^ a := Nat.two_pow_pos a
  have hbig := or_lt q a hq h
  have e1 : (((2 ^ a * q : Nat) : Int) - 1) = ((2 ^ a * (q - 1) + (2 ^ a - 1) : Nat) : Int) := by
    have : 2 ^ a * q = 2 ^ a * (q - 1) + 2 ^ a := by
      rw [← Nat.mul_succ, Nat.succ_eq_add_one, Nat.sub_add_cancel (by omega)]
    omega
  show IntKind.i64.wrap ((BitVec.ofInt 64 ((2 ^ a * q : Nat) : Int) ||| BitVec.ofInt 64 (wrap64 (((2 ^ a * q : Nat) : Int) - 1))).toNat : Int) = _
  rw [e1, ofInt_wrap, BitVec.ofInt_natCast]
  have key : (BitVec.ofNat 64 (2 ^ a * q) ||| BitVec.ofNat 64 (2 ^ a * (q - 1) + (2 ^ a - 1))) = BitVec.ofNat 64 (2 ^ a * q + (2 ^ a - 1)) := by
    apply BitVec.eq_of_getLsbD_eq
    intro j hj
    simp only [BitVec.getLsbD_or, BitVec.getLsbD_ofNat, hj, decide_true, Bool.true_and]
    rw [show 2 ^ a * q = 2 ^ a * q + 0 from rfl]
    rw [Nat.testBit_two_pow_mul_add q hp, Nat.testBit_two_pow_mul_add (q - 1) (show 2 ^ a - 1 < 2 ^ a by omega)]
    rw [show 2 ^ a * q + 0 + (2 ^ a - 1) = 2 ^ a * q + (2 ^ a - 1) from rfl, Nat.testBit_two_pow_mul_add q (show 2 ^ a - 1 < 2 ^ a by omega)]
    by_cases hja : j < a
    · simp [hja]
    · rw [if_neg hja, if_neg hja, if_neg hja]
      exact odd_bit q hq (j - a)
  rw [key, BitVec.toNat_ofNat, Nat.mod_eq_of_lt (by omega)]
  exact i64_wrap_nat _ hbig

/-- '&' with 2^l - 1. -/
theorem and_low (r l : Nat) (hr : r < 9223372036854775808) (hl : l ≤ 63) : bits .and .i64 (r : Int) ((2 ^ l - 1 : Nat) : Int) = ((r % 2 ^ l : Nat) : Int) := by
  have hp := pow_lt63 hl
  have h0 : 0 < 2 ^ l := Nat.two_pow_pos l
  show IntKind.i64.wrap ((BitVec.ofInt 64 (r : Int) &&& BitVec.ofInt 64 ((2 ^ l - 1 : Nat) : Int)).toNat : Int) = _
  rw [BitVec.ofInt_natCast, BitVec.ofInt_natCast, BitVec.toNat_and, BitVec.toNat_ofNat, BitVec.toNat_ofNat, Nat.mod_eq_of_lt (by omega), Nat.mod_eq_of_lt (a := 2 ^ l - 1) (by omega), Nat.and_two_pow_sub_one_eq_mod]
  have : r % 2 ^ l < 2 ^ l := Nat.mod_lt _ h0
  exact i64_wrap_nat _ (by omega)

theorem and_one_eq (r : Nat) (hr : r < 9223372036854775808) : bits .and .i64 (r : Int) 1 = ((r % 2 : Nat) : Int) := and_low r 1 hr (by omega)

/-! ### The two forms of a run -/

/-- The lowest block: r has t ones lowest, a zero above them. -/
theorem ones_of (r m t : Nat) (hr : r < 9223372036854775808) (h : r = 2 ^ t * (2 * m) + (2 ^ t - 1)) :
    t ≤ 63 ∧ ownE r = ((2 ^ t - 1 : Nat) : Int) ∧ bits .and .i64 (r : Int) (ownE r) = ((2 ^ t - 1 : Nat) : Int) := by
  subst h
  have ht : t ≤ 63 := pow63 (by omega)
  have hp : 0 < 2 ^ t := Nat.two_pow_pos t
  have e := ownE_eq m t hr
  refine ⟨ht, e, ?_⟩
  rw [e, and_low _ t hr ht]
  rw [Nat.mul_add_mod, Nat.mod_eq_of_lt (by omega)]

/-- r > 0: a zeros lowest, then s ones, a zero above them. -/
theorem block_of (r m s a : Nat) (hr : r < 9223372036854775808) (hs : 0 < s) (h : r = 2 ^ a * (2 ^ s * (2 * m) + (2 ^ s - 1))) :
    a + s ≤ 63 ∧ ownT r = ((2 ^ (a + s) - 1 : Nat) : Int) ∧ bits .and .i64 (r : Int) (ownT r) = ((2 ^ (a + s) - 2 ^ a : Nat) : Int) := by
  have hp : 0 < 2 ^ a := Nat.two_pow_pos a
  have hps : 2 ≤ 2 ^ s := by
    have : 2 ^ 1 ≤ 2 ^ s := Nat.pow_le_pow_right (by omega) hs
    omega
  have hpas : 2 ^ a ≤ 2 ^ (a + s) := Nat.pow_le_pow_right (by omega) (by omega)
  have hodd : (2 ^ s * (2 * m) + (2 ^ s - 1)) % 2 = 1 := by
    obtain ⟨c, hc⟩ : ∃ c, 2 ^ s = 2 * c := ⟨2 ^ (s - 1), by rw [← Nat.pow_succ']; congr 1; omega⟩
    rw [hc]
    rw [show 2 * c * (2 * m) = 2 * (c * (2 * m)) by rw [Nat.mul_assoc]]
    omega
  have e2 : 2 ^ a * (2 ^ s * (2 * m) + (2 ^ s - 1)) + (2 ^ a - 1) = 2 ^ (a + s) * (2 * m) + (2 ^ (a + s) - 1) := by
    rw [Nat.mul_add, ← Nat.mul_assoc, ← Nat.pow_add, Nat.mul_sub, ← Nat.pow_add]
    omega
  have e3 : r = 2 ^ (a + s) * (2 * m) + (2 ^ (a + s) - 2 ^ a) := by
    rw [h, Nat.mul_add, ← Nat.mul_assoc, ← Nat.pow_add, Nat.mul_sub, ← Nat.pow_add]
    omega
  have hor := or_eq (2 ^ s * (2 * m) + (2 ^ s - 1)) a hodd (by rw [← h]; exact hr)
  rw [← h] at hor e2
  have hlt : 2 ^ (a + s) * (2 * m) + (2 ^ (a + s) - 1) < 9223372036854775808 := by
    rw [← e2, h]
    exact or_lt _ a hodd (by rw [← h]; exact hr)
  have hl : a + s ≤ 63 := pow63 (by omega)
  have eT : ownT r = ((2 ^ (a + s) - 1 : Nat) : Int) := by
    unfold ownT
    rw [hor, e2]
    exact ownE_eq m (a + s) hlt
  refine ⟨hl, eT, ?_⟩
  rw [eT, and_low _ _ hr hl]
  rw [e3, Nat.mul_add_mod, Nat.mod_eq_of_lt (by omega)]

/-! ### The same, digit by digit -/

/-- j ones below an even number. -/
def oneN (m : Nat) : Nat → Nat
  | 0 => 2 * m
  | j + 1 => 2 * oneN m j + 1
/-- a zeros below q. -/
def zeroN (q : Nat) : Nat → Nat
  | 0 => q
  | a + 1 => 2 * zeroN q a

theorem oneN_eq (m j : Nat) : oneN m j = 2 ^ j * (2 * m) + (2 ^ j - 1) := by
  induction j with
  | zero => simp [oneN]
  | succ j ih =>
    have hp : 0 < 2 ^ j := Nat.two_pow_pos j
    rw [oneN, ih, Nat.pow_succ, Nat.mul_comm (2 ^ j) 2, Nat.mul_assoc 2 (2 ^ j)]
    omega
theorem zeroN_eq (q a : Nat) : zeroN q a = 2 ^ a * q := by
  induction a with
  | zero => simp [zeroN]
  | succ a ih => rw [zeroN, ih, Nat.pow_succ, Nat.mul_comm (2 ^ a) 2, Nat.mul_assoc]

theorem oneN_ex (n r : Nat) (h : r ≤ n) : ∃ m t, r = oneN m t := by
  induction n generalizing r with
  | zero => exact ⟨0, 0, by simp [oneN]; omega⟩
  | succ n ih =>
    rcases Nat.mod_two_eq_zero_or_one r with h2 | h2
    · exact ⟨r / 2, 0, by simp [oneN]; omega⟩
    · obtain ⟨m, t, e⟩ := ih (r / 2) (by omega)
      exact ⟨m, t + 1, by rw [oneN, ← e]; omega⟩
theorem zeroN_ex (n r : Nat) (h : r ≤ n) (h0 : 0 < r) : ∃ q a, r = zeroN q a ∧ q % 2 = 1 := by
  induction n generalizing r with
  | zero => omega
  | succ n ih =>
    rcases Nat.mod_two_eq_zero_or_one r with h2 | h2
    · obtain ⟨q, a, e, o⟩ := ih (r / 2) (by omega) (by omega)
      exact ⟨q, a + 1, by rw [zeroN, ← e]; omega, o⟩
    · exact ⟨r, 0, rfl, h2⟩

/-- Every run has the first form .. -/
theorem ones_form (r : Nat) : ∃ m t, r = oneN m t := oneN_ex r r (Nat.le_refl _)
/-- .. and, if it is not 0, the second. -/
theorem block_form (r : Nat) (h : 0 < r) : ∃ m s a, 0 < s ∧ r = zeroN (oneN m s) a := by
  obtain ⟨q, a, e, o⟩ := zeroN_ex r r (Nat.le_refl _) h
  obtain ⟨m, s, es⟩ := ones_form q
  refine ⟨m, s, a, ?_, by rw [← es]; exact e⟩
  cases s with
  | zero => exfalso; rw [es, oneN] at o; omega
  | succ s => omega

theorem ones_law (r m t : Nat) (hr : r < 9223372036854775808) (h : r = oneN m t) :
    t ≤ 63 ∧ ownE r = ((2 ^ t - 1 : Nat) : Int) ∧ bits .and .i64 (r : Int) (ownE r) = ((2 ^ t - 1 : Nat) : Int) :=
  ones_of r m t hr (h.trans (oneN_eq m t))
theorem block_law (r m s a : Nat) (hr : r < 9223372036854775808) (hs : 0 < s) (h : r = zeroN (oneN m s) a) :
    a + s ≤ 63 ∧ ownT r = ((2 ^ (a + s) - 1 : Nat) : Int) ∧ bits .and .i64 (r : Int) (ownT r) = ((2 ^ (a + s) - 2 ^ a : Nat) : Int) :=
  block_of r m s a hr hs (by rw [h, zeroN_eq, oneN_eq])
theorem low_wrap (t : Nat) (ht : t ≤ 63) : wrap64 (wrap64 (2 ^ t) - 1) = ((2 ^ t - 1 : Nat) : Int) := by
  have hp := pow_lt63 ht
  have h0 : 0 < 2 ^ t := Nat.two_pow_pos t
  have e : ((2 : Int) ^ t) = ((2 ^ t : Nat) : Int) := by simp
  rw [e]
  generalize 2 ^ t = x at *
  unfold wrap64
  omega
end Go.Proofs.Qxb6603303a
