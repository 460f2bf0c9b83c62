/-
  quoteAt (25) and zzSpecQuoteAt (13) answer the same, where a backslash or a quote stands at i.
-/
import Derived.Test.Qxb6603303aSpecAt
import Derived.Test.Qxb6603303aAgree
namespace Go.Proofs.Qxb6603303a
open Go.RowKit

theorem andNot_high (n l : Nat) (hn : 2 ^ l ≤ n) (h63 : n < 9223372036854775808) : bits .andNot .i64 (n : Int) ((2 ^ l - 1 : Nat) : Int) ≠ 0 := by
  intro h
  have h' : IntKind.i64.wrap ((BitVec.ofInt 64 (n : Int) &&& ~~~BitVec.ofInt 64 ((2 ^ l - 1 : Nat) : Int)).toNat : Int) = 0 := h
  rw [BitVec.ofInt_natCast, BitVec.ofInt_natCast] at h'
  have hle : (BitVec.ofNat 64 n &&& ~~~BitVec.ofNat 64 (2 ^ l - 1)).toNat ≤ n := by
    rw [BitVec.toNat_and]
    refine Nat.le_trans Nat.and_le_left ?_
    rw [BitVec.toNat_ofNat]
    exact Nat.mod_le _ _
  rw [i64_wrap_nat _ (by omega)] at h'
  have hz : (BitVec.ofNat 64 n &&& ~~~BitVec.ofNat 64 (2 ^ l - 1)) = BitVec.ofNat 64 0 := by
    apply BitVec.eq_of_toNat_eq
    rw [BitVec.toNat_ofNat]
    omega
  have hlt : n < 2 ^ l := by
    apply Nat.lt_pow_two_of_testBit
    intro j hj
    by_cases h64 : j < 64
    · have := congrArg (fun v => v.getLsbD j) hz
      simp only [BitVec.getLsbD_and, BitVec.getLsbD_not, BitVec.getLsbD_ofNat, h64, decide_true, Bool.true_and, Nat.testBit_two_pow_sub_one] at this
      simpa [show ¬ j < l by omega] using this
    · apply Nat.testBit_lt_two_pow
      have : 2 ^ 64 ≤ 2 ^ j := Nat.pow_le_pow_right (by omega) (by omega)
      omega
  omega

theorem preB_true (g : Nat → Int) (j m : Nat) (h : ∀ q, q < m → g (j + q) = tailC q) : preB g j m = true := by
  unfold preB
  rw [List.all_eq_true]
  intro q hq
  rw [beq_iff_eq]
  exact h q (by simpa using hq)
theorem preB_false (g : Nat → Int) (j m q : Nat) (hq : q < m) (h : g (j + q) ≠ tailC q) : preB g j m = false := by
  cases e : preB g j m
  · rfl
  · exfalso
    unfold preB at e
    rw [List.all_eq_true] at e
    have := e q (by simpa using hq)
    rw [beq_iff_eq] at this
    exact h this

def Answers (f B N i : Nat) (g : Nat → Int) (x y : Int) : Prop :=
  ∀ w, TextAt w B N g → Calls Try.prog f #[.slice (some ⟨B, 0, none⟩) N N, .int .i64 i] w fun e w' => e = .returned (.tuple #[.int .i64 x, .int .i64 y]) ∧ Below w.heap.size w w'

theorem qa_both (B N i n : Nat) (g : Nat → Int) (hN : N ≤ 1048576) (hi : i < N) (hb : g i = 92 ∨ g i = 34) (hR : RunAt g N i n) :
    ∃ x y : Int, Answers 25 B N i g x y ∧ Answers 13 B N i g x y := by
  have hR1 := hR.1
  rcases hb with hb | hb
  · have h0 := hR.pos hi hb
    by_cases hdq : i + n < N ∧ g (i + n) = 34
    · obtain ⟨hlt, hg⟩ := hdq
      obtain ⟨m, t, hm⟩ := ones_form n
      obtain ⟨ht, hE, _⟩ := ones_law n m t (by omega) hm
      by_cases hz : m = 0
      · have hn : 2 ^ t - 1 = n := by
          have := hm; rw [hz, oneN_eq, Nat.mul_zero, Nat.zero_add] at this; exact this.symm
        have hp : 0 < 2 ^ t := Nat.two_pow_pos t
        refine ⟨(n : Int), ((i + n + 1 : Nat) : Int), fun w T => ?_, fun w T => ?_⟩
        · have := qa_q2 B N i n g w T hR h0 hlt hg _ _ hE rfl (by rw [andNot_low _ t (by omega)]; rfl)
          rw [hn] at this
          exact this
        · exact sa_dq B N i n m t g w T hR hlt hg hm _ _ (Or.inl ⟨hz, rfl, rfl⟩)
      · refine ⟨-1, (i : Int), fun w T => ?_, fun w T => ?_⟩
        · refine qa_q2n B N i n g w T hR h0 hlt hg _ _ hE rfl (bnet (andNot_high n t ?_ (by omega)))
          rw [hm, oneN_eq]
          have : 2 ^ t * 1 ≤ 2 ^ t * (2 * m) := Nat.mul_le_mul_left _ (by omega)
          omega
        · exact sa_dq B N i n m t g w T hR hlt hg hm _ _ (Or.inr ⟨hz, rfl, rfl⟩)
    · obtain ⟨k, hM⟩ := MatchAt.ex g N (i + n) hR1
      obtain ⟨k1, k2, k3, k4⟩ := hM
      by_cases hk5 : k = 5
      · subst hk5
        obtain ⟨m, s, a, hs, hm⟩ := block_form n h0
        obtain ⟨hl, hT, _⟩ := block_law n m s a (by omega) hs hm
        have htB : tailB g (i + n) = true := (tailB_iff g (i + n)).2 k3
        have hpas : 2 ^ (a + s) = 2 ^ a * 2 ^ s := Nat.pow_add 2 a s
        by_cases hz : m = 0
        · refine ⟨ownT n, ((i + n + 5 : Nat) : Int), fun w T => ?_, fun w T => ?_⟩
          · refine qa_q3 B N i n g w T hR h0 k2 htB _ _ rfl rfl ?_
            rw [hT, andNot_low _ (a + s) ?_]
            · rfl
            · rw [hm, hz, zeroN_eq, oneN_eq, Nat.mul_zero, Nat.zero_add, Nat.mul_sub, ← hpas, Nat.mul_one]
              have := Nat.two_pow_pos a
              have := Nat.two_pow_pos (a + s)
              omega
          · exact sa_t B N i n m s a g w T hR h0 ⟨k1, k2, k3, k4⟩ hs hm hz
        · refine ⟨-1, (i : Int), fun w T => ?_, fun w T => ?_⟩
          · refine qa_q3n B N i n g w T hR h0 k2 htB _ _ hT rfl (bnet (andNot_high n (a + s) ?_ (by omega)))
            rw [hm, zeroN_eq, oneN_eq, Nat.mul_add, ← Nat.mul_assoc, ← hpas]
            have : 2 ^ (a + s) * 1 ≤ 2 ^ (a + s) * (2 * m) := Nat.mul_le_mul_left _ (by omega)
            omega
          · exact sa_tn B N i n m s a g w T hR h0 ⟨k1, k2, k3, k4⟩ hs hm hz
      · by_cases hkN : i + n + k = N
        · refine ⟨-1, (N : Int), fun w T => ?_, fun w T => sa_end B N i n k g w T hR h0 ⟨k1, k2, k3, k4⟩ (by omega) hkN⟩
          rcases Nat.eq_zero_or_pos k with rfl | hk0
          · exact qa_q4 B N i n g w T hR h0 hkN
          · refine qa_q5 B N i n g w T hR h0 (by omega) (by omega) (by intro h; exact hdq ⟨by omega, h⟩) true ?_ N rfl
            rw [show N - (i + n) = k by omega]
            exact preB_true g (i + n) k k3
        · have h34 : g (i + n) ≠ 34 := by intro h; exact hdq ⟨by omega, h⟩
          have hne := k4 (by omega) (by omega)
          refine ⟨-1, (i : Int), fun w T => ?_, fun w T => sa_no B N i n k g w T hR h0 ⟨k1, k2, k3, k4⟩ (by omega) (by omega) h34⟩
          by_cases h5 : i + n + 5 ≤ N
          · exact qa_q6l B N i n g w T hR h0 h5 h34 (tailB_false g (i + n) k (by omega) hne)
          · exact qa_q5 B N i n g w T hR h0 (by omega) (by omega) h34 false (preB_false g (i + n) _ k (by omega) hne) i rfl
  · have hz : n = 0 := hR.zero (by rw [hb]; decide)
    subst hz
    refine ⟨0, ((i + 1 : Nat) : Int), fun w T => qa_dq B N i g w T hi hb, fun w T => ?_⟩
    exact sa_dq B N i 0 0 0 g w T hR hi hb rfl _ _ (Or.inl ⟨rfl, rfl, rfl⟩)
end Go.Proofs.Qxb6603303a
