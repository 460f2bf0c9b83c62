/-
  What the reader reports is what quoteAt reads: the plain law and the contract at the place that the reported size says; ZZQuoteAt (12).
-/
import Derived.Test.Qxb6603303aQuoteAt
import Derived.Test.Qxb6603303aSpecEnd
namespace Go.Proofs.Qxb6603303a
open Go.RowKit

/-- '&^' with 2^l - 1 of a number below 2^l. -/
theorem andNot_low (n l : Nat) (hn : n < 2 ^ l) : bits .andNot .i64 (n : Int) ((2 ^ l - 1 : Nat) : Int) = 0 := by
  show IntKind.i64.wrap ((BitVec.ofInt 64 (n : Int) &&& ~~~BitVec.ofInt 64 ((2 ^ l - 1 : Nat) : Int)).toNat : Int) = _
  rw [BitVec.ofInt_natCast, BitVec.ofInt_natCast]
  have key : (BitVec.ofNat 64 n &&& ~~~BitVec.ofNat 64 (2 ^ l - 1)) = BitVec.ofNat 64 0 := by
    apply BitVec.eq_of_getLsbD_eq
    intro j hj
    simp only [BitVec.getLsbD_and, BitVec.getLsbD_not, BitVec.getLsbD_ofNat, hj, decide_true, Bool.true_and]
    rw [Nat.testBit_two_pow_sub_one]
    by_cases hjl : j < l
    · simp [hjl]
    · rw [Nat.testBit_lt_two_pow (Nat.lt_of_lt_of_le hn (Nat.pow_le_pow_right (by omega) (by omega)))]
      simp
  rw [key]
  rfl

theorem wrap_sz (x : Nat) (h : x ≤ 2097152) : wrap64 (wrap64 ((x : Int) + 6) - 1) = ((x + 5 : Nat) : Int) := by unfold wrap64; omega
theorem wrap_dq (x : Nat) (h0 : 0 < x) (h : x ≤ 2097152) : wrap64 (((x - 1 : Nat) : Int) + 1) = (x : Int) := by unfold wrap64; omega

theorem rb_run (g : Nat → Int) (N q n : Nat) (h : n ≤ rb g q) (hq : q ≤ N) (h9 : q < N → g q ≠ 92) : RunAt g N (q - n) n := by
  have hle := rb_le g q
  refine ⟨by omega, fun k hk => ?_, fun hk => ?_⟩
  · have := (rb_spec g q).1 (n - 1 - k) (by omega)
    rwa [show q - 1 - (n - 1 - k) = q - n + k by omega] at this
  · rw [show q - n + n = q by omega] at hk ⊢
    exact h9 hk

set_option maxHeartbeats 1000000 in
theorem agree_at (B N k : Nat) (g : Nat → Int) (hk : k < N) (hN : N ≤ 1048576) :
    ((endP g k (tailEnd g k)).1 = -1 ∧ (endP g k (tailEnd g k)).2 = 0) ∨
    (0 ≤ (endP g k (tailEnd g k)).1 ∧ 1 ≤ (endP g k (tailEnd g k)).2 ∧ (endP g k (tailEnd g k)).2 ≤ 2097152 ∧ ∃ start : Nat, start ≤ k ∧ (k : Int) + 1 - (endP g k (tailEnd g k)).2 = start ∧
      ∀ w, TextAt w B N g → Calls Try.prog 25 #[.slice (some ⟨B, 0, none⟩) N N, .int .i64 start] w fun e w' => e = .returned (.tuple #[.int .i64 (endP g k (tailEnd g k)).1, .int .i64 ((k + 1 : Nat) : Int)]) ∧ Below w.heap.size w w') := by
  by_cases h : g k = 34
  · have e : endP g k (tailEnd g k) = (ownE (rb g k), wrap64 (ownE (rb g k) + 1)) := by unfold endP; rw [if_pos h]
    have hle := rb_le g k
    obtain ⟨m, t, hR⟩ := ones_form (rb g k)
    obtain ⟨ht, h1, _⟩ := ones_law (rb g k) m t (by omega) hR
    have hp : 0 < 2 ^ t := Nat.two_pow_pos t
    have htr : 2 ^ t - 1 ≤ rb g k := by rw [hR, oneN_eq]; omega
    have hs : wrap64 (ownE (rb g k) + 1) = ((2 ^ t : Nat) : Int) := by
      rw [h1]
      exact wrap_dq (2 ^ t) hp (by omega)
    rw [e]
    refine Or.inr ⟨?_, ?_, ?_, k - (2 ^ t - 1), by omega, ?_, fun w T => ?_⟩
    · show 0 ≤ ownE (rb g k); rw [h1]; omega
    · show 1 ≤ wrap64 (ownE (rb g k) + 1); rw [hs]; omega
    · show wrap64 (ownE (rb g k) + 1) ≤ 2097152; rw [hs]; omega
    · show (k : Int) + 1 - wrap64 (ownE (rb g k) + 1) = _; rw [hs]; omega
    · show Calls Try.prog 25 _ w fun e w' => e = .returned (.tuple #[.int .i64 (ownE (rb g k)), _]) ∧ _
      rw [h1]
      rcases Nat.eq_zero_or_pos (2 ^ t - 1) with hz | hz
      · rw [hz, Nat.sub_zero]
        exact qa_dq B N k g w T hk h
      · have hrun := rb_run g N k (2 ^ t - 1) htr (by omega) (fun _ => by rw [h]; decide)
        have e1 : k - (2 ^ t - 1) + (2 ^ t - 1) = k := by omega
        have h0 : 2 ^ t - 1 = oneN 0 t := by rw [oneN_eq]; omega
        have hE := (ones_law (2 ^ t - 1) 0 t (by omega) h0).2.1
        have hq := qa_q2 B N (k - (2 ^ t - 1)) (2 ^ t - 1) g w T hrun hz (by omega) (by rw [e1]; exact h) _ _ hE rfl (by rw [andNot_low _ t (by omega)]; rfl)
        rw [e1] at hq
        exact hq
  · by_cases hA : tailEnd g k = true ∧ 0 < rb g (k - 4)
    · have e : endP g k (tailEnd g k) = (ownT (rb g (k - 4)), wrap64 (wrap64 (bits .and .i64 (rb g (k - 4)) (ownT (rb g (k - 4))) + 6) - 1)) := by unfold endP; rw [if_neg h, if_pos hA]
      obtain ⟨hA, hr⟩ := hA
      have hT := (tailEnd_iff g k).1 hA
      have h4 := hT.1
      have hle := rb_le g (k - 4)
      obtain ⟨m, s, a, hs0, hR⟩ := block_form (rb g (k - 4)) hr
      obtain ⟨hl, h1, h2⟩ := block_law (rb g (k - 4)) m s a (by omega) hs0 hR
      have hpa : 0 < 2 ^ a := Nat.two_pow_pos a
      have hps : 2 ≤ 2 ^ s := by
        have : 2 ^ 1 ≤ 2 ^ s := Nat.pow_le_pow_right (by omega) hs0
        omega
      have hpas : 2 ^ (a + s) = 2 ^ a * 2 ^ s := Nat.pow_add 2 a s
      have hpas2 : 2 ^ a * 2 ≤ 2 ^ (a + s) := by rw [hpas]; exact Nat.mul_le_mul_left _ hps
      have hAr : 2 ^ (a + s) - 2 ^ a ≤ rb g (k - 4) := by
        rw [hR, zeroN_eq, oneN_eq, Nat.mul_add, Nat.mul_sub, ← hpas]
        omega
      have hsz : wrap64 (wrap64 (bits .and .i64 (rb g (k - 4)) (ownT (rb g (k - 4))) + 6) - 1) = ((2 ^ (a + s) - 2 ^ a + 5 : Nat) : Int) := by
        rw [h2]
        exact wrap_sz (2 ^ (a + s) - 2 ^ a) (by omega)
      have hAA : 2 ^ (a + s) - 2 ^ a = zeroN (oneN 0 s) a := by
        rw [zeroN_eq, oneN_eq, Nat.mul_zero, Nat.zero_add, Nat.mul_sub, ← hpas, Nat.mul_one]
      rw [e]
      refine Or.inr ⟨?_, ?_, ?_, k - 4 - (2 ^ (a + s) - 2 ^ a), by omega, ?_, fun w T => ?_⟩
      · show 0 ≤ ownT (rb g (k - 4)); rw [h1]; omega
      · show 1 ≤ wrap64 _; rw [hsz]; omega
      · show wrap64 _ ≤ 2097152; rw [hsz]; omega
      · show (k : Int) + 1 - wrap64 _ = _; rw [hsz]; omega
      · show Calls Try.prog 25 _ w fun e w' => e = .returned (.tuple #[.int .i64 (ownT (rb g (k - 4))), _]) ∧ _
        rw [h1]
        have hup := hT.up hr
        have hrun := rb_run g N (k - 4) (2 ^ (a + s) - 2 ^ a) hAr (by omega) (fun _ => by
          have := hT.2 0 (by omega)
          rw [Nat.add_zero] at this
          rw [this]; exact (tailC_ne 0).1)
        have e1 : k - 4 - (2 ^ (a + s) - 2 ^ a) + (2 ^ (a + s) - 2 ^ a) = k - 4 := by omega
        have hE := (block_law (2 ^ (a + s) - 2 ^ a) 0 s a (by omega) hs0 hAA).2.1
        have hq := qa_q3 B N (k - 4 - (2 ^ (a + s) - 2 ^ a)) (2 ^ (a + s) - 2 ^ a) g w T hrun (by omega) (by omega) (by rw [e1]; exact (tailB_iff g (k - 4)).2 hT.2) _ _ hE rfl (by rw [andNot_low _ (a + s) (by omega)]; rfl)
        rw [e1, show k - 4 + 5 = k + 1 by omega] at hq
        exact hq
    · refine Or.inl ?_
      have e : endP g k (tailEnd g k) = (-1, 0) := by unfold endP; rw [if_neg h, if_neg hA]
      rw [e]
      exact ⟨rfl, rfl⟩

/-- ZZQuoteAt hands quoteAt's answer on. -/
theorem zzq_of (B N i : Nat) (x y : Int) (w : World) (h : Calls Try.prog 25 #[.slice (some ⟨B, 0, none⟩) N N, .int .i64 i] w fun e w' => e = .returned (.tuple #[.int .i64 x, .int .i64 y]) ∧ Below w.heap.size w w') :
    Calls Try.prog 12 #[.slice (some ⟨B, 0, none⟩) N N, .int .i64 i] w fun e w' => e = .returned (.tuple #[.int .i64 x, .int .i64 y]) ∧ Below w.heap.size w w' := by
  have H : Hid (Calls Try.prog 25 #[.slice (some ⟨B, 0, none⟩) N N, .int .i64 i] w fun e w' => e = .returned (.tuple #[.int .i64 x, .int .i64 y]) ∧ Below w.heap.size w w') := h
  clear h
  go_enter Try.func12, Try.ntmps12
  go_wp2_with fail
  refine (Hid.out H).mono ?_
  rintro e w1 ⟨rfl, hb⟩
  have HB : Hid (Below w.heap.size w w1) := hb
  clear hb
  go_wp2_with fail
  go_ret2
  exact ⟨rfl, HB.out⟩
end Go.Proofs.Qxb6603303a
