/-
  The walk of zzSpecQuoteEndingAt (19).
-/
import Derived.Test.Qxb6603303aBackWalks
namespace Go.Proofs.Qxb6603303a
open Go.RowKit

/-- Does u0022 end at p? -/
def tailEnd (g : Nat → Int) (p : Nat) : Bool := decide (4 ≤ p) && tailB g (p - 4)
theorem tailEnd_iff (g : Nat → Int) (p : Nat) : tailEnd g p = true ↔ TailAt g p := by
  unfold tailEnd TailAt
  rw [Bool.and_eq_true, decide_eq_true_eq, tailB_iff]

def two (x : Int × Int) : Ending := .returned (.tuple #[.int .i64 x.1, .int .i64 x.2])

set_option maxHeartbeats 1000000 in
theorem end_dq (b off n cap p : Nat) (g : Nat → Int) (w : World) (hn : n ≤ 2097152) (hp : p < n)
    (hc : ∀ i, i < n → w.cell? ⟨b, off + i, none⟩ = some (.int .u8 (g i))) (h : g p = 34) :
    Calls Try.prog 19 #[.slice (some ⟨b, off, none⟩) n cap, .int .i64 p] w fun e w' => e = .returned (.tuple #[.int .i64 (ownE (rb g p)), .int .i64 (wrap64 (ownE (rb g p) + 1))]) ∧ Below w.heap.size w w' := by
  have c0 : w.cell? ⟨b, off + p, none⟩ = some (.int .u8 34) := by rw [← h]; exact hc p hp
  have H34 : Hid (∀ w0 : World, w0 = w → Calls Try.prog 34 #[.slice (some ⟨b, off, none⟩) n cap, .int .i64 p] w0 fun e w' => e = .returned (.int .i64 (rb g p)) ∧ w' = w0) := fun w0 e => by
    subst e; exact runBefore_any b off n cap p g _ hn (by omega) hc
  have hle := rb_le g p
  clear hc h
  generalize rb g p = r at *
  obtain ⟨m, t, hR⟩ := ones_form r
  obtain ⟨ht, h1, _⟩ := ones_law r m t (by omega) hR
  have HR : Hid (r = oneN m t) := hR
  have H1 : Hid (ownE r = ((2 ^ t - 1 : Nat) : Int)) := h1
  clear hR h1
  generalize ownE (r : Int) = x at *
  go_enter Try.func19, Try.ntmps19
  go_wp2_with fail
  refine (H34.out _ rfl).mono ?_
  rintro e w' ⟨rfl, rfl⟩
  go_wp2_with fail
  refine (ones_any r m t _ (by omega) HR.out).mono ?_
  rintro e w' ⟨rfl, rfl⟩
  go_wp2_with fail
  refine (lowOnes_val t x _ ht H1.out).mono ?_
  rintro e w' ⟨rfl, rfl⟩
  go_wp2
  go_ret2
  exact ⟨rfl, Below.refl _ _⟩

theorem end_short (b off n cap p : Nat) (g : Nat → Int) (w : World) (hp : p < n)
    (hc : ∀ i, i < n → w.cell? ⟨b, off + i, none⟩ = some (.int .u8 (g i))) (h : (g p == 34) = false) (h4 : p < 4) :
    Calls Try.prog 19 #[.slice (some ⟨b, off, none⟩) n cap, .int .i64 p] w fun e w' => e = .returned (.tuple #[.int .i64 (-1), .int .i64 0]) ∧ Below w.heap.size w w' := by
  have c0 : w.cell? ⟨b, off + p, none⟩ = some (.int .u8 (g p)) := hc p hp
  clear hc
  generalize g p = x at *
  go_enter Try.func19, Try.ntmps19
  go_wp2_with fail
  refine (tailEnds_short b off n cap p _ h4).mono ?_
  rintro e w' ⟨rfl, rfl⟩
  go_wp2_with fail
  go_ret2
  exact ⟨rfl, Below.refl _ _⟩

theorem end_no (b off n cap q : Nat) (g : Nat → Int) (w : World) (hn : n ≤ 2097152) (hp : q + 4 < n)
    (hc : ∀ i, i < n → w.cell? ⟨b, off + i, none⟩ = some (.int .u8 (g i))) (h : (g (q + 4) == 34) = false) (h4 : tailB g q = false) :
    Calls Try.prog 19 #[.slice (some ⟨b, off, none⟩) n cap, .int .i64 ((q + 4 : Nat) : Int)] w fun e w' => e = .returned (.tuple #[.int .i64 (-1), .int .i64 0]) ∧ Below w.heap.size w w' := by
  have c0 : w.cell? ⟨b, off + (q + 4), none⟩ = some (.int .u8 (g (q + 4))) := hc (q + 4) hp
  have HC : Hid (∀ i, i < n → w.cell? ⟨b, off + i, none⟩ = some (.int .u8 (g i))) := hc
  clear hc
  generalize g (q + 4) = x at c0 h
  go_enter Try.func19, Try.ntmps19
  go_wp2_with fail
  refine (tailEnds_long b off n cap q g _ hn hp HC.out).mono ?_
  rintro e w1 ⟨rfl, hb, hs⟩
  have HB : Hid (Below w.heap.size w w1) := hb
  clear hb hs
  go_wp2_with fail
  go_ret2
  exact ⟨rfl, HB.out⟩

set_option maxHeartbeats 1000000 in
theorem end_zero (b off n cap q : Nat) (g : Nat → Int) (w : World) (hn : n ≤ 2097152) (hp : q + 4 < n)
    (hc : ∀ i, i < n → w.cell? ⟨b, off + i, none⟩ = some (.int .u8 (g i))) (h : (g (q + 4) == 34) = false) (h4 : tailB g q = true) (h0 : rb g q = 0) :
    Calls Try.prog 19 #[.slice (some ⟨b, off, none⟩) n cap, .int .i64 ((q + 4 : Nat) : Int)] w fun e w' => e = .returned (.tuple #[.int .i64 (-1), .int .i64 0]) ∧ Below w.heap.size w w' := by
  have c0 : w.cell? ⟨b, off + (q + 4), none⟩ = some (.int .u8 (g (q + 4))) := hc (q + 4) hp
  have HC : Hid (∀ i, i < n → w.cell? ⟨b, off + i, none⟩ = some (.int .u8 (g i))) := hc
  have hb0 : Hid (b < w.heap.size) := World.block_lt_of_cell? _ _ (hc (q + 4) hp)
  have hq : ((q : Int) + 4 - 5 + 1) = q := by omega
  clear hc
  generalize g (q + 4) = x at c0 h
  go_enter Try.func19, Try.ntmps19
  go_wp2_with fail
  refine (tailEnds_long b off n cap q g _ hn hp HC.out).mono ?_
  rintro e w1 ⟨rfl, hb, hs⟩
  have HB : Hid (Below w.heap.size w w1) := hb
  clear hb hs
  go_wp2_with fail
  refine (runBefore_any b off n cap q g _ hn (by omega) (fun i hi => (HB.out.cell (p := ⟨b, off + i, none⟩) hb0.out).trans (HC.out i hi))).mono ?_
  rintro e w2 ⟨rfl, rfl⟩
  go_wp2_with fail
  go_ret2
  exact ⟨rfl, HB.out⟩

set_option maxHeartbeats 1000000 in
theorem end_t (b off n cap q : Nat) (g : Nat → Int) (w : World) (hn : n ≤ 2097152) (hp : q + 4 < n)
    (hc : ∀ i, i < n → w.cell? ⟨b, off + i, none⟩ = some (.int .u8 (g i))) (h : (g (q + 4) == 34) = false) (h4 : tailB g q = true) (h0 : 0 < rb g q) :
    Calls Try.prog 19 #[.slice (some ⟨b, off, none⟩) n cap, .int .i64 ((q + 4 : Nat) : Int)] w fun e w' => e = .returned (.tuple #[.int .i64 (ownT (rb g q)), .int .i64 (wrap64 (wrap64 (bits .and .i64 (rb g q) (ownT (rb g q)) + 6) - 1))]) ∧ Below w.heap.size w w' := by
  have c0 : w.cell? ⟨b, off + (q + 4), none⟩ = some (.int .u8 (g (q + 4))) := hc (q + 4) hp
  have HC : Hid (∀ i, i < n → w.cell? ⟨b, off + i, none⟩ = some (.int .u8 (g i))) := hc
  have hb0 : Hid (b < w.heap.size) := World.block_lt_of_cell? _ _ (hc (q + 4) hp)
  have hq : ((q : Int) + 4 - 5 + 1) = q := by omega
  have hle := rb_le g q
  have H34 : Hid (∀ w0 : World, Below w.heap.size w w0 → Calls Try.prog 34 #[.slice (some ⟨b, off, none⟩) n cap, .int .i64 q] w0 fun e w' => e = .returned (.int .i64 (rb g q)) ∧ w' = w0) := fun w0 hb =>
    runBefore_any b off n cap q g _ hn (by omega) (fun i hi => (hb.cell (p := ⟨b, off + i, none⟩) hb0.out).trans (HC.out i hi))
  clear hc
  generalize rb g q = r at *
  obtain ⟨m, s, a, hs, hR⟩ := block_form r h0
  obtain ⟨hl, h1, _⟩ := block_law r m s a (by omega) hs hR
  rw [← size_t r m s a (by omega) hs hR]
  have H1 : Hid (ownT r = ((2 ^ (a + s) - 1 : Nat) : Int)) := h1
  have HR : Hid (r = zeroN (oneN m s) a) := hR
  clear h1 hR
  generalize ownT (r : Int) = x at *
  generalize hy : ((2 ^ a - 1 : Nat) : Int) = y at *
  have H2 : Hid (y = ((2 ^ a - 1 : Nat) : Int)) := hy.symm
  clear hy
  generalize g (q + 4) = x4 at c0 h
  go_enter Try.func19, Try.ntmps19
  go_wp2_with fail
  refine (tailEnds_long b off n cap q g _ hn hp HC.out).mono ?_
  rintro e w1 ⟨rfl, hb, hs'⟩
  have HB : Hid (Below w.heap.size w w1) := hb
  clear hb hs'
  go_wp2_with fail
  refine (H34.out _ HB.out).mono ?_
  rintro e w2 ⟨rfl, rfl⟩
  go_wp2_with fail
  refine (block_any r m s a _ (by omega) hs HR.out).mono ?_
  rintro e w3 ⟨rfl, rfl⟩
  go_wp2_with fail
  refine (lowOnes_val (a + s) x _ hl H1.out).mono ?_
  rintro e w4 ⟨rfl, rfl⟩
  go_wp2_with fail
  refine (lowOnes_val (a + s) x _ hl H1.out).mono ?_
  rintro e w5 ⟨rfl, rfl⟩
  go_wp2_with fail
  refine (lowOnes_val a y _ (by omega) H2.out).mono ?_
  rintro e w6 ⟨rfl, rfl⟩
  go_wp2
  go_ret2
  exact ⟨rfl, HB.out⟩

theorem end_any (b off n cap p : Nat) (g : Nat → Int) (w : World) (hn : n ≤ 2097152) (hp : p < n)
    (hc : ∀ i, i < n → w.cell? ⟨b, off + i, none⟩ = some (.int .u8 (g i))) :
    Calls Try.prog 19 #[.slice (some ⟨b, off, none⟩) n cap, .int .i64 p] w fun e w' => e = two (endP g p (tailEnd g p)) ∧ Below w.heap.size w w' := by
  by_cases h : g p = 34
  · have e : endP g p (tailEnd g p) = (ownE (rb g p), wrap64 (ownE (rb g p) + 1)) := by unfold endP; rw [if_pos h]
    rw [e]
    exact end_dq b off n cap p g w hn hp hc h
  by_cases h4 : p < 4
  · have e : endP g p (tailEnd g p) = (-1, 0) := by
      unfold endP; rw [if_neg h, if_neg (by rintro ⟨a, _⟩; have := ((tailEnd_iff g p).1 a).1; omega)]
    rw [e]
    exact end_short b off n cap p g w hp hc (beqf h) h4
  · obtain ⟨q, rfl⟩ : ∃ q, p = q + 4 := ⟨p - 4, by omega⟩
    have ht : tailEnd g (q + 4) = tailB g q := by unfold tailEnd; rw [Nat.add_sub_cancel, decide_eq_true (by omega), Bool.true_and]
    rw [ht]
    cases hB : tailB g q
    · have e : endP g (q + 4) false = (-1, 0) := by unfold endP; rw [if_neg h, if_neg (by simp)]
      rw [e]
      exact end_no b off n cap q g w hn hp hc (beqf h) hB
    · by_cases h0 : 0 < rb g q
      · have e : endP g (q + 4) true = (ownT (rb g q), wrap64 (wrap64 (bits .and .i64 (rb g q) (ownT (rb g q)) + 6) - 1)) := by
          unfold endP; rw [if_neg h, Nat.add_sub_cancel, if_pos ⟨rfl, h0⟩]
        rw [e]
        exact end_t b off n cap q g w hn hp hc (beqf h) hB h0
      · have e : endP g (q + 4) true = (-1, 0) := by
          unfold endP; rw [if_neg h, Nat.add_sub_cancel, if_neg (by rintro ⟨_, a⟩; exact h0 a)]
        rw [e]
        exact end_zero b off n cap q g w hn hp hc (beqf h) hB (by omega)
end Go.Proofs.Qxb6603303a
