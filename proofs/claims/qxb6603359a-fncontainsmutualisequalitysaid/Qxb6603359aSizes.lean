/-
  A slice of digests as the walks see it; the walks of zzAdd (9), zzDigestsSize (19), zzBytes_FnTwiceAgreesWithSortedModel (18).
-/
import Derived.Test.Qxb6603359aBytes
import Derived.Test.Qxb6603359aSort
namespace Go.Proofs.Qxb6603359a
open Go.RowKit

/-- The n digests at ⟨b, off⟩: their algorithms 'alg', their values' slices. -/
structure Digs (w : World) (b off n : Nat) (alg : Nat → Int) (A : Nat → Option Addr) (L C : Nat → Nat) : Prop where
  alg : ∀ i, i < n → w.cell? ⟨b, off + i * 2, none⟩ = some (.int .i64 (alg i))
  val : ∀ i, i < n → w.cell? ⟨b, off + i * 2 + 1, none⟩ = some (.slice (A i) (L i) (C i))

theorem Digs.below {w w' : World} {b off n : Nat} {alg : Nat → Int} {A : Nat → Option Addr} {L C : Nat → Nat} (h : Digs w b off n alg A L C) (hb : Below w.heap.size w w') : Digs w' b off n alg A L C :=
  ⟨fun i hi => (hb.cell (p := ⟨b, off + i * 2, none⟩) (World.block_lt_of_cell? _ _ (h.alg i hi))).trans (h.alg i hi), fun i hi => (hb.cell (p := ⟨b, off + i * 2 + 1, none⟩) (World.block_lt_of_cell? _ _ (h.val i hi))).trans (h.val i hi)⟩

/-- zzAdd. -/
def satAdd (a n : Nat) : Nat := if 1048576 < a ∨ 1048576 < n then 1048577 else a + n
theorem satAdd_le (a n : Nat) : satAdd a n ≤ 2097152 := by unfold satAdd; split <;> omega

theorem add_any (a n : Nat) (w : World) : Calls Try.prog 9 #[.int .i64 a, .int .i64 n] w fun e w' => e = .returned (.int .i64 (satAdd a n)) ∧ w' = w := by
  by_cases h1 : 1048576 < a
  · have h : satAdd a n = 1048577 := by unfold satAdd; rw [if_pos (Or.inl h1)]
    rw [h]; clear h
    go_enter Try.func9, Try.ntmps9
    go_wp2
    go_ret
    exact ⟨rfl, rfl⟩
  · by_cases h2 : 1048576 < n
    · have h : satAdd a n = 1048577 := by unfold satAdd; rw [if_pos (Or.inr h2)]
      rw [h]; clear h
      go_enter Try.func9, Try.ntmps9
      go_wp2
      go_ret
      exact ⟨rfl, rfl⟩
    · have h : satAdd a n = a + n := by unfold satAdd; rw [if_neg (by omega)]
      rw [h]; clear h
      go_enter Try.func9, Try.ntmps9
      go_wp2
      go_ret
      exact ⟨rfl, rfl⟩

/-- zzDigestsSize. -/
def sizeTo (L : Nat → Nat) : Nat → Nat
  | 0 => 0
  | k + 1 => satAdd (satAdd (sizeTo L k) 32) (L k)

set_option maxHeartbeats 1000000 in
theorem size_any (b off n cap : Nat) (alg : Nat → Int) (A : Nat → Option Addr) (L C : Nat → Nat) (w : World) (hn : n ≤ 1048576) (D : Digs w b off n alg A L C) :
    Calls Try.prog 19 #[.slice (some ⟨b, off, none⟩) n cap] w fun e w' => e = .returned (.int .i64 (sizeTo L n)) ∧ w' = w := by
  have HD : Hid (∀ i, i < n → w.cell? ⟨b, off + i * 2 + 1, none⟩ = some (.slice (A i) (L i) (C i))) := D.val
  clear D
  go_enter Try.func19, Try.ntmps19
  go_wp2
  go_loop [3, 4] (fun s i => ∃ k S : Nat, k ≤ n ∧ i = .int .i64 k ∧ s = .int .i64 S ∧ Hid (S = sizeTo L k)) (fun _ i => n - (intOf i).toNat)
  case atStart => exact ⟨0, 0, Nat.zero_le _, rfl, rfl, rfl⟩
  case round =>
    obtain ⟨k, S, hk, rfl, rfl, HS⟩ := hrel
    by_cases hlt : k < n
    · have c1 := HD.out k hlt
      have HS' : Hid (satAdd (satAdd S 32) (L k) = sizeTo L (k + 1)) := by show _ = satAdd (satAdd (sizeTo L k) 32) (L k); rw [HS.out]
      generalize A k = ak at c1
      generalize L k = lk at c1 HS'
      generalize C k = ck at c1
      go_wp2_with fail
      refine (add_any S 32 _).mono ?_
      rintro e w' ⟨rfl, rfl⟩
      generalize satAdd S 32 = S1 at *
      go_wp2_with fail
      refine (add_any S1 lk _).mono ?_
      rintro e w' ⟨rfl, rfl⟩
      go_wp2_with fail
      go_round
      case rel => exact ⟨k + 1, _, by omega, by go_num, rfl, HS'⟩
      case measure => simp [intOf]; omega
    · have hkn : k = n := by omega
      subst hkn
      go_wp2_with fail
      go_ret
      exact ⟨by rw [← HS.out]; rfl, rfl⟩

/-- n and the lengths of the first k values. -/
def sumTo (n : Nat) (L : Nat → Nat) : Nat → Nat
  | 0 => n
  | k + 1 => sumTo n L k + L k
theorem sumTo_mono (n : Nat) (L : Nat → Nat) (k m : Nat) (h : k ≤ m) : sumTo n L k ≤ sumTo n L m := by
  induction m with
  | zero => rw [show k = 0 by omega]; exact Nat.le_refl _
  | succ m ih =>
    rcases Nat.lt_or_eq_of_le h with h | rfl
    · have := ih (by omega); rw [sumTo]; omega
    · exact Nat.le_refl _
theorem sumTo_L (n : Nat) (L : Nat → Nat) (k m : Nat) (h : k < m) : L k ≤ sumTo n L m := by
  have := sumTo_mono n L (k + 1) m h; rw [sumTo] at this; omega
theorem sumTo_break (n : Nat) (L : Nat → Nat) (m : Nat) (h : 1048576 < sumTo n L m) (h0 : n ≤ 1048576) : ∃ k, k < m ∧ sumTo n L k ≤ 1048576 ∧ 1048576 < sumTo n L (k + 1) := by
  induction m with
  | zero => rw [sumTo] at h; omega
  | succ m ih =>
    by_cases hm : 1048576 < sumTo n L m
    · obtain ⟨k, h1, h2⟩ := ih hm
      exact ⟨k, by omega, h2⟩
    · exact ⟨m, by omega, by omega, h⟩

set_option maxHeartbeats 1000000 in
/-- zzBytes: it all fits. -/
theorem bytes_yes (b off n cap : Nat) (alg : Nat → Int) (A : Nat → Option Addr) (L C : Nat → Nat) (w : World) (D : Digs w b off n alg A L C) (hs : sumTo n L n ≤ 1048576) :
    Calls Try.prog 18 #[.slice (some ⟨b, off, none⟩) n cap] w fun e w' => e = .returned (.bool true) ∧ w' = w := by
  have HD : Hid (∀ i, i < n → w.cell? ⟨b, off + i * 2 + 1, none⟩ = some (.slice (A i) (L i) (C i))) := D.val
  have hn : n ≤ 1048576 := by have := sumTo_mono n L 0 n (Nat.zero_le _); rw [sumTo] at this; omega
  have HS : Hid (sumTo n L n ≤ 1048576) := hs
  clear D hs
  go_enter Try.func18, Try.ntmps18
  go_wp2
  go_loop [3, 4] (fun s i => ∃ k S : Nat, k ≤ n ∧ i = .int .i64 k ∧ s = .int .i64 S ∧ S ≤ 1048576 ∧ Hid (S = sumTo n L k)) (fun _ i => n - (intOf i).toNat)
  case atStart => exact ⟨0, n, Nat.zero_le _, rfl, rfl, hn, rfl⟩
  case round =>
    obtain ⟨k, S, hk, rfl, rfl, hS, HSk⟩ := hrel
    by_cases hlt : k < n
    · have c1 := HD.out k hlt
      have h1 : S + L k ≤ 1048576 := by
        have := sumTo_mono n L (k + 1) n hlt
        have h2 := HS.out
        rw [sumTo, ← HSk.out] at this; omega
      have HS' : Hid (S + L k = sumTo n L (k + 1)) := by show _ = sumTo n L k + L k; rw [HSk.out]
      generalize A k = ak at c1
      generalize L k = lk at c1 HS' h1
      generalize C k = ck at c1
      go_wp2_with fail
      go_round
      case rel => exact ⟨k + 1, S + lk, by omega, by go_num, by go_num, h1, HS'⟩
      case measure => simp [intOf]; omega
    · go_wp2_with fail
      go_ret
      exact ⟨rfl, rfl⟩

set_option maxHeartbeats 1000000 in
/-- zzBytes: it does not fit. -/
theorem bytes_no (b off n cap : Nat) (alg : Nat → Int) (A : Nat → Option Addr) (L C : Nat → Nat) (w : World) (D : Digs w b off n alg A L C) (hs : 1048576 < sumTo n L n) :
    Calls Try.prog 18 #[.slice (some ⟨b, off, none⟩) n cap] w fun e w' => e = .returned (.bool false) ∧ w' = w := by
  by_cases hn : n ≤ 1048576
  · have HD : Hid (∀ i, i < n → w.cell? ⟨b, off + i * 2 + 1, none⟩ = some (.slice (A i) (L i) (C i))) := D.val
    obtain ⟨m, hm, h1, h2⟩ := sumTo_break n L n hs hn
    have H1 : Hid (sumTo n L m ≤ 1048576) := h1
    have H2 : Hid (1048576 < sumTo n L (m + 1)) := h2
    clear D hs h1 h2
    go_enter Try.func18, Try.ntmps18
    go_wp2
    go_loop [3, 4] (fun s i => ∃ k S : Nat, k ≤ m ∧ i = .int .i64 k ∧ s = .int .i64 S ∧ S ≤ 1048576 ∧ Hid (S = sumTo n L k)) (fun _ i => n - (intOf i).toNat)
    case atStart => exact ⟨0, n, Nat.zero_le _, rfl, rfl, hn, rfl⟩
    case round =>
      obtain ⟨k, S, hk, rfl, rfl, hS, HSk⟩ := hrel
      have hlt : k < n := by omega
      have c1 := HD.out k hlt
      by_cases hkm : k < m
      · have h1 : S + L k ≤ 1048576 := by
          have := sumTo_mono n L (k + 1) m hkm
          have h2 := H1.out
          rw [sumTo, ← HSk.out] at this; omega
        have HS' : Hid (S + L k = sumTo n L (k + 1)) := by show _ = sumTo n L k + L k; rw [HSk.out]
        generalize A k = ak at c1
        generalize L k = lk at c1 HS' h1
        generalize C k = ck at c1
        go_wp2_with fail
        go_round
        case rel => exact ⟨k + 1, S + lk, by omega, by go_num, by go_num, h1, HS'⟩
        case measure => simp [intOf]; omega
      · have hke : k = m := by omega
        subst hke
        have h1 : 1048576 < S + L k := by have := H2.out; rw [sumTo, ← HSk.out] at this; exact this
        generalize A k = ak at c1
        generalize L k = lk at c1 h1
        generalize C k = ck at c1
        by_cases hl : 1048576 < lk
        · go_wp2_with fail
          go_ret
          exact ⟨rfl, rfl⟩
        · go_wp2_with fail
          go_ret
          exact ⟨rfl, rfl⟩
  · clear D hs
    go_enter Try.func18, Try.ntmps18
    go_wp2
    go_ret
    exact ⟨rfl, rfl⟩
end Go.Proofs.Qxb6603359a
