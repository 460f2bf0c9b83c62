/-
  The walks of zzRunBefore (34), zzTailEndsAt (35), zzSpecQuoteEndingAt (19).
-/
import Derived.Test.Qxb6603303aBack
import Derived.Test.Qxb6603303aClone
import Derived.BigQuiet
import Derived.Deep.QuietTactic
namespace Go.Proofs.Qxb6603303a
open Go.RowKit

/-- m backslashes end right before p, and no more. -/
theorem rb_spec (g : Nat → Int) (p : Nat) : (∀ k, k < rb g p → g (p - 1 - k) = 92) ∧ (rb g p < p → g (p - 1 - rb g p) ≠ 92) := by
  induction p with
  | zero => exact ⟨fun k hk => by simp [rb] at hk, fun h => by omega⟩
  | succ p ih =>
    by_cases h : g p = 92
    · rw [rb_succ g p h]
      refine ⟨fun k hk => ?_, fun hk => ?_⟩
      · cases k with
        | zero => exact h
        | succ k => have := ih.1 k (by omega); rwa [show p + 1 - 1 - (k + 1) = p - 1 - k by omega]
      · have := ih.2 (by omega); rwa [show p + 1 - 1 - (rb g p + 1) = p - 1 - rb g p by omega]
    · rw [rb_zero g p h]
      exact ⟨fun k hk => by omega, fun _ => h⟩

set_option maxHeartbeats 1000000 in
/-- zzRunBefore. -/
theorem runBefore_any (b off n cap p : Nat) (g : Nat → Int) (w : World) (hn : n ≤ 2097152) (hp : p ≤ n)
    (hc : ∀ i, i < n → w.cell? ⟨b, off + i, none⟩ = some (.int .u8 (g i))) :
    Calls Try.prog 34 #[.slice (some ⟨b, off, none⟩) n cap, .int .i64 p] w fun e w' => e = .returned (.int .i64 (rb g p)) ∧ w' = w := by
  have HC : Hid (∀ i, i < n → w.cell? ⟨b, off + i, none⟩ = some (.int .u8 (g i))) := hc
  have HS := rb_spec g p
  have hle := rb_le g p
  clear hc
  generalize rb g p = r at *
  obtain ⟨hs1, hs2⟩ := HS
  have HS1 : Hid (∀ k, k < r → g (p - 1 - k) = 92) := hs1
  have HS2 : Hid (r < p → g (p - 1 - r) ≠ 92) := hs2
  clear hs1 hs2
  go_enter Try.func34, Try.ntmps34
  go_wp2
  go_loop [5] (fun i => ∃ k : Nat, k ≤ r ∧ i = .int .i64 k) (fun i => r - (intOf i).toNat)
  case atStart => exact ⟨0, Nat.zero_le _, rfl⟩
  case round =>
    obtain ⟨k, hk, rfl⟩ := hrel
    by_cases hlt : k < r
    · obtain ⟨q, hq⟩ : ∃ q, p = q + 1 + k := ⟨p - 1 - k, by omega⟩
      subst hq
      have g1 : w.cell? ⟨b, off + q, none⟩ = some (.int .u8 92) := by
        have := HC.out q (by omega)
        rwa [show g q = 92 by have := HS1.out k hlt; rwa [show q + 1 + k - 1 - k = q by omega] at this] at this
      go_wp2
      go_round
      case rel => exact ⟨k + 1, by omega, by go_num⟩
      case measure => simp [intOf]; omega
    · have hkr : k = r := by omega
      subst hkr
      by_cases hz : k < p
      · obtain ⟨q, hq⟩ : ∃ q, p = q + 1 + k := ⟨p - 1 - k, by omega⟩
        subst hq
        have g1 : w.cell? ⟨b, off + q, none⟩ = some (.int .u8 (g q)) := HC.out q (by omega)
        have g2 : (g q == 92) = false := by
          have := HS2.out (by omega); rw [show q + 1 + k - 1 - k = q by omega] at this
          exact beqf this
        go_wp2
        go_ret
        exact ⟨rfl, rfl⟩
      · have hz : k = p := by omega
        subst hz
        go_wp2
        go_ret
        exact ⟨rfl, rfl⟩

/-- u0022 stands from q on. -/
def tailB (g : Nat → Int) (q : Nat) : Bool := g q == 117 && g (q + 1) == 48 && g (q + 2) == 48 && g (q + 3) == 50 && g (q + 4) == 50

theorem five (k : Nat) (h : k < 5) : k = 0 ∨ k = 1 ∨ k = 2 ∨ k = 3 ∨ k = 4 := by omega

theorem tailB_iff (g : Nat → Int) (q : Nat) : tailB g q = true ↔ ∀ k, k < 5 → g (q + k) = tailC k := by
  obtain ⟨t0, t1, t2, t3, t4⟩ := tailC_vals
  unfold tailB
  simp only [Bool.and_eq_true, beq_iff_eq]
  constructor
  · rintro ⟨⟨⟨⟨h0, h1⟩, h2⟩, h3⟩, h4⟩ k hk
    rcases five k hk with rfl | rfl | rfl | rfl | rfl
    · rw [t0]; exact h0
    · rw [t1]; exact h1
    · rw [t2]; exact h2
    · rw [t3]; exact h3
    · rw [t4]; exact h4
  · intro h
    exact ⟨⟨⟨⟨(h 0 (by omega)).trans t0, (h 1 (by omega)).trans t1⟩, (h 2 (by omega)).trans t2⟩, (h 3 (by omega)).trans t3⟩, (h 4 (by omega)).trans t4⟩

theorem tailB_false (g : Nat → Int) (q k : Nat) (hk : k < 5) (h : g (q + k) ≠ tailC k) : tailB g q = false := by
  cases e : tailB g q
  · rfl
  · exact absurd ((tailB_iff g q).1 e k hk) h

theorem tailEnds_short (b off n cap p : Nat) (w : World) (hp : p < 4) :
    Calls Try.prog 35 #[.slice (some ⟨b, off, none⟩) n cap, .int .i64 p] w fun e w' => e = .returned (.bool false) ∧ w' = w := by
  go_enter Try.func35, Try.ntmps35
  go_wp2
  go_ret
  exact ⟨rfl, rfl⟩

set_option maxHeartbeats 1000000 in
theorem tailEnds_long (b off n cap q : Nat) (g : Nat → Int) (w : World) (hn : n ≤ 2097152) (hp : q + 4 < n)
    (hc : ∀ i, i < n → w.cell? ⟨b, off + i, none⟩ = some (.int .u8 (g i))) :
    Calls Try.prog 35 #[.slice (some ⟨b, off, none⟩) n cap, .int .i64 ((q + 4 : Nat) : Int)] w fun e w' => e = .returned (.bool (tailB g q)) ∧ Below w.heap.size w w' ∧ w.heap.size = w'.heap.size := by
  have HC : Hid (∀ i, i < n → w.cell? ⟨b, off + i, none⟩ = some (.int .u8 (g i))) := hc
  clear hc
  have hq : ((q : Int) + 4 - 5 + 1) = q := by omega
  have t0 := tail0
  have t1 := tail1
  have t2 := tail2
  have t3 := tail3
  have t4 := tail4
  go_enter Try.func35, Try.ntmps35
  go_wp2
  go_loopw [6] (fun i wr => ∃ k : Nat, k ≤ 5 ∧ i = .int .i64 k ∧ Hid (∀ j, j < k → g (q + j) = tailC j) ∧ Below w.heap.size w wr ∧ w.heap.size = wr.heap.size) (fun i _ => 5 - (intOf i).toNat)
  case atStart => exact ⟨0, Nat.zero_le _, rfl, fun j hj => by omega, Below.refl _ _, rfl⟩
  case round =>
    obtain ⟨k, hk, rfl, HJ, hbel, hsz⟩ := hrel
    by_cases hlt : k < 5
    · have gk : ∀ k, k < 5 → wr.cell? ⟨b, off + (q + k), none⟩ = some (.int .u8 (g (q + k))) := fun k hk => by
        have := HC.out (q + k) (by omega)
        exact (hbel.cell (p := ⟨b, off + (q + k), none⟩) (World.block_lt_of_cell? _ _ this)).trans this
      have HB : Hid (Below w.heap.size w wr ∧ w.heap.size = wr.heap.size) := ⟨hbel, hsz⟩
      clear hbel hsz
      rcases five k hlt with rfl | rfl | rfl | rfl | rfl
      · have g1 : wr.cell? ⟨b, off + (q), none⟩ = some (.int .u8 (g (q))) := gk 0 (by omega)
        clear gk
        by_cases he : g (q) = 117
        · have hb : (g (q) != 117) = false := by rw [he]; rfl
          have HJ' : Hid (∀ j, j < 1 → g (q + j) = tailC j) := fun j hj => by
            by_cases e : j = 0
            · subst e; exact he
            · exact HJ.out j (by omega)
          generalize g (q) = x at g1 hb
          clear he
          go_wp2
          go_quiet (fail)
          go_wp2
          go_roundw
          case rel => exact ⟨1, by omega, by go_num, HJ', below_drewN HB.out.1 _, HB.out.2⟩
          case measure => simp [intOf]
        · have hb : (g (q) != 117) = true := bnet he
          have hfin : Hid (tailB g q = false) := tailB_false g q 0 (by omega) he
          generalize g (q) = x at g1 hb
          clear he
          go_wp2
          go_quiet (fail)
          go_wp2
          go_ret
          exact ⟨by rw [hfin.out]; rfl, below_drewN HB.out.1 _, HB.out.2⟩
      · have g1 : wr.cell? ⟨b, off + (q + 1), none⟩ = some (.int .u8 (g (q + 1))) := gk 1 (by omega)
        clear gk
        by_cases he : g (q + 1) = 48
        · have hb : (g (q + 1) != 48) = false := by rw [he]; rfl
          have HJ' : Hid (∀ j, j < 2 → g (q + j) = tailC j) := fun j hj => by
            by_cases e : j = 1
            · subst e; exact he
            · exact HJ.out j (by omega)
          generalize g (q + 1) = x at g1 hb
          clear he
          go_wp2
          go_quiet (fail)
          go_wp2
          go_roundw
          case rel => exact ⟨2, by omega, by go_num, HJ', below_drewN HB.out.1 _, HB.out.2⟩
          case measure => simp [intOf]
        · have hb : (g (q + 1) != 48) = true := bnet he
          have hfin : Hid (tailB g q = false) := tailB_false g q 1 (by omega) he
          generalize g (q + 1) = x at g1 hb
          clear he
          go_wp2
          go_quiet (fail)
          go_wp2
          go_ret
          exact ⟨by rw [hfin.out]; rfl, below_drewN HB.out.1 _, HB.out.2⟩
      · have g1 : wr.cell? ⟨b, off + (q + 2), none⟩ = some (.int .u8 (g (q + 2))) := gk 2 (by omega)
        clear gk
        by_cases he : g (q + 2) = 48
        · have hb : (g (q + 2) != 48) = false := by rw [he]; rfl
          have HJ' : Hid (∀ j, j < 3 → g (q + j) = tailC j) := fun j hj => by
            by_cases e : j = 2
            · subst e; exact he
            · exact HJ.out j (by omega)
          generalize g (q + 2) = x at g1 hb
          clear he
          go_wp2
          go_quiet (fail)
          go_wp2
          go_roundw
          case rel => exact ⟨3, by omega, by go_num, HJ', below_drewN HB.out.1 _, HB.out.2⟩
          case measure => simp [intOf]
        · have hb : (g (q + 2) != 48) = true := bnet he
          have hfin : Hid (tailB g q = false) := tailB_false g q 2 (by omega) he
          generalize g (q + 2) = x at g1 hb
          clear he
          go_wp2
          go_quiet (fail)
          go_wp2
          go_ret
          exact ⟨by rw [hfin.out]; rfl, below_drewN HB.out.1 _, HB.out.2⟩
      · have g1 : wr.cell? ⟨b, off + (q + 3), none⟩ = some (.int .u8 (g (q + 3))) := gk 3 (by omega)
        clear gk
        by_cases he : g (q + 3) = 50
        · have hb : (g (q + 3) != 50) = false := by rw [he]; rfl
          have HJ' : Hid (∀ j, j < 4 → g (q + j) = tailC j) := fun j hj => by
            by_cases e : j = 3
            · subst e; exact he
            · exact HJ.out j (by omega)
          generalize g (q + 3) = x at g1 hb
          clear he
          go_wp2
          go_quiet (fail)
          go_wp2
          go_roundw
          case rel => exact ⟨4, by omega, by go_num, HJ', below_drewN HB.out.1 _, HB.out.2⟩
          case measure => simp [intOf]
        · have hb : (g (q + 3) != 50) = true := bnet he
          have hfin : Hid (tailB g q = false) := tailB_false g q 3 (by omega) he
          generalize g (q + 3) = x at g1 hb
          clear he
          go_wp2
          go_quiet (fail)
          go_wp2
          go_ret
          exact ⟨by rw [hfin.out]; rfl, below_drewN HB.out.1 _, HB.out.2⟩
      · have g1 : wr.cell? ⟨b, off + (q + 4), none⟩ = some (.int .u8 (g (q + 4))) := gk 4 (by omega)
        clear gk
        by_cases he : g (q + 4) = 50
        · have hb : (g (q + 4) != 50) = false := by rw [he]; rfl
          have HJ' : Hid (∀ j, j < 5 → g (q + j) = tailC j) := fun j hj => by
            by_cases e : j = 4
            · subst e; exact he
            · exact HJ.out j (by omega)
          generalize g (q + 4) = x at g1 hb
          clear he
          go_wp2
          go_quiet (fail)
          go_wp2
          go_roundw
          case rel => exact ⟨5, by omega, by go_num, HJ', below_drewN HB.out.1 _, HB.out.2⟩
          case measure => simp [intOf]
        · have hb : (g (q + 4) != 50) = true := bnet he
          have hfin : Hid (tailB g q = false) := tailB_false g q 4 (by omega) he
          generalize g (q + 4) = x at g1 hb
          clear he
          go_wp2
          go_quiet (fail)
          go_wp2
          go_ret
          exact ⟨by rw [hfin.out]; rfl, below_drewN HB.out.1 _, HB.out.2⟩
    · have hk5 : k = 5 := by omega
      subst hk5
      have hfin : Hid (tailB g q = true) := (tailB_iff g q).2 (fun j hj => HJ.out j hj)
      have HB : Hid (Below w.heap.size w wr ∧ w.heap.size = wr.heap.size) := ⟨hbel, hsz⟩
      clear hbel hsz
      go_wp2
      go_ret
      exact ⟨by rw [hfin.out]; rfl, HB.out.1, HB.out.2⟩
end Go.Proofs.Qxb6603303a
