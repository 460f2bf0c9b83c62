/-
  The walks of twice$1 (45), slices.IndexFunc (47), slices.ContainsFunc (44), twice (36), ZZtwice (21).
-/
import Derived.Test.Qxb6603359aCopy
namespace Go.Proofs.Qxb6603359a
open Go.RowKit

theorem clo_any (x y : Int) (a : Option Addr) (l c D : Nat) (w : World) (hd : w.cell? ⟨D, 0, none⟩ = some (.int .i64 y)) :
    Calls Try.prog 45 #[.agg #[.int .i64 x, .slice a l c], .pointer (some ⟨D, 0, none⟩)] w fun e w' => e = .returned (.bool (x == y)) ∧ Below w.heap.size w w' := by
  have hD : D < w.heap.size := World.block_lt_of_cell? _ _ hd
  have hd2 : (w.alloc (.cells #[.int .i64 x, .slice a l c] 50)).cell? ⟨D, 0, none⟩ = some (.int .i64 y) := (((Below.refl _ w).alloc (Nat.le_refl _) _).cell (p := ⟨D, 0, none⟩) hD).trans hd
  go_enter Try.func45, Try.ntmps45
  go_wp2
  go_ret
  exact ⟨rfl, (Below.refl _ _).alloc (Nat.le_refl _) _⟩

set_option maxHeartbeats 1000000 in
/-- slices.IndexFunc with twice's test: the first that is equal is at m - d .. -/
theorem idx_hit (b off m cap D j : Nat) (y : Int) (alg : Nat → Int) (A : Nat → Option Addr) (L C : Nat → Nat) (w : World) (hm : m ≤ 1048576) (G : Digs w b off m alg A L C) (hd : w.cell? ⟨D, 0, none⟩ = some (.int .i64 y))
    (hj : j < m) (h1 : alg j = y) (h2 : ∀ i, i < j → alg i ≠ y) :
    Calls Try.prog 47 #[.slice (some ⟨b, off, none⟩) m cap, .func (.func 45) #[] #[.pointer (some ⟨D, 0, none⟩)]] w fun e w' => e = .returned (.int .i64 j) ∧ Below w.heap.size w w' := by
  have HG : Hid (Digs w b off m alg A L C) := G
  have HD : Hid (w.cell? ⟨D, 0, none⟩ = some (.int .i64 y)) := hd
  have hD : Hid (D < w.heap.size) := World.block_lt_of_cell? _ _ hd
  have H1 : Hid (alg j = y) := h1
  have H2 : Hid (∀ i, i < j → alg i ≠ y) := h2
  clear G hd h1 h2
  go_enter Try.func47, Try.ntmps47
  go_wp2_with fail
  go_loopw [8] (fun i wr => ∃ k : Nat, k ≤ j ∧ i = .int .i64 k ∧ Below w.heap.size w wr) (fun i _ => m - (intOf i).toNat)
  case atStart => exact ⟨0, Nat.zero_le _, rfl, Below.refl _ _⟩
  case round =>
    obtain ⟨k, hk, rfl, hbel⟩ := hrel
    have hlt : k < m := by omega
    have G' := HG.out.below hbel
    have c1 := G'.alg k hlt
    have c2 := G'.val k hlt
    clear G'
    have HC : Hid (∀ a l c, Calls Try.prog 45 #[.agg #[.int .i64 (alg k), .slice a l c], .pointer (some ⟨D, 0, none⟩)] wr fun e w' => e = .returned (.bool (alg k == y)) ∧ Below wr.heap.size wr w') := fun a l c =>
      clo_any (alg k) y a l c D wr ((hbel.cell (p := ⟨D, 0, none⟩) hD.out).trans HD.out)
    have HB : Hid (Below w.heap.size w wr) := hbel
    clear hbel
    generalize A k = ak at c2
    generalize L k = lk at c2
    generalize C k = ck at c2
    by_cases hkj : k < j
    · have he : (alg k == y) = false := beq_eq_false_iff_ne.2 (H2.out k hkj)
      generalize alg k = x at c1 HC he
      go_wp2_with fail
      refine (HC.out _ _ _).mono ?_
      rintro e w1 ⟨rfl, hb1⟩
      have HB1 : Hid (Below w.heap.size w w1) := HB.out.trans (hb1.mono HB.out.size)
      clear hb1
      go_wp2_with fail
      go_roundw
      case rel => exact ⟨k + 1, by omega, by go_num, HB1.out⟩
      case measure => simp [intOf]; omega
    · have hkj' : k = j := by omega
      subst hkj'
      have he : (alg k == y) = true := beq_iff_eq.2 H1.out
      generalize alg k = x at c1 HC he
      go_wp2_with fail
      refine (HC.out _ _ _).mono ?_
      rintro e w1 ⟨rfl, hb1⟩
      have HB1 : Hid (Below w.heap.size w w1) := HB.out.trans (hb1.mono HB.out.size)
      clear hb1
      go_wp2_with fail
      go_ret
      exact ⟨rfl, HB1.out⟩

set_option maxHeartbeats 1000000 in
/-- .. none is equal. -/
theorem idx_miss (b off m cap D : Nat) (y : Int) (alg : Nat → Int) (A : Nat → Option Addr) (L C : Nat → Nat) (w : World) (hm : m ≤ 1048576) (G : Digs w b off m alg A L C) (hd : w.cell? ⟨D, 0, none⟩ = some (.int .i64 y))
    (h2 : ∀ i, i < m → alg i ≠ y) :
    Calls Try.prog 47 #[.slice (some ⟨b, off, none⟩) m cap, .func (.func 45) #[] #[.pointer (some ⟨D, 0, none⟩)]] w fun e w' => e = .returned (.int .i64 (-1)) ∧ Below w.heap.size w w' := by
  have HG : Hid (Digs w b off m alg A L C) := G
  have HD : Hid (w.cell? ⟨D, 0, none⟩ = some (.int .i64 y)) := hd
  have hD : Hid (D < w.heap.size) := World.block_lt_of_cell? _ _ hd
  have H2 : Hid (∀ i, i < m → alg i ≠ y) := h2
  clear G hd h2
  go_enter Try.func47, Try.ntmps47
  go_wp2_with fail
  go_loopw [8] (fun i wr => ∃ k : Nat, k ≤ m ∧ i = .int .i64 k ∧ Below w.heap.size w wr) (fun i _ => m - (intOf i).toNat)
  case atStart => exact ⟨0, Nat.zero_le _, rfl, Below.refl _ _⟩
  case round =>
    obtain ⟨k, hk, rfl, hbel⟩ := hrel
    by_cases hlt : k < m
    · have G' := HG.out.below hbel
      have c1 := G'.alg k hlt
      have c2 := G'.val k hlt
      clear G'
      have HC : Hid (∀ a l c, Calls Try.prog 45 #[.agg #[.int .i64 (alg k), .slice a l c], .pointer (some ⟨D, 0, none⟩)] wr fun e w' => e = .returned (.bool (alg k == y)) ∧ Below wr.heap.size wr w') := fun a l c =>
        clo_any (alg k) y a l c D wr ((hbel.cell (p := ⟨D, 0, none⟩) hD.out).trans HD.out)
      have HB : Hid (Below w.heap.size w wr) := hbel
      clear hbel
      generalize A k = ak at c2
      generalize L k = lk at c2
      generalize C k = ck at c2
      have he : (alg k == y) = false := beq_eq_false_iff_ne.2 (H2.out k hlt)
      generalize alg k = x at c1 HC he
      go_wp2_with fail
      refine (HC.out _ _ _).mono ?_
      rintro e w1 ⟨rfl, hb1⟩
      have HB1 : Hid (Below w.heap.size w w1) := HB.out.trans (hb1.mono HB.out.size)
      clear hb1
      go_wp2_with fail
      go_roundw
      case rel => exact ⟨k + 1, by omega, by go_num, HB1.out⟩
      case measure => simp [intOf]; omega
    · have HB : Hid (Below w.heap.size w wr) := hbel
      clear hbel
      go_wp2_with fail
      go_ret
      exact ⟨rfl, HB.out⟩

/-- slices.ContainsFunc hands it on. -/
theorem con_of (v f : Value) (r : Int) (ok : Bool) (w : World) (ho : decide (0 ≤ r) = ok) (h : Calls Try.prog 47 #[v, f] w fun e w' => e = .returned (.int .i64 r) ∧ Below w.heap.size w w') :
    Calls Try.prog 44 #[v, f] w fun e w' => e = .returned (.bool ok) ∧ Below w.heap.size w w' := by
  have H : Hid (Calls Try.prog 47 #[v, f] w fun e w' => e = .returned (.int .i64 r) ∧ Below w.heap.size w w') := h
  clear h
  go_enter Try.func44, Try.ntmps44
  go_wp2_with fail
  refine (Hid.out H).mono ?_
  rintro e w1 ⟨rfl, hb⟩
  have HB : Hid (Below w.heap.size w w1) := hb
  clear hb
  go_wp2_with fail
  go_ret
  exact ⟨rfl, HB.out⟩

/-- The digests from k + 1 on. -/
theorem Digs.from {w : World} {b n : Nat} {alg : Nat → Int} {A : Nat → Option Addr} {L C : Nat → Nat} (h : Digs w b 0 n alg A L C) (k : Nat) :
    Digs w b (0 + (k + 1) * 2) (n - (k + 1)) (fun i => alg (k + 1 + i)) (fun i => A (k + 1 + i)) (fun i => L (k + 1 + i)) (fun i => C (k + 1 + i)) := by
  refine ⟨fun i hi => ?_, fun i hi => ?_⟩
  · have := h.alg (k + 1 + i) (by omega)
    rw [Nat.zero_add] at this
    rw [show 0 + (k + 1) * 2 + i * 2 = (k + 1 + i) * 2 by omega]; exact this
  · have := h.val (k + 1 + i) (by omega)
    rw [Nat.zero_add] at this
    rw [show 0 + (k + 1) * 2 + i * 2 + 1 = (k + 1 + i) * 2 + 1 by omega]; exact this

/-- The first that is equal to y among those from k + 1 on; or none. -/
theorem first_eq (alg : Nat → Int) (m : Nat) (y : Int) : (∀ i, i < m → alg i ≠ y) ∨ ∃ j, j < m ∧ alg j = y ∧ ∀ i, i < j → alg i ≠ y := by
  induction m with
  | zero => exact Or.inl (fun i hi => by omega)
  | succ m ih =>
    rcases ih with h | ⟨j, h1, h2, h3⟩
    · by_cases e : alg m = y
      · exact Or.inr ⟨m, by omega, e, h⟩
      · refine Or.inl (fun i hi => ?_)
        by_cases ei : i = m
        · rw [ei]; exact e
        · exact h i (by omega)
    · exact Or.inr ⟨j, by omega, h2, h3⟩

/-- slices.ContainsFunc over the digests behind k. -/
theorem con_any (b n k D : Nat) (alg : Nat → Int) (A : Nat → Option Addr) (L C : Nat → Nat) (w : World) (hn : n ≤ 1048576) (hk : k + 1 < n) (G : Digs w b 0 n alg A L C) (hd : w.cell? ⟨D, 0, none⟩ = some (.int .i64 (alg k))) (ok : Bool) (ho : ok = true ↔ Dup alg n k) :
    Calls Try.prog 44 #[.slice (some ⟨b, 0 + (k + 1) * 2, none⟩) (n - (k + 1)) (n - (k + 1)), .func (.func 45) #[] #[.pointer (some ⟨D, 0, none⟩)]] w fun e w' => e = .returned (.bool ok) ∧ Below w.heap.size w w' := by
  have G' := G.from k
  rcases first_eq (fun i => alg (k + 1 + i)) (n - (k + 1)) (alg k) with h | ⟨j, h1, h2, h3⟩
  · have hok : ok = false := by
      cases ok
      · rfl
      · obtain ⟨j, j1, j2, j3⟩ := ho.1 rfl
        exact absurd j3 (by have := h (j - (k + 1)) (by omega); rwa [show k + 1 + (j - (k + 1)) = j by omega] at this)
    exact con_of _ _ (-1) ok w (by rw [hok]; rfl) (idx_miss b _ (n - (k + 1)) _ D (alg k) _ _ _ _ w (by omega) G' hd h)
  · have hok : ok = true := ho.2 ⟨k + 1 + j, by omega, by omega, h2⟩
    exact con_of _ _ j ok w (by rw [hok]; exact decide_eq_true (by omega)) (idx_hit b _ (n - (k + 1)) _ D j (alg k) _ _ _ _ w (by omega) G' hd h1 h2 h3)
/-- .. behind the last one there is none. -/
theorem con_last (b off D : Nat) (y : Int) (cap : Nat) (w : World) (hd : w.cell? ⟨D, 0, none⟩ = some (.int .i64 y)) :
    Calls Try.prog 44 #[.slice (some ⟨b, off, none⟩) 0 cap, .func (.func 45) #[] #[.pointer (some ⟨D, 0, none⟩)]] w fun e w' => e = .returned (.bool false) ∧ Below w.heap.size w w' :=
  con_of _ _ (-1) false w rfl (idx_miss b off 0 cap D y (fun _ => 0) (fun _ => none) (fun _ => 0) (fun _ => 0) w (by omega) ⟨fun i hi => by omega, fun i hi => by omega⟩ hd (fun i hi => by omega))

theorem dup_last (alg : Nat → Int) (n k : Nat) (h : n = k + 1) : ¬ Dup alg n k := fun ⟨j, h1, h2, _⟩ => by omega

set_option maxHeartbeats 2000000 in
/-- One round of twice: the call, whatever k. -/
theorem con_at (b n k D : Nat) (alg : Nat → Int) (A : Nat → Option Addr) (L C : Nat → Nat) (w : World) (hn : n ≤ 1048576) (hk : k < n) (G : Digs w b 0 n alg A L C) (hd : w.cell? ⟨D, 0, none⟩ = some (.int .i64 (alg k))) (ok : Bool) (ho : ok = true ↔ Dup alg n k) :
    (¬ n = k + 1 → Calls Try.prog 44 #[.slice (some ⟨b, (k + 1) * 2, none⟩) (n - (k + 1)) (n - (k + 1)), .func (.func 45) #[] #[.pointer (some ⟨D, 0, none⟩)]] w fun e w' => e = .returned (.bool ok) ∧ Below w.heap.size w w') ∧
    (n = k + 1 → Calls Try.prog 44 #[.slice (some ⟨b, 0, none⟩) 0 0, .func (.func 45) #[] #[.pointer (some ⟨D, 0, none⟩)]] w fun e w' => e = .returned (.bool ok) ∧ Below w.heap.size w w') := by
  refine ⟨fun h => ?_, fun h => ?_⟩
  · have := con_any b n k D alg A L C w hn (by omega) G hd ok ho
    rwa [Nat.zero_add] at this
  · have hok : ok = false := by
      cases ok
      · rfl
      · exact absurd (ho.1 rfl) (dup_last alg n k h)
    rw [hok]
    exact con_last b 0 D (alg k) 0 w hd

set_option maxHeartbeats 2000000 in
theorem twice_any (b n : Nat) (alg : Nat → Int) (A : Nat → Option Addr) (L C : Nat → Nat) (w : World) (hn : n ≤ 1048576) (G : Digs w b 0 n alg A L C) (x : Int) (ok : Bool) (hT : TwiceIs alg n x ok) :
    Calls Try.prog 36 #[.slice (some ⟨b, 0, none⟩) n n] w fun e w' => e = .returned (.tuple #[.int .i64 x, .bool ok]) ∧ Below w.heap.size w w' := by
  have HG : Hid (Digs w b 0 n alg A L C) := G
  clear G
  obtain ⟨st, hst1, hst2, hst3⟩ : ∃ st, st ≤ n ∧ (∀ i, i < st → ¬ Dup alg n i) ∧ ((st = n ∧ x = 0 ∧ ok = false) ∨ (st < n ∧ Dup alg n st ∧ x = alg st ∧ ok = true)) := by
    rcases hT with ⟨h1, h2, h3⟩ | ⟨h1, i, i1, i2, i3, i4⟩
    · exact ⟨n, Nat.le_refl _, h3, Or.inl ⟨rfl, h2, h1⟩⟩
    · exact ⟨i, by omega, i4, Or.inr ⟨i1, i3, i2, h1⟩⟩
  have HS2 : Hid (∀ i, i < st → ¬ Dup alg n i) := hst2
  have HS3 : Hid ((st = n ∧ x = 0 ∧ ok = false) ∨ (st < n ∧ Dup alg n st ∧ x = alg st ∧ ok = true)) := hst3
  clear hst2 hst3 hT
  go_enter Try.func36, Try.ntmps36
  go_wp2_with fail
  go_loopw [8] (fun i wr => ∃ k : Nat, k ≤ st ∧ i = .int .i64 k ∧ Below w.heap.size w wr) (fun i _ => n - (intOf i).toNat)
  case atStart => exact ⟨0, Nat.zero_le _, rfl, Below.refl _ _⟩
  case round =>
    obtain ⟨k, hk, rfl, hbel⟩ := hrel
    by_cases hlt : k < n
    · have G' := HG.out.below hbel
      have c1 : wr.cell? ⟨b, k * 2, none⟩ = some (.int .i64 (alg k)) := by have := G'.alg k hlt; rwa [Nat.zero_add] at this
      have c2 : wr.cell? ⟨b, k * 2 + 1, none⟩ = some (.slice (A k) (L k) (C k)) := by have := G'.val k hlt; rwa [Nat.zero_add] at this
      have hba : Below wr.heap.size wr (wr.alloc (.cells #[.int .i64 (alg k), .slice (A k) (L k) (C k)] 50)) := (Below.refl _ _).alloc (Nat.le_refl _) _
      have hcell : (wr.alloc (.cells #[.int .i64 (alg k), .slice (A k) (L k) (C k)] 50)).cell? ⟨wr.heap.size, 0, none⟩ = some (.int .i64 (alg k)) := by simp [go_sem]
      obtain ⟨bk, hbk⟩ : ∃ bk : Bool, bk = true ↔ Dup alg n k := by
        by_cases hd : Dup alg n k
        · exact ⟨true, by simp [hd]⟩
        · exact ⟨false, by simp [hd]⟩
      obtain ⟨k1, k2⟩ := con_at b n k wr.heap.size alg A L C _ hn hlt (G'.below hba) hcell bk hbk
      have HB : Hid (Below w.heap.size w wr) := hbel
      have HB2 : Hid (∀ w1, Below (wr.alloc (.cells #[.int .i64 (alg k), .slice (A k) (L k) (C k)] 50)).heap.size (wr.alloc (.cells #[.int .i64 (alg k), .slice (A k) (L k) (C k)] 50)) w1 → Below w.heap.size w w1 ∧ w1.cell? ⟨wr.heap.size, 0, none⟩ = some (.int .i64 (alg k))) := fun w1 h1 =>
        ⟨hbel.trans ((hba.mono hbel.size).trans (h1.mono (Nat.le_trans hbel.size hba.size))), (h1.cell (p := ⟨wr.heap.size, 0, none⟩) (World.block_lt_of_cell? _ _ hcell)).trans hcell⟩
      have hcase : (bk = true ∧ k = st ∧ x = alg k ∧ ok = true) ∨ (bk = false ∧ k < st) := by
        cases bk
        · refine Or.inr ⟨rfl, ?_⟩
          rcases Nat.lt_or_ge k st with h | h
          · exact h
          · have e : k = st := by omega
            rcases HS3.out with ⟨a1, _⟩ | ⟨a1, a2, _⟩
            · omega
            · rw [← e] at a2; exact absurd (hbk.2 a2) (by simp)
        · have hd := hbk.1 rfl
          have e : k = st := by
            rcases Nat.lt_or_ge k st with h | h
            · exact absurd hd (HS2.out k h)
            · omega
          rcases HS3.out with ⟨a1, _⟩ | ⟨a1, a2, a3, a4⟩
          · omega
          · exact Or.inl ⟨rfl, e, by rw [a3, e], a4⟩
      clear hbk hbel hba G' hcell
      generalize A k = ak at *
      generalize L k = lk at *
      generalize C k = ck at *
      by_cases hnk : n = k + 1
      · have K : Hid (Calls Try.prog 44 #[.slice (some ⟨b, 0, none⟩) 0 0, .func (.func 45) #[] #[.pointer (some ⟨wr.heap.size, 0, none⟩)]] (wr.alloc (.cells #[.int .i64 (alg k), .slice ak lk ck] 50)) fun e w' => e = .returned (.bool bk) ∧ Below (wr.alloc (.cells #[.int .i64 (alg k), .slice ak lk ck] 50)).heap.size (wr.alloc (.cells #[.int .i64 (alg k), .slice ak lk ck] 50)) w') := k2 hnk
        have hbf : bk = false := by
          rcases hcase with ⟨_, h1, _⟩ | ⟨h, _⟩
          · rcases HS3.out with ⟨a1, _⟩ | ⟨a1, a2, _⟩
            · omega
            · exact absurd a2 (dup_last alg n st (by omega))
          · exact h
        have hks : k < st := by
          rcases hcase with ⟨h, _⟩ | ⟨_, h⟩
          · rw [hbf] at h; cases h
          · exact h
        clear k1 k2 hcase
        subst hbf
        generalize alg k = y at *
        go_wp2_with fail
        clear hnk
        refine (Hid.out K).mono ?_
        rintro e w1 ⟨rfl, hb⟩
        obtain ⟨b1, b2⟩ := HB2.out _ hb
        have B1 : Hid (Below w.heap.size w w1) := b1
        clear hb b1
        go_wp2_with fail
        go_roundw
        case rel => exact ⟨k + 1, by omega, by go_num, B1.out⟩
        case measure => simp [intOf]; omega
      · have K : Hid (Calls Try.prog 44 #[.slice (some ⟨b, (k + 1) * 2, none⟩) (n - (k + 1)) (n - (k + 1)), .func (.func 45) #[] #[.pointer (some ⟨wr.heap.size, 0, none⟩)]] (wr.alloc (.cells #[.int .i64 (alg k), .slice ak lk ck] 50)) fun e w' => e = .returned (.bool bk) ∧ Below (wr.alloc (.cells #[.int .i64 (alg k), .slice ak lk ck] 50)).heap.size (wr.alloc (.cells #[.int .i64 (alg k), .slice ak lk ck] 50)) w') := k1 hnk
        clear k1 k2
        rcases hcase with ⟨rfl, h1, h2, h3⟩ | ⟨rfl, hks⟩
        · have H1 : Hid (x = alg k ∧ ok = true) := ⟨h2, h3⟩
          clear h1 h2 h3
          generalize alg k = y at *
          go_wp2_with fail
          refine (Hid.out K).mono ?_
          rintro e w1 ⟨rfl, hb⟩
          obtain ⟨b1, b2⟩ := HB2.out _ hb
          have B1 : Hid (Below w.heap.size w w1) := b1
          clear hb b1
          go_wp2_with fail
          go_ret2
          exact ⟨by rw [H1.out.1, H1.out.2]; rfl, B1.out⟩
        · generalize alg k = y at *
          go_wp2_with fail
          refine (Hid.out K).mono ?_
          rintro e w1 ⟨rfl, hb⟩
          obtain ⟨b1, b2⟩ := HB2.out _ hb
          have B1 : Hid (Below w.heap.size w w1) := b1
          clear hb b1
          go_wp2_with fail
          go_roundw
          case rel => exact ⟨k + 1, by omega, by go_num, B1.out⟩
          case measure => simp [intOf]; omega
    · have HB : Hid (Below w.heap.size w wr) := hbel
      have H1 : Hid (x = 0 ∧ ok = false) := by
        rcases HS3.out with ⟨_, a2, a3⟩ | ⟨a1, _⟩
        · exact ⟨a2, a3⟩
        · omega
      clear hbel
      go_wp2_with fail
      go_ret2
      exact ⟨by rw [H1.out.1, H1.out.2]; rfl, HB.out⟩

/-- twice of an empty slice, whatever its address. -/
theorem twice_empty (a : Option Addr) (cap : Nat) (w : World) : Calls Try.prog 36 #[.slice a 0 cap] w fun e w' => e = .returned (.tuple #[.int .i64 0, .bool false]) ∧ Below w.heap.size w w' := by
  go_enter Try.func36, Try.ntmps36
  go_wp2_with fail
  go_loop [8] (fun i => i = .int .i64 0) (fun _ => 0)
  case atStart => rfl
  case round =>
    subst hrel
    go_wp2_with fail
    go_ret2
    exact ⟨rfl, Below.refl _ _⟩

theorem zzt_of (v : Value) (x : Int) (ok : Bool) (w : World) (h : Calls Try.prog 36 #[v] w fun e w' => e = .returned (.tuple #[.int .i64 x, .bool ok]) ∧ Below w.heap.size w w') :
    Calls Try.prog 21 #[v] w fun e w' => e = .returned (.tuple #[.int .i64 x, .bool ok]) ∧ Below w.heap.size w w' := by
  have H : Hid (Calls Try.prog 36 #[v] w fun e w' => e = .returned (.tuple #[.int .i64 x, .bool ok]) ∧ Below w.heap.size w w') := h
  clear h
  go_enter Try.func21, Try.ntmps21
  go_wp2_with fail
  refine (Hid.out H).mono ?_
  rintro e w1 ⟨rfl, hb⟩
  have HB : Hid (Below w.heap.size w w1) := hb
  clear hb
  go_wp2_with fail
  go_ret2
  exact ⟨rfl, HB.out⟩
end Go.Proofs.Qxb6603359a
