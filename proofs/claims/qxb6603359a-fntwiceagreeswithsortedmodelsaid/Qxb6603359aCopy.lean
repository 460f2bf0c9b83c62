/-
  The walk of zzCopyDigests (20).
-/
import Derived.Test.Qxb6603359aSizes
import Derived.Deep.RegionHeld3
import Derived.Deep.Slices
namespace Go.Proofs.Qxb6603359a
open Go.RowKit

theorem Try.info49 : (Try.prog.info? 49).map (fun i => (i.zero, i.size, i.bytes)) = some (some (.agg #[.int .i64 0, .slice none 0 0]), 2, 32) := by kernel_rfl
theorem Try.info50 : (Try.prog.info? 50).map (fun i => (i.zero, i.size, i.bytes)) = some (some (.agg #[.int .i64 0, .slice none 0 0]), 2, 32) := by kernel_rfl

/-- 'make([]T, n)', T of two cells (an int64 and a slice). -/
theorem run_make_pairs (t e : TypeId) (ht : Try.prog.underlying t = some (.slice e)) (hinfo : (Try.prog.info? e).map (fun i => (i.zero, i.size, i.bytes)) = some (some (.agg #[.int .i64 0, .slice none 0 0]), 2, 32))
    (n : Nat) (hn : n ≤ 2097152) (w : World) :
    (Instr.makeSlice t (.int .i64 (n : Int)) (.int .i64 (n : Int))).run Try.prog w = .ok (.slice (some ⟨w.heap.size, 0, none⟩) n n) (w.alloc (.cells (madeCells #[.int .i64 0, .slice none 0 0] (n * 2)) e)) := by
  obtain ⟨i, hi, hzz⟩ := Option.map_eq_some_iff.1 hinfo
  simp only [Prod.mk.injEq] at hzz
  obtain ⟨hz, hs, hb⟩ := hzz
  have hr := run_make (P := Try.prog) w t e i _ ht hi hz .i64 .i64 n n (by omega) (Int.le_refl _) (by rw [hb]; omega) (by omega)
  simp only [Int.toNat_natCast, hs] at hr
  exact hr

theorem rowIs_pairs (w : World) (n : Nat) (t : TypeId) : (w.alloc (.cells (madeCells #[.int .i64 0, .slice none 0 0] (n * 2)) t)).rowIs w.heap.size t (n * 2) (fun i => if i % 2 = 0 then .int .i64 0 else .slice none 0 0) :=
  ⟨_, Go.Deep.blk_alloc_new _ _, size_madeCells _ _, fun i hi => by
    rcases Nat.mod_two_eq_zero_or_one i with h | h <;> simp [madeCells, hi, h]⟩

/-- The first k pairs of a row: the algorithms, and some slice each. -/
def Filled (f : Nat → Value) (alg : Nat → Int) (k : Nat) : Prop := ∀ j, j < k → f (j * 2) = .int .i64 (alg j) ∧ ∃ a l c, f (j * 2 + 1) = .slice a l c

theorem Filled.next {f : Nat → Value} {alg : Nat → Int} {k : Nat} (h : Filled f alg k) (a : Option Addr) (l c : Nat) :
    Filled (fun i => if i = k * 2 + 1 then .slice a l c else if i = k * 2 then .int .i64 (alg k) else f i) alg (k + 1) := by
  intro j hj
  by_cases e : j = k
  · subst e
    refine ⟨?_, a, l, c, ?_⟩
    · show (if j * 2 = j * 2 + 1 then _ else if j * 2 = j * 2 then _ else _) = _
      rw [if_neg (by omega), if_pos rfl]
    · show (if j * 2 + 1 = j * 2 + 1 then _ else _) = _
      rw [if_pos rfl]
  · obtain ⟨h1, a', l', c', h2⟩ := h j (by omega)
    refine ⟨?_, a', l', c', ?_⟩
    · show (if j * 2 = k * 2 + 1 then _ else if j * 2 = k * 2 then _ else f (j * 2)) = _
      rw [if_neg (by omega), if_neg (by omega)]; exact h1
    · show (if j * 2 + 1 = k * 2 + 1 then _ else if j * 2 + 1 = k * 2 then _ else f (j * 2 + 1)) = _
      rw [if_neg (by omega), if_neg (by omega)]; exact h2

/-- A filled row is a slice of digests. -/
theorem Filled.digs {w : World} {B t n : Nat} {f : Nat → Value} {alg : Nat → Int} (hr : w.rowIs B t (n * 2) f) (h : Filled f alg n) : ∃ A L C, Digs w B 0 n alg A L C := by
  obtain ⟨A, hA⟩ := Go.Deep.choose_lt (α := Option Addr) (p := fun i a => ∃ l c, f (i * 2 + 1) = .slice a l c) (fun i hi => by obtain ⟨_, a, l, c, e⟩ := h i hi; exact ⟨a, l, c, e⟩)
  obtain ⟨L, hL⟩ := Go.Deep.choose_lt (α := Nat) (p := fun i l => ∃ c, f (i * 2 + 1) = .slice (A i) l c) hA
  obtain ⟨C, hC⟩ := Go.Deep.choose_lt (α := Nat) (p := fun i c => f (i * 2 + 1) = .slice (A i) (L i) c) hL
  refine ⟨A, L, C, fun i hi => ?_, fun i hi => ?_⟩
  · rw [Nat.zero_add, hr.cell (by omega)]; rw [(h i hi).1]
  · rw [Nat.zero_add, hr.cell (by omega)]; rw [hC i hi]

set_option maxHeartbeats 2000000 in
theorem copy_any (b off n cap : Nat) (alg : Nat → Int) (A : Nat → Option Addr) (L C : Nat → Nat) (g : Nat → Nat → Int) (w : World) (hn : 0 < n) (hn2 : n ≤ 1048576) (D : Digs w b off n alg A L C)
    (hL : ∀ i, i < n → L i ≤ 1048576) (hN : ∀ i, i < n → A i = none → L i = 0 ∧ C i = 0) (hV : ∀ i, i < n → View w (A i) (L i) (g i)) :
    Calls Try.prog 20 #[.slice (some ⟨b, off, none⟩) n cap] w fun e w' => e = .returned (.slice (some ⟨w.heap.size, 0, none⟩) n n) ∧
      (∃ A' L' C', Digs w' w.heap.size 0 n alg A' L' C') ∧ Below w.heap.size w w' := by
  have HD : Hid (Digs w b off n alg A L C) := D
  have hbb : b < w.heap.size := World.block_lt_of_cell? _ _ (D.alg 0 hn)
  have HL : Hid (∀ i, i < n → L i ≤ 1048576) := hL
  have HN : Hid (∀ i, i < n → A i = none → L i = 0 ∧ C i = 0) := hN
  have HV : Hid (∀ i, i < n → View w (A i) (L i) (g i)) := hV
  have hq := fun wx => Lib.run_eql_slice_nil (P := Try.prog) wx 38 49 (some ⟨b, off, none⟩) n cap 0 0 Try.underlying38
  have hmk := run_make_pairs 38 49 Try.underlying38 Try.info49 n (by omega)
  have h0 : Hid ((w.alloc (.cells (madeCells #[.int .i64 0, .slice none 0 0] (n * 2)) 49)).rowIs w.heap.size 49 (n * 2) (fun i => if i % 2 = 0 then .int .i64 0 else .slice none 0 0)) := rowIs_pairs w n 49
  have hB : Hid (Below w.heap.size w (w.alloc (.cells (madeCells #[.int .i64 0, .slice none 0 0] (n * 2)) 49))) := (Below.refl _ _).alloc (Nat.le_refl _) _
  clear D hL hN hV
  go_enter Try.func20, Try.ntmps20
  go_wp2
  go_loopw [4] (fun i wr => ∃ (k : Nat) (f : Nat → Value), k ≤ n ∧ i = .int .i64 k ∧ wr.rowIs w.heap.size 49 (n * 2) f ∧ Hid (Filled f alg k) ∧ Below w.heap.size w wr) (fun i _ => n - (intOf i).toNat)
  case atStart => exact ⟨0, _, Nat.zero_le _, rfl, h0.out, fun j hj => by omega, hB.out⟩
  case round =>
    obtain ⟨k, f, hk, rfl, hrow, HF, hbel⟩ := hrel
    by_cases hlt : k < n
    · have D' := HD.out.below hbel
      have c1 := D'.alg k hlt
      have c2 := D'.val k hlt
      clear D'
      have HR : Hid (wr.rowIs w.heap.size 49 (n * 2) f) := hrow
      have hs : w.heap.size < wr.heap.size := hrow.lt
      have HB : Hid (Below w.heap.size w wr) := hbel
      have HC : Hid (∀ wx : World, wx.heap = wr.heap → Calls Try.prog 35 #[.slice (A k) (L k) (C k)] wx fun e w' => ∃ a', e = .returned (.slice a' (L k) (L k)) ∧ View w' a' (L k) (g k) ∧ Below wx.heap.size wx w') := fun wx hx =>
        clone_view (A k) (L k) (C k) (g k) wx (by have := HL.out k hlt; omega) (HN.out k hlt) (by
          have hv := (HV.out k hlt).below hbel
          intro hp
          obtain ⟨b', off', e', hc'⟩ := hv hp
          exact ⟨b', off', e', fun i hi => by have := hc' i hi; simpa [World.cell?, hx] using this⟩)
      clear hrow hbel
      generalize A k = ak at c2 HC
      generalize L k = lk at c2 HC
      generalize C k = ck at c2 HC
      have hne : w.heap.size ≠ b := by omega
      have HX : Hid (∀ w1 : World, Below wr.drew.heap.size wr.drew w1 → w1.cell? ⟨b, off + k * 2, none⟩ = some (.int .i64 (alg k)) ∧ w1.cell? ⟨b, off + k * 2 + 1, none⟩ = some (.slice ak lk ck) ∧
          w1.cell? ⟨w.heap.size, k * 2, none⟩ = some (f (k * 2)) ∧ w1.cell? ⟨w.heap.size, k * 2 + 1, none⟩ = some (f (k * 2 + 1)) ∧ w1.frozen? ⟨w.heap.size, k * 2, none⟩ = false ∧ w1.frozen? ⟨w.heap.size, k * 2 + 1, none⟩ = false ∧
          w1.rowIs w.heap.size 49 (n * 2) f ∧ Below w.heap.size w w1) := fun w1 hb1 => by
        have hr1 : w1.rowIs w.heap.size 49 (n * 2) f := HR.out.of_block (hb1.block _ hs)
        refine ⟨(hb1.cell (p := ⟨b, off + k * 2, none⟩) (show b < wr.heap.size by omega)).trans c1, (hb1.cell (p := ⟨b, off + k * 2 + 1, none⟩) (show b < wr.heap.size by omega)).trans c2, hr1.cell (by omega), hr1.cell (by omega), hr1.frozen _, hr1.frozen _, hr1, HB.out.trans ?_⟩
        exact ⟨hb1.os, hb1.tape, hb1.output, hb1.size, fun q hq => hb1.block q (Nat.lt_trans hq hs)⟩
      go_wp2_with fail
      go_region_held3 (fun w' => w'.cell? ⟨b, off + k * 2, none⟩ = some (.int .i64 (alg k)) ∧ w'.cell? ⟨b, off + k * 2 + 1, none⟩ = some (.slice ak lk ck)) (go_keep)
        (first | (go_at_call 35; refine (HC.out wr.drew rfl).mono ?_; rintro e w1 ⟨a1, rfl, hv1, hb1⟩; obtain ⟨k1, k2, k3, k4, k5, k6, k7, k8⟩ := HX.out _ hb1; have K7 : Hid (w1.rowIs w.heap.size 49 (n * 2) f) := k7; have K8 : Hid (Below w.heap.size w w1) := k8; clear hv1 hb1 k7 k8))
      go_wp2_with fail
      go_roundw
      case rel => exact ⟨k + 1, _, by omega, by go_num, (K7.out.set (k * 2) _).set (k * 2 + 1) _, HF.out.next a1 lk lk, (K8.out.setCell (Nat.le_refl _) _).setCell (Nat.le_refl _) _⟩
      case measure => simp [intOf]; omega
    · have hkn : k = n := by omega
      subst hkn
      have HR : Hid (wr.rowIs w.heap.size 49 (k * 2) f) := hrow
      have HB : Hid (Below w.heap.size w wr) := hbel
      clear hrow hbel
      go_wp2_with fail
      go_ret
      exact ⟨rfl, HF.out.digs HR.out, HB.out⟩

theorem copy_nil (w : World) : Calls Try.prog 20 #[.slice none 0 0] w fun e w' => e = .returned (.slice none 0 0) ∧ Below w.heap.size w w' := by
  have hq := fun wx => Lib.run_eql_slice_nil (P := Try.prog) wx 38
  go_enter Try.func20, Try.ntmps20
  go_wp2
  go_ret
  exact ⟨rfl, Below.refl _ _⟩
theorem copy_empty (a : Addr) (cap : Nat) (w : World) : Calls Try.prog 20 #[.slice (some a) 0 cap] w fun e w' => e = .returned (.slice (some ⟨w.heap.size, 0, none⟩) 0 0) ∧ Below w.heap.size w w' := by
  have hq := fun wx => Lib.run_eql_slice_nil (P := Try.prog) wx 38 49 (some a) 0 cap 0 0 Try.underlying38
  have hmk : ∀ wx : World, (Instr.makeSlice 38 (.int .i64 0) (.int .i64 0)).run Try.prog wx = .ok (.slice (some ⟨wx.heap.size, 0, none⟩) 0 0) (wx.alloc (.cells (madeCells #[.int .i64 0, .slice none 0 0] (0 * 2)) 49)) := run_make_pairs 38 49 Try.underlying38 Try.info49 0 (by omega)
  have hB : Hid (Below w.heap.size w (w.alloc (.cells (madeCells #[.int .i64 0, .slice none 0 0] (0 * 2)) 49))) := (Below.refl _ _).alloc (Nat.le_refl _) _
  go_enter Try.func20, Try.ntmps20
  go_wp2
  go_loop [4] (fun i => i = .int .i64 0) (fun _ => 0)
  case atStart => rfl
  case round =>
    subst hrel
    go_wp2
    go_ret
    exact ⟨rfl, hB.out⟩

set_option maxHeartbeats 2000000 in
/-- zzToDigests. -/
theorem to_any (b off n cap : Nat) (alg : Nat → Int) (A : Nat → Option Addr) (L C : Nat → Nat) (w : World) (hn : 0 < n) (hn2 : n ≤ 1048576) (D : Digs w b off n alg A L C) :
    Calls Try.prog 22 #[.slice (some ⟨b, off, none⟩) n cap] w fun e w' => e = .returned (.slice (some ⟨w.heap.size, 0, none⟩) n n) ∧
      (∃ A' L' C', Digs w' w.heap.size 0 n alg A' L' C') ∧ Below w.heap.size w w' := by
  have HD : Hid (Digs w b off n alg A L C) := D
  have hbb : b < w.heap.size := World.block_lt_of_cell? _ _ (D.alg 0 hn)
  have hq := fun wx => Lib.run_eql_slice_nil (P := Try.prog) wx 38 49 (some ⟨b, off, none⟩) n cap 0 0 Try.underlying38
  have hmk := run_make_pairs 44 50 Try.underlying44 Try.info50 n (by omega)
  have h0 : Hid ((w.alloc (.cells (madeCells #[.int .i64 0, .slice none 0 0] (n * 2)) 50)).rowIs w.heap.size 50 (n * 2) (fun i => if i % 2 = 0 then .int .i64 0 else .slice none 0 0)) := rowIs_pairs w n 50
  have hB : Hid (Below w.heap.size w (w.alloc (.cells (madeCells #[.int .i64 0, .slice none 0 0] (n * 2)) 50))) := (Below.refl _ _).alloc (Nat.le_refl _) _
  clear D
  go_enter Try.func22, Try.ntmps22
  go_wp2
  go_loopw [4] (fun i wr => ∃ (k : Nat) (f : Nat → Value), k ≤ n ∧ i = .int .i64 k ∧ wr.rowIs w.heap.size 50 (n * 2) f ∧ Hid (Filled f alg k) ∧ Below w.heap.size w wr) (fun i _ => n - (intOf i).toNat)
  case atStart => exact ⟨0, _, Nat.zero_le _, rfl, h0.out, fun j hj => by omega, hB.out⟩
  case round =>
    obtain ⟨k, f, hk, rfl, hrow, HF, hbel⟩ := hrel
    by_cases hlt : k < n
    · have D' := HD.out.below hbel
      have c1 := D'.alg k hlt
      have c2 := D'.val k hlt
      clear D'
      have k3 : wr.cell? ⟨w.heap.size, k * 2, none⟩ = some (f (k * 2)) := hrow.cell (by omega)
      have k4 : wr.cell? ⟨w.heap.size, k * 2 + 1, none⟩ = some (f (k * 2 + 1)) := hrow.cell (by omega)
      have k5 : wr.frozen? ⟨w.heap.size, k * 2, none⟩ = false := hrow.frozen _
      have k6 : wr.frozen? ⟨w.heap.size, k * 2 + 1, none⟩ = false := hrow.frozen _
      have HR : Hid (wr.rowIs w.heap.size 50 (n * 2) f) := hrow
      have HB : Hid (Below w.heap.size w wr) := hbel
      have hne : w.heap.size ≠ b := by omega
      clear hrow hbel
      generalize A k = ak at c2
      generalize L k = lk at c2
      generalize C k = ck at c2
      go_wp2_with fail
      go_region_held3 (fun w' => w'.cell? ⟨b, off + k * 2, none⟩ = some (.int .i64 (alg k)) ∧ w'.cell? ⟨b, off + k * 2 + 1, none⟩ = some (.slice ak lk ck)) (go_keep) (fail)
      go_wp2_with fail
      go_roundw
      case rel => exact ⟨k + 1, _, by omega, by go_num, (HR.out.drew.set (k * 2) _).set (k * 2 + 1) _, HF.out.next ak lk ck, (HB.out.drew.setCell (Nat.le_refl _) _).setCell (Nat.le_refl _) _⟩
      case measure => simp [intOf]; omega
    · have hkn : k = n := by omega
      subst hkn
      have HR : Hid (wr.rowIs w.heap.size 50 (k * 2) f) := hrow
      have HB : Hid (Below w.heap.size w wr) := hbel
      clear hrow hbel
      go_wp2_with fail
      go_ret
      exact ⟨rfl, HF.out.digs HR.out, HB.out⟩

theorem to_nil (w : World) : Calls Try.prog 22 #[.slice none 0 0] w fun e w' => e = .returned (.slice none 0 0) ∧ Below w.heap.size w w' := by
  have hq := fun wx => Lib.run_eql_slice_nil (P := Try.prog) wx 38
  go_enter Try.func22, Try.ntmps22
  go_wp2
  go_ret
  exact ⟨rfl, Below.refl _ _⟩
theorem to_empty (a : Addr) (cap : Nat) (w : World) : Calls Try.prog 22 #[.slice (some a) 0 cap] w fun e w' => e = .returned (.slice (some ⟨w.heap.size, 0, none⟩) 0 0) ∧ Below w.heap.size w w' := by
  have hq := fun wx => Lib.run_eql_slice_nil (P := Try.prog) wx 38 49 (some a) 0 cap 0 0 Try.underlying38
  have hmk : ∀ wx : World, (Instr.makeSlice 44 (.int .i64 0) (.int .i64 0)).run Try.prog wx = .ok (.slice (some ⟨wx.heap.size, 0, none⟩) 0 0) (wx.alloc (.cells (madeCells #[.int .i64 0, .slice none 0 0] (0 * 2)) 50)) := run_make_pairs 44 50 Try.underlying44 Try.info50 0 (by omega)
  have hB : Hid (Below w.heap.size w (w.alloc (.cells (madeCells #[.int .i64 0, .slice none 0 0] (0 * 2)) 50))) := (Below.refl _ _).alloc (Nat.le_refl _) _
  go_enter Try.func22, Try.ntmps22
  go_wp2
  go_loop [4] (fun i => i = .int .i64 0) (fun _ => 0)
  case atStart => rfl
  case round =>
    subst hrel
    go_wp2
    go_ret
    exact ⟨rfl, hB.out⟩
end Go.Proofs.Qxb6603359a
