/-
  The walks of b1Clone (9) at an empty slice and at any slice, and of b1Concat (15).
-/
import Derived.Test.Qxb6603264aClone
namespace Go.Proofs.Qxb6603264a
open Go.RowKit

/-- b1Clone of an empty slice that is not nil: whatever its address. -/
theorem clone_empty (a : Addr) (cap : Nat) (w : World) :
    Calls Try.prog 9 #[.slice (some a) 0 cap] w fun e w' => e = .returned (.slice (some ⟨w.heap.size, 0, none⟩) 0 0) ∧ Below w.heap.size w w' := by
  have hq := fun wx => Lib.run_eql_slice_nil (P := Try.prog) wx 22 5 (some a) 0 cap 0 0 Try.underlying22
  have hmk : ∀ wx : World, (Instr.makeSlice 22 (.int .i64 0) (.int .i64 0)).run Try.prog wx = .ok (.slice (some ⟨wx.heap.size, 0, none⟩) 0 0) (wx.alloc (.cells (madeCells #[.int .u8 0] 0) 5)) := fun wx =>
    run_make_row' (P := Try.prog) 22 5 (.int .u8 0) 1 Try.underlying22 Try.info5 rfl .i64 .i64 0 (by omega) (by omega) wx
  have hB : Hid (Below w.heap.size w (w.alloc (.cells (madeCells #[.int .u8 0] 0) 5))) := (Below.refl _ _).alloc (Nat.le_refl _) _
  go_enter Try.func9, Try.ntmps9
  go_wp2
  go_loop [4] (fun i => i = .int .i64 0) (fun _ => 0)
  case atStart => rfl
  case round =>
    subst hrel
    go_wp2
    go_ret
    exact ⟨rfl, hB.out⟩

/-- A slice of n bytes g 0, g 1, .. in the world w: where there is a byte, its cells lie at a plain address. -/
def View (w : World) (a : Option Addr) (n : Nat) (g : Nat → Int) : Prop :=
  0 < n → ∃ b off, a = some ⟨b, off, none⟩ ∧ ∀ i, i < n → w.cell? ⟨b, off + i, none⟩ = some (.int .u8 (g i))

theorem View.below {w w' : World} {a : Option Addr} {n : Nat} {g : Nat → Int} (h : View w a n g) (hb : Below w.heap.size w w') : View w' a n g := by
  intro hn
  obtain ⟨b, off, e, hc⟩ := h hn
  exact ⟨b, off, e, fun i hi => (hb.cell (p := ⟨b, off + i, none⟩) (World.block_lt_of_cell? _ _ (hc i hi))).trans (hc i hi)⟩

/-- b1Clone of whatever slice. -/
theorem clone_view (a : Option Addr) (n cap : Nat) (g : Nat → Int) (w : World) (hm : n ≤ 2097152) (hnil : a = none → n = 0 ∧ cap = 0) (hv : View w a n g) :
    Calls Try.prog 9 #[.slice a n cap] w fun e w' => ∃ a', e = .returned (.slice a' n n) ∧ View w' a' n g ∧ Below w.heap.size w w' := by
  cases a with
  | none =>
    obtain ⟨rfl, rfl⟩ := hnil rfl
    refine (clone_nil w).mono ?_
    rintro e w' ⟨rfl, rfl⟩
    exact ⟨none, rfl, fun h => absurd h (Nat.lt_irrefl _), Below.refl _ _⟩
  | some x =>
    rcases Nat.eq_zero_or_pos n with rfl | hn
    · refine (clone_empty x cap w).mono ?_
      rintro e w' ⟨rfl, hb⟩
      exact ⟨_, rfl, fun h => absurd h (Nat.lt_irrefl _), hb⟩
    · obtain ⟨b, off, e, hc⟩ := hv hn
      cases e
      refine (clone_any b off n cap g w hn hm hc).mono ?_
      rintro e w' ⟨rfl, hr, hb⟩
      exact ⟨_, rfl, fun _ => ⟨_, 0, rfl, fun i hi => by rw [Nat.zero_add]; exact hr.cell hi⟩, hb⟩

def joined (g0 : Nat → Int) (n0 : Nat) (g1 : Nat → Int) (i : Nat) : Int := if i < n0 then g0 i else g1 (i - n0)
theorem joined_lt (g0 : Nat → Int) (n0 : Nat) (g1 : Nat → Int) (i : Nat) (h : i < n0) : joined g0 n0 g1 i = g0 i := by simp [joined, h]
theorem joined_ge (g0 : Nat → Int) (n0 : Nat) (g1 : Nat → Int) (i : Nat) : joined g0 n0 g1 (n0 + i) = g1 i := by
  unfold joined
  rw [if_neg (by omega), Nat.add_sub_cancel_left]

set_option maxHeartbeats 1000000 in
/-- b1Concat: the first has a byte; the second has n1 bytes, n1 at least 1. -/
theorem concat_two (b0 off0 n0 cap0 b1 off1 n1 cap1 : Nat) (g0 g1 : Nat → Int) (w : World) (hn0 : 0 < n0) (hm0 : n0 ≤ 1048576) (hn1 : 0 < n1) (hm1 : n1 ≤ 1048576)
    (hc0 : ∀ i, i < n0 → w.cell? ⟨b0, off0 + i, none⟩ = some (.int .u8 (g0 i)))
    (hc1 : ∀ i, i < n1 → w.cell? ⟨b1, off1 + i, none⟩ = some (.int .u8 (g1 i))) :
    Calls Try.prog 15 #[.slice (some ⟨b0, off0, none⟩) n0 cap0, .slice (some ⟨b1, off1, none⟩) n1 cap1] w fun e w' => e = .returned (.slice (some ⟨w.heap.size, 0, none⟩) (n0 + n1) (n0 + n1)) ∧
      w'.rowIs w.heap.size 5 (n0 + n1) (fun i => .int .u8 (joined g0 n0 g1 i)) ∧ Below w.heap.size w w' := by
  have hb0 : b0 < w.heap.size := World.block_lt_of_cell? _ _ (hc0 0 hn0)
  have hb1 : b1 < w.heap.size := World.block_lt_of_cell? _ _ (hc1 0 hn1)
  have hmk : ∀ wx : World, (Instr.makeSlice 22 (.int .i64 ((n0 : Int) + (n1 : Int))) (.int .i64 ((n0 : Int) + (n1 : Int)))).run Try.prog wx = .ok (.slice (some ⟨wx.heap.size, 0, none⟩) (n0 + n1) (n0 + n1)) (wx.alloc (.cells (madeCells #[.int .u8 0] (n0 + n1)) 5)) := fun wx =>
    run_make_row' (P := Try.prog) 22 5 (.int .u8 0) 1 Try.underlying22 Try.info5 rfl .i64 .i64 (n0 + n1) (by omega) (by omega) wx
  have HC0 : Hid (∀ i, i < n0 → w.cell? ⟨b0, off0 + i, none⟩ = some (.int .u8 (g0 i))) := hc0
  have HC1 : Hid (∀ i, i < n1 → w.cell? ⟨b1, off1 + i, none⟩ = some (.int .u8 (g1 i))) := hc1
  have h0 : Hid ((w.alloc (.cells (madeCells #[.int .u8 0] (n0 + n1)) 5)).rowIs w.heap.size 5 (n0 + n1) (upTo (joined g0 n0 g1) 0)) :=
    (World.rowIs_made w (.int .u8 0) (n0 + n1) 5).congr (fun i _ => by simp [upTo])
  have hB : Hid (Below w.heap.size w (w.alloc (.cells (madeCells #[.int .u8 0] (n0 + n1)) 5))) := (Below.refl _ _).alloc (Nat.le_refl _) _
  clear hc0 hc1
  go_enter Try.func15, Try.ntmps15
  go_wp2
  go_loopw [6] (fun i wr => ∃ k : Nat, k ≤ n0 ∧ i = .int .i64 k ∧ wr.rowIs w.heap.size 5 (n0 + n1) (upTo (joined g0 n0 g1) k) ∧ Below w.heap.size w wr) (fun i _ => n0 - (intOf i).toNat)
  case atStart => exact ⟨0, Nat.zero_le _, rfl, h0.out, hB.out⟩
  case round =>
    obtain ⟨k, hk, rfl, hrow, hbel⟩ := hrel
    by_cases hlt : k < n0
    · have f1 : wr.cell? ⟨b0, off0 + k, none⟩ = some (.int .u8 (joined g0 n0 g1 k)) := by rw [joined_lt _ _ _ _ hlt]; exact (hbel.cell (p := ⟨b0, off0 + k, none⟩) hb0).trans (HC0.out k hlt)
      have hlt' : k < n0 + n1 := by omega
      have f2 := hrow.cell hlt'
      have f3 := hrow.frozen k
      have HR : Hid (wr.rowIs w.heap.size 5 (n0 + n1) (upTo (joined g0 n0 g1) k)) := hrow
      have HB : Hid (Below w.heap.size w wr) := hbel
      clear hrow hbel
      go_wp2
      go_roundw
      case rel => exact ⟨k + 1, by omega, by go_num, (HR.out.set k _).congr (fun i _ => upTo_step _ k i), HB.out.setCell (Nat.le_refl _) _⟩
      case measure => simp [intOf]; omega
    · have hkn : k = n0 := by omega
      subst hkn
      have HR : Hid (wr.rowIs w.heap.size 5 (k + n1) (upTo (joined g0 k g1) k)) := hrow
      have HB : Hid (Below w.heap.size w wr) := hbel
      clear hrow hbel
      obtain ⟨wo, rfl⟩ : ∃ wo : World, wo = wr := ⟨_, rfl⟩
      go_wp2
      go_loopw [7] (fun i wr => ∃ j : Nat, j ≤ n1 ∧ i = .int .i64 j ∧ wr.rowIs w.heap.size 5 (k + n1) (upTo (joined g0 k g1) (k + j)) ∧ Below w.heap.size w wr) (fun i _ => n1 - (intOf i).toNat)
      case atStart => exact ⟨0, Nat.zero_le _, rfl, HR.out, HB.out⟩
      case round =>
        obtain ⟨j, hj, rfl, hrow, hbel⟩ := hrel
        by_cases hlt : j < n1
        · have f1 : wr.cell? ⟨b1, off1 + j, none⟩ = some (.int .u8 (joined g0 k g1 (k + j))) := by rw [joined_ge]; exact (hbel.cell (p := ⟨b1, off1 + j, none⟩) hb1).trans (HC1.out j hlt)
          have hlt' : k + j < k + n1 := by omega
          have f2 := hrow.cell hlt'
          have f3 := hrow.frozen (k + j)
          have HR : Hid (wr.rowIs w.heap.size 5 (k + n1) (upTo (joined g0 k g1) (k + j))) := hrow
          have HB : Hid (Below w.heap.size w wr) := hbel
          clear hrow hbel
          go_wp2
          go_roundw
          case rel => exact ⟨j + 1, by omega, by go_num, (HR.out.set (k + j) _).congr (fun i _ => upTo_step _ (k + j) i), HB.out.setCell (Nat.le_refl _) _⟩
          case measure => simp [intOf]; omega
        · have hkn : j = n1 := by omega
          subst hkn
          have HR : Hid (wr.rowIs w.heap.size 5 (k + j) (upTo (joined g0 k g1) (k + j))) := hrow
          have HB : Hid (Below w.heap.size w wr) := hbel
          clear hrow hbel
          go_wp2
          go_ret
          exact ⟨rfl, HR.out.congr (fun i hi => by simp [upTo, hi]), HB.out⟩

set_option maxHeartbeats 1000000 in
/-- b1Concat: the first has a byte; the second is empty, whatever its address. -/
theorem concat_one (b0 off0 n0 cap0 cap1 : Nat) (a1 : Option Addr) (g0 g1 : Nat → Int) (w : World) (hn0 : 0 < n0) (hm0 : n0 ≤ 1048576)
    (hc0 : ∀ i, i < n0 → w.cell? ⟨b0, off0 + i, none⟩ = some (.int .u8 (g0 i))) :
    Calls Try.prog 15 #[.slice (some ⟨b0, off0, none⟩) n0 cap0, .slice a1 0 cap1] w fun e w' => e = .returned (.slice (some ⟨w.heap.size, 0, none⟩) n0 n0) ∧
      w'.rowIs w.heap.size 5 n0 (fun i => .int .u8 (joined g0 n0 g1 i)) ∧ Below w.heap.size w w' := by
  have hb0 : b0 < w.heap.size := World.block_lt_of_cell? _ _ (hc0 0 hn0)
  have hmk : ∀ wx : World, (Instr.makeSlice 22 (.int .i64 (n0 : Int)) (.int .i64 (n0 : Int))).run Try.prog wx = .ok (.slice (some ⟨wx.heap.size, 0, none⟩) n0 n0) (wx.alloc (.cells (madeCells #[.int .u8 0] n0) 5)) := fun wx =>
    run_make_row' (P := Try.prog) 22 5 (.int .u8 0) 1 Try.underlying22 Try.info5 rfl .i64 .i64 n0 (by omega) (by omega) wx
  have HC0 : Hid (∀ i, i < n0 → w.cell? ⟨b0, off0 + i, none⟩ = some (.int .u8 (g0 i))) := hc0
  have h0 : Hid ((w.alloc (.cells (madeCells #[.int .u8 0] n0) 5)).rowIs w.heap.size 5 n0 (upTo (joined g0 n0 g1) 0)) :=
    (World.rowIs_made w (.int .u8 0) n0 5).congr (fun i _ => by simp [upTo])
  have hB : Hid (Below w.heap.size w (w.alloc (.cells (madeCells #[.int .u8 0] n0) 5))) := (Below.refl _ _).alloc (Nat.le_refl _) _
  clear hc0
  go_enter Try.func15, Try.ntmps15
  go_wp2
  go_loopw [6] (fun i wr => ∃ k : Nat, k ≤ n0 ∧ i = .int .i64 k ∧ wr.rowIs w.heap.size 5 n0 (upTo (joined g0 n0 g1) k) ∧ Below w.heap.size w wr) (fun i _ => n0 - (intOf i).toNat)
  case atStart => exact ⟨0, Nat.zero_le _, rfl, h0.out, hB.out⟩
  case round =>
    obtain ⟨k, hk, rfl, hrow, hbel⟩ := hrel
    by_cases hlt : k < n0
    · have f1 : wr.cell? ⟨b0, off0 + k, none⟩ = some (.int .u8 (joined g0 n0 g1 k)) := by rw [joined_lt _ _ _ _ hlt]; exact (hbel.cell (p := ⟨b0, off0 + k, none⟩) hb0).trans (HC0.out k hlt)
      have f2 := hrow.cell hlt
      have f3 := hrow.frozen k
      have HR : Hid (wr.rowIs w.heap.size 5 n0 (upTo (joined g0 n0 g1) k)) := hrow
      have HB : Hid (Below w.heap.size w wr) := hbel
      clear hrow hbel
      go_wp2
      go_roundw
      case rel => exact ⟨k + 1, by omega, by go_num, (HR.out.set k _).congr (fun i _ => upTo_step _ k i), HB.out.setCell (Nat.le_refl _) _⟩
      case measure => simp [intOf]; omega
    · have hkn : k = n0 := by omega
      subst hkn
      have HR : Hid (wr.rowIs w.heap.size 5 k (upTo (joined g0 k g1) k)) := hrow
      have HB : Hid (Below w.heap.size w wr) := hbel
      clear hrow hbel
      go_wp2
      go_loop [7] (fun i => i = .int .i64 0) (fun _ => 0)
      case atStart => rfl
      case round =>
        subst hrel
        go_wp2
        go_ret
        exact ⟨rfl, HR.out.congr (fun i hi => by simp [upTo, hi]), HB.out⟩

/-- b1Concat, the second of whatever length. -/
theorem concat_any (b0 off0 n0 cap0 n1 cap1 : Nat) (a1 : Option Addr) (g0 g1 : Nat → Int) (w : World) (hn0 : 0 < n0) (hm0 : n0 ≤ 1048576) (hm1 : n1 ≤ 1048576)
    (hc0 : ∀ i, i < n0 → w.cell? ⟨b0, off0 + i, none⟩ = some (.int .u8 (g0 i))) (hv : View w a1 n1 g1) :
    Calls Try.prog 15 #[.slice (some ⟨b0, off0, none⟩) n0 cap0, .slice a1 n1 cap1] w fun e w' => e = .returned (.slice (some ⟨w.heap.size, 0, none⟩) (n0 + n1) (n0 + n1)) ∧
      w'.rowIs w.heap.size 5 (n0 + n1) (fun i => .int .u8 (joined g0 n0 g1 i)) ∧ Below w.heap.size w w' := by
  rcases Nat.eq_zero_or_pos n1 with rfl | hn
  · exact concat_one b0 off0 n0 cap0 cap1 a1 g0 g1 w hn0 hm0 hc0
  · obtain ⟨b, off, rfl, hc⟩ := hv hn
    exact concat_two b0 off0 n0 cap0 b off n1 cap1 g0 g1 w hn0 hm0 hn hm1 hc0 hc
end Go.Proofs.Qxb6603264a
