/-
  The walks of zzCopyBytes (35): a new row with the same bytes; nothing old is written.
-/
import Derived.Test.Qxb6603359aRows
import Derived.WalkKit
import Derived.WalkSpells
import Derived.Deep.OwnRows
namespace Go.Proofs.Qxb6603359a
open Go.RowKit

theorem Try.info5 : (Try.prog.info? 5).map (fun i => (i.zero, i.size, i.bytes)) = some (some (.int .u8 0), 1, 1) := by kernel_rfl

theorem clone_nil (w : World) : Calls Try.prog 35 #[.slice none 0 0] w fun e w' => e = .returned (.slice none 0 0) ∧ w' = w := by
  have hq := fun wx => Lib.run_eql_slice_nil (P := Try.prog) wx 47
  go_enter Try.func35, Try.ntmps35
  go_wp2
  go_ret
  exact ⟨rfl, rfl⟩

/-- The row while it is filled: the first k cells hold g, the others 0. -/
def upTo (g : Nat → Int) (k : Nat) (i : Nat) : Value := .int .u8 (if i < k then g i else 0)

theorem upTo_step (g : Nat → Int) (k i : Nat) : (if i = k then Value.int .u8 (g k) else upTo g k i) = upTo g (k + 1) i := by
  unfold upTo
  by_cases h : i = k
  · subst h; simp
  · rw [if_neg h]
    by_cases h' : i < k
    · rw [if_pos h', if_pos (by omega)]
    · rw [if_neg h', if_neg (by omega)]

/-- zzCopyBytes of n bytes (n at least 1). -/
theorem clone_any (b off n cap : Nat) (g : Nat → Int) (w : World) (hn : 0 < n) (hm : n ≤ 2097152)
    (hc : ∀ i, i < n → w.cell? ⟨b, off + i, none⟩ = some (.int .u8 (g i))) :
    Calls Try.prog 35 #[.slice (some ⟨b, off, none⟩) n cap] w fun e w' => e = .returned (.slice (some ⟨w.heap.size, 0, none⟩) n n) ∧
      w'.rowIs w.heap.size 5 n (fun i => .int .u8 (g i)) ∧ Below w.heap.size w w' := by
  have hb : b < w.heap.size := World.block_lt_of_cell? _ _ (hc 0 hn)
  have hq := fun wx => Lib.run_eql_slice_nil (P := Try.prog) wx 47 5 (some ⟨b, off, none⟩) n cap 0 0 Try.underlying47
  have hmk : ∀ wx : World, (Instr.makeSlice 47 (.int .i64 (n : Int)) (.int .i64 (n : Int))).run Try.prog wx = .ok (.slice (some ⟨wx.heap.size, 0, none⟩) n n) (wx.alloc (.cells (madeCells #[.int .u8 0] n) 5)) := fun wx =>
    run_make_row' (P := Try.prog) 47 5 (.int .u8 0) 1 Try.underlying47 Try.info5 rfl .i64 .i64 n (by omega) (by omega) wx
  have HC : Hid (∀ i, i < n → w.cell? ⟨b, off + i, none⟩ = some (.int .u8 (g i))) := hc
  have h0 : Hid ((w.alloc (.cells (madeCells #[.int .u8 0] n) 5)).rowIs w.heap.size 5 n (upTo g 0)) :=
    (World.rowIs_made w (.int .u8 0) n 5).congr (fun i _ => by simp [upTo])
  have hB : Hid (Below w.heap.size w (w.alloc (.cells (madeCells #[.int .u8 0] n) 5))) := (Below.refl _ _).alloc (Nat.le_refl _) _
  clear hc
  go_enter Try.func35, Try.ntmps35
  go_wp2
  go_loopw [4] (fun i wr => ∃ k : Nat, k ≤ n ∧ i = .int .i64 k ∧ wr.rowIs w.heap.size 5 n (upTo g k) ∧ Below w.heap.size w wr) (fun i _ => n - (intOf i).toNat)
  case atStart => exact ⟨0, Nat.zero_le _, rfl, h0.out, hB.out⟩
  case round =>
    obtain ⟨k, hk, rfl, hrow, hbel⟩ := hrel
    by_cases hlt : k < n
    · have g1 : wr.cell? ⟨b, off + k, none⟩ = some (.int .u8 (g k)) := (hbel.cell (p := ⟨b, off + k, none⟩) hb).trans (HC.out k hlt)
      have g2 := hrow.cell hlt
      have g3 := hrow.frozen k
      have HR : Hid (wr.rowIs w.heap.size 5 n (upTo g k)) := hrow
      have HB : Hid (Below w.heap.size w wr) := hbel
      clear hrow hbel
      go_wp2
      go_roundw
      case rel => exact ⟨k + 1, by omega, by go_num, (HR.out.set k _).congr (fun i _ => upTo_step g k i), HB.out.setCell (Nat.le_refl _) _⟩
      case measure => simp [intOf]; omega
    · have hkn : k = n := by omega
      subst hkn
      have HR : Hid (wr.rowIs w.heap.size 5 k (upTo g k)) := hrow
      have HB : Hid (Below w.heap.size w wr) := hbel
      clear hrow hbel
      go_wp2
      go_ret
      exact ⟨rfl, HR.out.congr (fun i hi => by simp [upTo, hi]), HB.out⟩

/-- zzCopyBytes of an empty slice that is not nil: whatever its address. -/
theorem clone_empty (a : Addr) (cap : Nat) (w : World) :
    Calls Try.prog 35 #[.slice (some a) 0 cap] w fun e w' => e = .returned (.slice (some ⟨w.heap.size, 0, none⟩) 0 0) ∧ Below w.heap.size w w' := by
  have hq := fun wx => Lib.run_eql_slice_nil (P := Try.prog) wx 47 5 (some a) 0 cap 0 0 Try.underlying47
  have hmk : ∀ wx : World, (Instr.makeSlice 47 (.int .i64 0) (.int .i64 0)).run Try.prog wx = .ok (.slice (some ⟨wx.heap.size, 0, none⟩) 0 0) (wx.alloc (.cells (madeCells #[.int .u8 0] 0) 5)) := fun wx =>
    run_make_row' (P := Try.prog) 47 5 (.int .u8 0) 1 Try.underlying47 Try.info5 rfl .i64 .i64 0 (by omega) (by omega) wx
  have hB : Hid (Below w.heap.size w (w.alloc (.cells (madeCells #[.int .u8 0] 0) 5))) := (Below.refl _ _).alloc (Nat.le_refl _) _
  go_enter Try.func35, Try.ntmps35
  go_wp2
  go_loop [4] (fun i => i = .int .i64 0) (fun _ => 0)
  case atStart => rfl
  case round =>
    subst hrel
    go_wp2
    go_ret
    exact ⟨rfl, hB.out⟩

/-- A slice of n bytes g 0, g 1, .. in the world w: where there is a byte, its cells lie at a plain address. -/
def View (w : World) (a : Option Addr) (n : Nat) (g : Nat → Int) : Prop :=
  0 < n → ∃ b off, a = some ⟨b, off, none⟩ ∧ ∀ i, i < n → w.cell? ⟨b, off + i, none⟩ = some (.int .u8 (g i))

theorem View.below {w w' : World} {a : Option Addr} {n : Nat} {g : Nat → Int} (h : View w a n g) (hb : Below w.heap.size w w') : View w' a n g := by
  intro hn
  obtain ⟨b, off, e, hc⟩ := h hn
  exact ⟨b, off, e, fun i hi => (hb.cell (p := ⟨b, off + i, none⟩) (World.block_lt_of_cell? _ _ (hc i hi))).trans (hc i hi)⟩

/-- zzCopyBytes of whatever slice. -/
theorem clone_view (a : Option Addr) (n cap : Nat) (g : Nat → Int) (w : World) (hm : n ≤ 2097152) (hnil : a = none → n = 0 ∧ cap = 0) (hv : View w a n g) :
    Calls Try.prog 35 #[.slice a n cap] w fun e w' => ∃ a', e = .returned (.slice a' n n) ∧ View w' a' n g ∧ Below w.heap.size w w' := by
  cases a with
  | none =>
    obtain ⟨rfl, rfl⟩ := hnil rfl
    refine (clone_nil w).mono ?_
    rintro e w' ⟨rfl, rfl⟩
    exact ⟨none, rfl, fun h => absurd h (Nat.lt_irrefl _), Below.refl _ _⟩
  | some x =>
    rcases Nat.eq_zero_or_pos n with rfl | hn
    · refine (clone_empty x cap w).mono ?_
      rintro e w' ⟨rfl, hb⟩
      exact ⟨_, rfl, fun h => absurd h (Nat.lt_irrefl _), hb⟩
    · obtain ⟨b, off, e, hc⟩ := hv hn
      cases e
      refine (clone_any b off n cap g w hn hm hc).mono ?_
      rintro e w' ⟨rfl, hr, hb⟩
      exact ⟨_, rfl, fun _ => ⟨_, 0, rfl, fun i hi => by rw [Nat.zero_add]; exact hr.cell hi⟩, hb⟩

end Go.Proofs.Qxb6603359a
