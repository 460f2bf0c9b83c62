/-
  THE SHELL OF A PROOF OF 'Rows.FnGb18030SizePrefixStableSaid' ('example.com/vestline/vestline/zzlaws_internal_textfile_b1.FnGb18030SizePrefixStable'), WRITTEN BY PROGRAM (proof-skeleton.mjs, third state) off the guide's own print for that function. Not trusted: Lean checks it.
  The walk is filled in.
-/
import Derived.Test.Qxb6603264aRows
import Derived.Test.Qxb6603264aSize
import Derived.Test.Qxb6603264aConcat
import Derived.WalkKit
import Derived.WalkSpells
import Derived.ProofKit
import Derived.OpenShut
import Derived.ShutString
import Derived.ChangeOld
import Derived.Below
namespace Go.Proofs.Qxb6603264a.fnGb18030SizePrefixStable
open Go.ChangeShapes Go.WideShapes Go.ChangeAt Go.RowKit
open Go.ChangeMaps (open_string shut_string)
set_option linter.unusedVariables false

theorem own : ownKnob Try.prog.godebug = none := by kernel_rfl
theorem laidOut : laidOutB Try.prog = true := by kernel_rfl

/-- WHAT THE WALK IS TOLD OF A SLICE OF INTEGERS THAT CAME IN: it is nil; or it leads to a row of 'cap' cells, the numbers 'zs' (the first 'len' are its elements, the rest its spare room), each fitting its kind. -/
def IsRow (k : IntKind) (w : World) (a : Option Addr) (len cap : Nat) (zs : List Int) : Prop :=
  (a = none ∧ len = 0 ∧ cap = 0 ∧ zs = []) ∨
  ∃ x, a = some x ∧ len ≤ cap ∧ cap ≤ maxLen ∧ zs.length = cap ∧ (∀ i, i < zs.length → w.cell? (x.add i) = some (.int k (zs.getD i 0))) ∧ ∀ n ∈ zs, (Lit.int k n).wf = true

/-! ### STEP 1: THE WALK -/
/-- the zzBytes test (19). -/
theorem bytes_any (a0 a1 : Option Addr) (len0 cap0 len1 cap1 : Nat) (w : World) (h : len0 + len1 ≤ 1048576) :
    Calls Try.prog 19 #[.slice a0 len0 cap0, .slice a1 len1 cap1] w fun e w' => e = .returned (.bool true) ∧ w' = w := by
  go_enter Try.func19, Try.ntmps19
  go_wp2
  go_ret
  exact ⟨rfl, rfl⟩
theorem bytes_big (a0 a1 : Option Addr) (len0 cap0 len1 cap1 : Nat) (w : World) (h : 1048576 < len0 + len1) (hm : len1 ≤ 9223372036854775807) :
    Calls Try.prog 19 #[.slice a0 len0 cap0, .slice a1 len1 cap1] w fun e w' => e = .returned (.bool false) ∧ w' = w := by
  by_cases h0 : 1048576 < len0
  · go_enter Try.func19, Try.ntmps19
    go_wp2
    go_ret
    exact ⟨rfl, rfl⟩
  · by_cases h1 : 1048576 < len1
    · go_enter Try.func19, Try.ntmps19
      go_wp2
      go_ret
      exact ⟨rfl, rfl⟩
    · go_enter Try.func19, Try.ntmps19
      go_wp2
      go_ret
      exact ⟨rfl, rfl⟩

theorem walk_none (a0 a1 : Option Addr) (len0 cap0 len1 cap1 : Nat) (w : World) (h : len0 = 0 ∨ 1048576 < len0 + len1 ∨ 524288 < len0 ∨ 524288 < len1) (hm : len1 ≤ 9223372036854775807) :
    Calls Try.prog 7 #[.slice a0 len0 cap0, .slice a1 len1 cap1] w fun e w' => e = .returned (.bool true) ∧ Below w.heap.size w w' := by
  by_cases hb : 1048576 < len0 + len1
  · go_enter Try.func7, Try.ntmps7
    go_wp2_with fail
    refine (bytes_big a0 a1 len0 cap0 len1 cap1 _ hb hm).mono ?_
    rintro e w' ⟨rfl, rfl⟩
    go_wp2_with fail
    go_ret
    exact ⟨rfl, Below.refl _ _⟩
  · by_cases h0 : 524288 < len0
    · go_enter Try.func7, Try.ntmps7
      go_wp2_with fail
      refine (bytes_any a0 a1 len0 cap0 len1 cap1 _ (by omega)).mono ?_
      rintro e w' ⟨rfl, rfl⟩
      go_wp2_with fail
      go_ret
      exact ⟨rfl, Below.refl _ _⟩
    · by_cases h1 : 524288 < len1
      · go_enter Try.func7, Try.ntmps7
        go_wp2_with fail
        refine (bytes_any a0 a1 len0 cap0 len1 cap1 _ (by omega)).mono ?_
        rintro e w' ⟨rfl, rfl⟩
        go_wp2_with fail
        go_ret
        exact ⟨rfl, Below.refl _ _⟩
      · have hz : len0 = 0 := by omega
        subst hz
        clear h
        go_enter Try.func7, Try.ntmps7
        go_wp2_with fail
        refine (bytes_any a0 a1 0 cap0 len1 cap1 _ (by omega)).mono ?_
        rintro e w' ⟨rfl, rfl⟩
        go_wp2_with fail
        go_ret
        exact ⟨rfl, Below.refl _ _⟩

/-- zz_any with its answer named. -/
theorem zz_val (r : Int) (b off n cap : Nat) (g : Nat → Int) (w : World) (hn : 0 < n) (hr : gbSize n g = r)
    (hc : ∀ i, i < n → w.cell? ⟨b, off + i, none⟩ = some (.int .u8 (g i))) :
    Calls Try.prog 17 #[.slice (some ⟨b, off, none⟩) n cap] w fun e w' => e = .returned (.int .i64 r) ∧ w' = w := by
  subst hr
  exact zz_any b off n cap g w hn hc

/-- What the plain law says of the two answers r and r2, in the cases by which the walk goes. -/
theorem ways (n0 n1 : Nat) (g0 g1 : Nat → Int) (h0 : 0 < n0) :
    (gbSize n0 g0 = -1 ∧ gbSize (n0 + n1) (joined g0 n0 g1) = -1) ∨
    (gbSize n0 g0 = 0 ∧ n0 < 4 ∧ (gbSize (n0 + n1) (joined g0 n0 g1) = 0 ∨ gbSize (n0 + n1) (joined g0 n0 g1) = -1 ∨ (n0 : Int) < gbSize (n0 + n1) (joined g0 n0 g1))) ∨
    (∃ r : Nat, (r = 1 ∨ r = 2 ∨ r = 4) ∧ gbSize n0 g0 = r ∧ r ≤ n0 ∧ gbSize (n0 + n1) (joined g0 n0 g1) = r ∧ gbSize r g0 = r) := by
  have hc : gbSize n0 (joined g0 n0 g1) = gbSize n0 g0 := gbSize_congr h0 (fun i hi => joined_lt _ _ _ _ hi)
  have hf := gbSize_fits n0 g0 h0
  rcases gbSize_range n0 g0 with h | h | h | h | h
  · exact Or.inl ⟨h, (gbSize_more n0 (n0 + n1) _ (by omega) (by omega)).trans (hc.trans h)⟩
  · exact Or.inr (Or.inl ⟨h, gbSize_zero _ _ h, gbSize_more0 n0 (n0 + n1) _ h0 (by omega) (hc.trans h)⟩)
  · exact Or.inr (Or.inr ⟨1, by omega, h, by omega, (gbSize_more n0 (n0 + n1) _ (by omega) (by omega)).trans (hc.trans h), gbSize_head n0 1 g0 (by omega) h⟩)
  · exact Or.inr (Or.inr ⟨2, by omega, h, by omega, (gbSize_more n0 (n0 + n1) _ (by omega) (by omega)).trans (hc.trans h), gbSize_head n0 2 g0 (by omega) h⟩)
  · exact Or.inr (Or.inr ⟨4, by omega, h, by omega, (gbSize_more n0 (n0 + n1) _ (by omega) (by omega)).trans (hc.trans h), gbSize_head n0 4 g0 (by omega) h⟩)

set_option maxHeartbeats 2000000 in
theorem walk_m (b off len0 cap0 : Nat) (a1 : Option Addr) (len1 cap1 : Nat) (g0 g1 : Nat → Int) (w : World) (h0 : 0 < len0) (h1 : len0 ≤ 524288) (h2 : len1 ≤ 524288)
    (hc : ∀ i, i < len0 → w.cell? ⟨b, off + i, none⟩ = some (.int .u8 (g0 i))) (hnil : a1 = none → len1 = 0 ∧ cap1 = 0) (hv : View w a1 len1 g1)
    (hr : gbSize len0 g0 = -1) (hr2 : gbSize (len0 + len1) (joined g0 len0 g1) = -1) :
    Calls Try.prog 7 #[.slice (some ⟨b, off, none⟩) len0 cap0, .slice a1 len1 cap1] w fun e w' => e = .returned (.bool true) ∧ Below w.heap.size w w' := by
  have HC : Hid (∀ i, i < len0 → w.cell? ⟨b, off + i, none⟩ = some (.int .u8 (g0 i))) := hc
  have HN : Hid (a1 = none → len1 = 0 ∧ cap1 = 0) := hnil
  have HV : Hid (View w a1 len1 g1) := hv
  have HR : Hid (gbSize len0 g0 = -1) := hr
  have HR2 : Hid (gbSize (len0 + len1) (joined g0 len0 g1) = -1) := hr2
  clear hc hnil hv hr hr2
  go_enter Try.func7, Try.ntmps7
  go_wp2_with fail
  refine (bytes_any _ _ len0 cap0 len1 cap1 _ (by omega)).mono ?_
  rintro e w' ⟨rfl, rfl⟩
  go_wp2_with fail
  refine (clone_any b off len0 cap0 g0 _ h0 (by omega) HC.out).mono ?_
  rintro e w1 ⟨rfl, hrow, hbel⟩
  have HRW1 : Hid (w1.rowIs w'.heap.size 5 len0 (fun i => .int .u8 (g0 i))) := hrow
  have HB1 : Hid (Below w'.heap.size w' w1) := hbel
  have HV1 : Hid (View w1 a1 len1 g1) := HV.out.below hbel
  clear hrow hbel
  go_wp2_with fail
  refine (clone_view a1 len1 cap1 g1 _ (by omega) HN.out HV1.out).mono ?_
  rintro e w2 ⟨a2, rfl, hv2, hbel⟩
  have HB2 : Hid (Below w'.heap.size w' w2) := HB1.out.trans (hbel.mono HB1.out.size)
  have hrow2 : w2.rowIs w'.heap.size 5 len0 (fun i => .int .u8 (g0 i)) := HRW1.out.of_block (hbel.block _ HRW1.out.lt)
  have HC2 : Hid (∀ i, i < len0 → w2.cell? ⟨w'.heap.size, 0 + i, none⟩ = some (.int .u8 (g0 i))) := fun i hi => by rw [Nat.zero_add]; exact hrow2.cell hi
  have HS : Hid (w'.heap.size < w2.heap.size) := hrow2.lt
  have HV2 : Hid (View w2 a2 len1 g1) := hv2
  clear hrow2 hbel hv2
  go_wp2_with fail
  refine (zz_val (-1) _ 0 len0 len0 g0 _ h0 HR.out HC2.out).mono ?_
  rintro e w3 ⟨rfl, rfl⟩
  go_wp2_with fail
  refine (concat_any _ 0 len0 len0 len1 len1 a2 g0 g1 _ h0 (by omega) (by omega) HC2.out HV2.out).mono ?_
  rintro e w4 ⟨rfl, hrow, hbel⟩
  have HB3 : Hid (Below w'.heap.size w' w4) := HB2.out.trans (hbel.mono HB2.out.size)
  have HC3 : Hid (∀ i, i < len0 + len1 → w4.cell? ⟨w3.heap.size, 0 + i, none⟩ = some (.int .u8 (joined g0 len0 g1 i))) := fun i hi => by rw [Nat.zero_add]; exact hrow.cell hi
  have HC4 : Hid (∀ i, i < len0 → w4.cell? ⟨w'.heap.size, 0 + i, none⟩ = some (.int .u8 (g0 i))) := fun i hi => (hbel.cell (p := ⟨w'.heap.size, 0 + i, none⟩) HS.out).trans (HC2.out i hi)
  clear hrow hbel
  go_wp2_with fail
  refine (zz_val (-1) _ 0 (len0 + len1) (len0 + len1) (joined g0 len0 g1) _ (by omega) HR2.out HC3.out).mono ?_
  rintro e w5 ⟨rfl, rfl⟩
  go_wp2_with fail
  go_ret
  exact ⟨rfl, HB3.out⟩

set_option maxHeartbeats 2000000 in
theorem walk_z (b off len0 cap0 : Nat) (a1 : Option Addr) (len1 cap1 : Nat) (g0 g1 : Nat → Int) (w : World) (h0 : 0 < len0) (h1 : len0 ≤ 524288) (h2 : len1 ≤ 524288)
    (hc : ∀ i, i < len0 → w.cell? ⟨b, off + i, none⟩ = some (.int .u8 (g0 i))) (hnil : a1 = none → len1 = 0 ∧ cap1 = 0) (hv : View w a1 len1 g1) (h4 : len0 < 4)
    (hr : gbSize len0 g0 = 0) (hr2 : gbSize (len0 + len1) (joined g0 len0 g1) = 0) :
    Calls Try.prog 7 #[.slice (some ⟨b, off, none⟩) len0 cap0, .slice a1 len1 cap1] w fun e w' => e = .returned (.bool true) ∧ Below w.heap.size w w' := by
  have HC : Hid (∀ i, i < len0 → w.cell? ⟨b, off + i, none⟩ = some (.int .u8 (g0 i))) := hc
  have HN : Hid (a1 = none → len1 = 0 ∧ cap1 = 0) := hnil
  have HV : Hid (View w a1 len1 g1) := hv
  have HR : Hid (gbSize len0 g0 = 0) := hr
  have HR2 : Hid (gbSize (len0 + len1) (joined g0 len0 g1) = 0) := hr2
  clear hc hnil hv hr hr2
  go_enter Try.func7, Try.ntmps7
  go_wp2_with fail
  refine (bytes_any _ _ len0 cap0 len1 cap1 _ (by omega)).mono ?_
  rintro e w' ⟨rfl, rfl⟩
  go_wp2_with fail
  refine (clone_any b off len0 cap0 g0 _ h0 (by omega) HC.out).mono ?_
  rintro e w1 ⟨rfl, hrow, hbel⟩
  have HRW1 : Hid (w1.rowIs w'.heap.size 5 len0 (fun i => .int .u8 (g0 i))) := hrow
  have HB1 : Hid (Below w'.heap.size w' w1) := hbel
  have HV1 : Hid (View w1 a1 len1 g1) := HV.out.below hbel
  clear hrow hbel
  go_wp2_with fail
  refine (clone_view a1 len1 cap1 g1 _ (by omega) HN.out HV1.out).mono ?_
  rintro e w2 ⟨a2, rfl, hv2, hbel⟩
  have HB2 : Hid (Below w'.heap.size w' w2) := HB1.out.trans (hbel.mono HB1.out.size)
  have hrow2 : w2.rowIs w'.heap.size 5 len0 (fun i => .int .u8 (g0 i)) := HRW1.out.of_block (hbel.block _ HRW1.out.lt)
  have HC2 : Hid (∀ i, i < len0 → w2.cell? ⟨w'.heap.size, 0 + i, none⟩ = some (.int .u8 (g0 i))) := fun i hi => by rw [Nat.zero_add]; exact hrow2.cell hi
  have HS : Hid (w'.heap.size < w2.heap.size) := hrow2.lt
  have HV2 : Hid (View w2 a2 len1 g1) := hv2
  clear hrow2 hbel hv2
  go_wp2_with fail
  refine (zz_val (0) _ 0 len0 len0 g0 _ h0 HR.out HC2.out).mono ?_
  rintro e w3 ⟨rfl, rfl⟩
  go_wp2_with fail
  refine (concat_any _ 0 len0 len0 len1 len1 a2 g0 g1 _ h0 (by omega) (by omega) HC2.out HV2.out).mono ?_
  rintro e w4 ⟨rfl, hrow, hbel⟩
  have HB3 : Hid (Below w'.heap.size w' w4) := HB2.out.trans (hbel.mono HB2.out.size)
  have HC3 : Hid (∀ i, i < len0 + len1 → w4.cell? ⟨w3.heap.size, 0 + i, none⟩ = some (.int .u8 (joined g0 len0 g1 i))) := fun i hi => by rw [Nat.zero_add]; exact hrow.cell hi
  have HC4 : Hid (∀ i, i < len0 → w4.cell? ⟨w'.heap.size, 0 + i, none⟩ = some (.int .u8 (g0 i))) := fun i hi => (hbel.cell (p := ⟨w'.heap.size, 0 + i, none⟩) HS.out).trans (HC2.out i hi)
  clear hrow hbel
  go_wp2_with fail
  refine (zz_val (0) _ 0 (len0 + len1) (len0 + len1) (joined g0 len0 g1) _ (by omega) HR2.out HC3.out).mono ?_
  rintro e w5 ⟨rfl, rfl⟩
  go_wp2_with fail
  go_ret
  exact ⟨rfl, HB3.out⟩

set_option maxHeartbeats 2000000 in
theorem walk_zm (b off len0 cap0 : Nat) (a1 : Option Addr) (len1 cap1 : Nat) (g0 g1 : Nat → Int) (w : World) (h0 : 0 < len0) (h1 : len0 ≤ 524288) (h2 : len1 ≤ 524288)
    (hc : ∀ i, i < len0 → w.cell? ⟨b, off + i, none⟩ = some (.int .u8 (g0 i))) (hnil : a1 = none → len1 = 0 ∧ cap1 = 0) (hv : View w a1 len1 g1) (h4 : len0 < 4)
    (hr : gbSize len0 g0 = 0) (hr2 : gbSize (len0 + len1) (joined g0 len0 g1) = -1) :
    Calls Try.prog 7 #[.slice (some ⟨b, off, none⟩) len0 cap0, .slice a1 len1 cap1] w fun e w' => e = .returned (.bool true) ∧ Below w.heap.size w w' := by
  have HC : Hid (∀ i, i < len0 → w.cell? ⟨b, off + i, none⟩ = some (.int .u8 (g0 i))) := hc
  have HN : Hid (a1 = none → len1 = 0 ∧ cap1 = 0) := hnil
  have HV : Hid (View w a1 len1 g1) := hv
  have HR : Hid (gbSize len0 g0 = 0) := hr
  have HR2 : Hid (gbSize (len0 + len1) (joined g0 len0 g1) = -1) := hr2
  clear hc hnil hv hr hr2
  go_enter Try.func7, Try.ntmps7
  go_wp2_with fail
  refine (bytes_any _ _ len0 cap0 len1 cap1 _ (by omega)).mono ?_
  rintro e w' ⟨rfl, rfl⟩
  go_wp2_with fail
  refine (clone_any b off len0 cap0 g0 _ h0 (by omega) HC.out).mono ?_
  rintro e w1 ⟨rfl, hrow, hbel⟩
  have HRW1 : Hid (w1.rowIs w'.heap.size 5 len0 (fun i => .int .u8 (g0 i))) := hrow
  have HB1 : Hid (Below w'.heap.size w' w1) := hbel
  have HV1 : Hid (View w1 a1 len1 g1) := HV.out.below hbel
  clear hrow hbel
  go_wp2_with fail
  refine (clone_view a1 len1 cap1 g1 _ (by omega) HN.out HV1.out).mono ?_
  rintro e w2 ⟨a2, rfl, hv2, hbel⟩
  have HB2 : Hid (Below w'.heap.size w' w2) := HB1.out.trans (hbel.mono HB1.out.size)
  have hrow2 : w2.rowIs w'.heap.size 5 len0 (fun i => .int .u8 (g0 i)) := HRW1.out.of_block (hbel.block _ HRW1.out.lt)
  have HC2 : Hid (∀ i, i < len0 → w2.cell? ⟨w'.heap.size, 0 + i, none⟩ = some (.int .u8 (g0 i))) := fun i hi => by rw [Nat.zero_add]; exact hrow2.cell hi
  have HS : Hid (w'.heap.size < w2.heap.size) := hrow2.lt
  have HV2 : Hid (View w2 a2 len1 g1) := hv2
  clear hrow2 hbel hv2
  go_wp2_with fail
  refine (zz_val (0) _ 0 len0 len0 g0 _ h0 HR.out HC2.out).mono ?_
  rintro e w3 ⟨rfl, rfl⟩
  go_wp2_with fail
  refine (concat_any _ 0 len0 len0 len1 len1 a2 g0 g1 _ h0 (by omega) (by omega) HC2.out HV2.out).mono ?_
  rintro e w4 ⟨rfl, hrow, hbel⟩
  have HB3 : Hid (Below w'.heap.size w' w4) := HB2.out.trans (hbel.mono HB2.out.size)
  have HC3 : Hid (∀ i, i < len0 + len1 → w4.cell? ⟨w3.heap.size, 0 + i, none⟩ = some (.int .u8 (joined g0 len0 g1 i))) := fun i hi => by rw [Nat.zero_add]; exact hrow.cell hi
  have HC4 : Hid (∀ i, i < len0 → w4.cell? ⟨w'.heap.size, 0 + i, none⟩ = some (.int .u8 (g0 i))) := fun i hi => (hbel.cell (p := ⟨w'.heap.size, 0 + i, none⟩) HS.out).trans (HC2.out i hi)
  clear hrow hbel
  go_wp2_with fail
  refine (zz_val (-1) _ 0 (len0 + len1) (len0 + len1) (joined g0 len0 g1) _ (by omega) HR2.out HC3.out).mono ?_
  rintro e w5 ⟨rfl, rfl⟩
  go_wp2_with fail
  go_ret
  exact ⟨rfl, HB3.out⟩

set_option maxHeartbeats 2000000 in
theorem walk_zp (b off len0 cap0 : Nat) (a1 : Option Addr) (len1 cap1 : Nat) (g0 g1 : Nat → Int) (w : World) (h0 : 0 < len0) (h1 : len0 ≤ 524288) (h2 : len1 ≤ 524288)
    (hc : ∀ i, i < len0 → w.cell? ⟨b, off + i, none⟩ = some (.int .u8 (g0 i))) (hnil : a1 = none → len1 = 0 ∧ cap1 = 0) (hv : View w a1 len1 g1) (h4 : len0 < 4) (r2 : Int) (h5 : (len0 : Int) < r2)
    (hr : gbSize len0 g0 = 0) (hr2 : gbSize (len0 + len1) (joined g0 len0 g1) = r2) :
    Calls Try.prog 7 #[.slice (some ⟨b, off, none⟩) len0 cap0, .slice a1 len1 cap1] w fun e w' => e = .returned (.bool true) ∧ Below w.heap.size w w' := by
  have HC : Hid (∀ i, i < len0 → w.cell? ⟨b, off + i, none⟩ = some (.int .u8 (g0 i))) := hc
  have HN : Hid (a1 = none → len1 = 0 ∧ cap1 = 0) := hnil
  have HV : Hid (View w a1 len1 g1) := hv
  have HR : Hid (gbSize len0 g0 = 0) := hr
  have HR2 : Hid (gbSize (len0 + len1) (joined g0 len0 g1) = r2) := hr2
  clear hc hnil hv hr hr2
  go_enter Try.func7, Try.ntmps7
  go_wp2_with fail
  refine (bytes_any _ _ len0 cap0 len1 cap1 _ (by omega)).mono ?_
  rintro e w' ⟨rfl, rfl⟩
  go_wp2_with fail
  refine (clone_any b off len0 cap0 g0 _ h0 (by omega) HC.out).mono ?_
  rintro e w1 ⟨rfl, hrow, hbel⟩
  have HRW1 : Hid (w1.rowIs w'.heap.size 5 len0 (fun i => .int .u8 (g0 i))) := hrow
  have HB1 : Hid (Below w'.heap.size w' w1) := hbel
  have HV1 : Hid (View w1 a1 len1 g1) := HV.out.below hbel
  clear hrow hbel
  go_wp2_with fail
  refine (clone_view a1 len1 cap1 g1 _ (by omega) HN.out HV1.out).mono ?_
  rintro e w2 ⟨a2, rfl, hv2, hbel⟩
  have HB2 : Hid (Below w'.heap.size w' w2) := HB1.out.trans (hbel.mono HB1.out.size)
  have hrow2 : w2.rowIs w'.heap.size 5 len0 (fun i => .int .u8 (g0 i)) := HRW1.out.of_block (hbel.block _ HRW1.out.lt)
  have HC2 : Hid (∀ i, i < len0 → w2.cell? ⟨w'.heap.size, 0 + i, none⟩ = some (.int .u8 (g0 i))) := fun i hi => by rw [Nat.zero_add]; exact hrow2.cell hi
  have HS : Hid (w'.heap.size < w2.heap.size) := hrow2.lt
  have HV2 : Hid (View w2 a2 len1 g1) := hv2
  clear hrow2 hbel hv2
  go_wp2_with fail
  refine (zz_val (0) _ 0 len0 len0 g0 _ h0 HR.out HC2.out).mono ?_
  rintro e w3 ⟨rfl, rfl⟩
  go_wp2_with fail
  refine (concat_any _ 0 len0 len0 len1 len1 a2 g0 g1 _ h0 (by omega) (by omega) HC2.out HV2.out).mono ?_
  rintro e w4 ⟨rfl, hrow, hbel⟩
  have HB3 : Hid (Below w'.heap.size w' w4) := HB2.out.trans (hbel.mono HB2.out.size)
  have HC3 : Hid (∀ i, i < len0 + len1 → w4.cell? ⟨w3.heap.size, 0 + i, none⟩ = some (.int .u8 (joined g0 len0 g1 i))) := fun i hi => by rw [Nat.zero_add]; exact hrow.cell hi
  have HC4 : Hid (∀ i, i < len0 → w4.cell? ⟨w'.heap.size, 0 + i, none⟩ = some (.int .u8 (g0 i))) := fun i hi => (hbel.cell (p := ⟨w'.heap.size, 0 + i, none⟩) HS.out).trans (HC2.out i hi)
  clear hrow hbel
  go_wp2_with fail
  refine (zz_val (r2) _ 0 (len0 + len1) (len0 + len1) (joined g0 len0 g1) _ (by omega) HR2.out HC3.out).mono ?_
  rintro e w5 ⟨rfl, rfl⟩
  go_wp2_with fail
  go_ret
  exact ⟨rfl, HB3.out⟩

set_option maxHeartbeats 2000000 in
theorem walk_p1 (b off len0 cap0 : Nat) (a1 : Option Addr) (len1 cap1 : Nat) (g0 g1 : Nat → Int) (w : World) (h0 : 0 < len0) (h1 : len0 ≤ 524288) (h2 : len1 ≤ 524288)
    (hc : ∀ i, i < len0 → w.cell? ⟨b, off + i, none⟩ = some (.int .u8 (g0 i))) (hnil : a1 = none → len1 = 0 ∧ cap1 = 0) (hv : View w a1 len1 g1) (h4 : 1 ≤ len0)
    (hr : gbSize len0 g0 = 1) (hr2 : gbSize (len0 + len1) (joined g0 len0 g1) = 1) (hr3 : gbSize 1 g0 = 1) :
    Calls Try.prog 7 #[.slice (some ⟨b, off, none⟩) len0 cap0, .slice a1 len1 cap1] w fun e w' => e = .returned (.bool true) ∧ Below w.heap.size w w' := by
  have HC : Hid (∀ i, i < len0 → w.cell? ⟨b, off + i, none⟩ = some (.int .u8 (g0 i))) := hc
  have HN : Hid (a1 = none → len1 = 0 ∧ cap1 = 0) := hnil
  have HV : Hid (View w a1 len1 g1) := hv
  have HR : Hid (gbSize len0 g0 = 1) := hr
  have HR2 : Hid (gbSize (len0 + len1) (joined g0 len0 g1) = 1) := hr2
  have HR3 : Hid (gbSize 1 g0 = 1) := hr3
  clear hr3
  clear hc hnil hv hr hr2
  go_enter Try.func7, Try.ntmps7
  go_wp2_with fail
  refine (bytes_any _ _ len0 cap0 len1 cap1 _ (by omega)).mono ?_
  rintro e w' ⟨rfl, rfl⟩
  go_wp2_with fail
  refine (clone_any b off len0 cap0 g0 _ h0 (by omega) HC.out).mono ?_
  rintro e w1 ⟨rfl, hrow, hbel⟩
  have HRW1 : Hid (w1.rowIs w'.heap.size 5 len0 (fun i => .int .u8 (g0 i))) := hrow
  have HB1 : Hid (Below w'.heap.size w' w1) := hbel
  have HV1 : Hid (View w1 a1 len1 g1) := HV.out.below hbel
  clear hrow hbel
  go_wp2_with fail
  refine (clone_view a1 len1 cap1 g1 _ (by omega) HN.out HV1.out).mono ?_
  rintro e w2 ⟨a2, rfl, hv2, hbel⟩
  have HB2 : Hid (Below w'.heap.size w' w2) := HB1.out.trans (hbel.mono HB1.out.size)
  have hrow2 : w2.rowIs w'.heap.size 5 len0 (fun i => .int .u8 (g0 i)) := HRW1.out.of_block (hbel.block _ HRW1.out.lt)
  have HC2 : Hid (∀ i, i < len0 → w2.cell? ⟨w'.heap.size, 0 + i, none⟩ = some (.int .u8 (g0 i))) := fun i hi => by rw [Nat.zero_add]; exact hrow2.cell hi
  have HS : Hid (w'.heap.size < w2.heap.size) := hrow2.lt
  have HV2 : Hid (View w2 a2 len1 g1) := hv2
  clear hrow2 hbel hv2
  go_wp2_with fail
  refine (zz_val (1) _ 0 len0 len0 g0 _ h0 HR.out HC2.out).mono ?_
  rintro e w3 ⟨rfl, rfl⟩
  go_wp2_with fail
  refine (concat_any _ 0 len0 len0 len1 len1 a2 g0 g1 _ h0 (by omega) (by omega) HC2.out HV2.out).mono ?_
  rintro e w4 ⟨rfl, hrow, hbel⟩
  have HB3 : Hid (Below w'.heap.size w' w4) := HB2.out.trans (hbel.mono HB2.out.size)
  have HC3 : Hid (∀ i, i < len0 + len1 → w4.cell? ⟨w3.heap.size, 0 + i, none⟩ = some (.int .u8 (joined g0 len0 g1 i))) := fun i hi => by rw [Nat.zero_add]; exact hrow.cell hi
  have HC4 : Hid (∀ i, i < len0 → w4.cell? ⟨w'.heap.size, 0 + i, none⟩ = some (.int .u8 (g0 i))) := fun i hi => (hbel.cell (p := ⟨w'.heap.size, 0 + i, none⟩) HS.out).trans (HC2.out i hi)
  clear hrow hbel
  go_wp2_with fail
  refine (zz_val (1) _ 0 (len0 + len1) (len0 + len1) (joined g0 len0 g1) _ (by omega) HR2.out HC3.out).mono ?_
  rintro e w5 ⟨rfl, rfl⟩
  go_wp2_with fail
  refine (zz_val (1) _ 0 1 len0 g0 _ (by omega) HR3.out (fun i hi => HC4.out i (by omega))).mono ?_
  rintro e w6 ⟨rfl, rfl⟩
  go_wp2_with fail
  go_ret
  exact ⟨rfl, HB3.out⟩

set_option maxHeartbeats 2000000 in
theorem walk_p2 (b off len0 cap0 : Nat) (a1 : Option Addr) (len1 cap1 : Nat) (g0 g1 : Nat → Int) (w : World) (h0 : 0 < len0) (h1 : len0 ≤ 524288) (h2 : len1 ≤ 524288)
    (hc : ∀ i, i < len0 → w.cell? ⟨b, off + i, none⟩ = some (.int .u8 (g0 i))) (hnil : a1 = none → len1 = 0 ∧ cap1 = 0) (hv : View w a1 len1 g1) (h4 : 2 ≤ len0)
    (hr : gbSize len0 g0 = 2) (hr2 : gbSize (len0 + len1) (joined g0 len0 g1) = 2) (hr3 : gbSize 2 g0 = 2) :
    Calls Try.prog 7 #[.slice (some ⟨b, off, none⟩) len0 cap0, .slice a1 len1 cap1] w fun e w' => e = .returned (.bool true) ∧ Below w.heap.size w w' := by
  have HC : Hid (∀ i, i < len0 → w.cell? ⟨b, off + i, none⟩ = some (.int .u8 (g0 i))) := hc
  have HN : Hid (a1 = none → len1 = 0 ∧ cap1 = 0) := hnil
  have HV : Hid (View w a1 len1 g1) := hv
  have HR : Hid (gbSize len0 g0 = 2) := hr
  have HR2 : Hid (gbSize (len0 + len1) (joined g0 len0 g1) = 2) := hr2
  have HR3 : Hid (gbSize 2 g0 = 2) := hr3
  clear hr3
  clear hc hnil hv hr hr2
  go_enter Try.func7, Try.ntmps7
  go_wp2_with fail
  refine (bytes_any _ _ len0 cap0 len1 cap1 _ (by omega)).mono ?_
  rintro e w' ⟨rfl, rfl⟩
  go_wp2_with fail
  refine (clone_any b off len0 cap0 g0 _ h0 (by omega) HC.out).mono ?_
  rintro e w1 ⟨rfl, hrow, hbel⟩
  have HRW1 : Hid (w1.rowIs w'.heap.size 5 len0 (fun i => .int .u8 (g0 i))) := hrow
  have HB1 : Hid (Below w'.heap.size w' w1) := hbel
  have HV1 : Hid (View w1 a1 len1 g1) := HV.out.below hbel
  clear hrow hbel
  go_wp2_with fail
  refine (clone_view a1 len1 cap1 g1 _ (by omega) HN.out HV1.out).mono ?_
  rintro e w2 ⟨a2, rfl, hv2, hbel⟩
  have HB2 : Hid (Below w'.heap.size w' w2) := HB1.out.trans (hbel.mono HB1.out.size)
  have hrow2 : w2.rowIs w'.heap.size 5 len0 (fun i => .int .u8 (g0 i)) := HRW1.out.of_block (hbel.block _ HRW1.out.lt)
  have HC2 : Hid (∀ i, i < len0 → w2.cell? ⟨w'.heap.size, 0 + i, none⟩ = some (.int .u8 (g0 i))) := fun i hi => by rw [Nat.zero_add]; exact hrow2.cell hi
  have HS : Hid (w'.heap.size < w2.heap.size) := hrow2.lt
  have HV2 : Hid (View w2 a2 len1 g1) := hv2
  clear hrow2 hbel hv2
  go_wp2_with fail
  refine (zz_val (2) _ 0 len0 len0 g0 _ h0 HR.out HC2.out).mono ?_
  rintro e w3 ⟨rfl, rfl⟩
  go_wp2_with fail
  refine (concat_any _ 0 len0 len0 len1 len1 a2 g0 g1 _ h0 (by omega) (by omega) HC2.out HV2.out).mono ?_
  rintro e w4 ⟨rfl, hrow, hbel⟩
  have HB3 : Hid (Below w'.heap.size w' w4) := HB2.out.trans (hbel.mono HB2.out.size)
  have HC3 : Hid (∀ i, i < len0 + len1 → w4.cell? ⟨w3.heap.size, 0 + i, none⟩ = some (.int .u8 (joined g0 len0 g1 i))) := fun i hi => by rw [Nat.zero_add]; exact hrow.cell hi
  have HC4 : Hid (∀ i, i < len0 → w4.cell? ⟨w'.heap.size, 0 + i, none⟩ = some (.int .u8 (g0 i))) := fun i hi => (hbel.cell (p := ⟨w'.heap.size, 0 + i, none⟩) HS.out).trans (HC2.out i hi)
  clear hrow hbel
  go_wp2_with fail
  refine (zz_val (2) _ 0 (len0 + len1) (len0 + len1) (joined g0 len0 g1) _ (by omega) HR2.out HC3.out).mono ?_
  rintro e w5 ⟨rfl, rfl⟩
  go_wp2_with fail
  refine (zz_val (2) _ 0 2 len0 g0 _ (by omega) HR3.out (fun i hi => HC4.out i (by omega))).mono ?_
  rintro e w6 ⟨rfl, rfl⟩
  go_wp2_with fail
  go_ret
  exact ⟨rfl, HB3.out⟩

set_option maxHeartbeats 2000000 in
theorem walk_p4 (b off len0 cap0 : Nat) (a1 : Option Addr) (len1 cap1 : Nat) (g0 g1 : Nat → Int) (w : World) (h0 : 0 < len0) (h1 : len0 ≤ 524288) (h2 : len1 ≤ 524288)
    (hc : ∀ i, i < len0 → w.cell? ⟨b, off + i, none⟩ = some (.int .u8 (g0 i))) (hnil : a1 = none → len1 = 0 ∧ cap1 = 0) (hv : View w a1 len1 g1) (h4 : 4 ≤ len0)
    (hr : gbSize len0 g0 = 4) (hr2 : gbSize (len0 + len1) (joined g0 len0 g1) = 4) (hr3 : gbSize 4 g0 = 4) :
    Calls Try.prog 7 #[.slice (some ⟨b, off, none⟩) len0 cap0, .slice a1 len1 cap1] w fun e w' => e = .returned (.bool true) ∧ Below w.heap.size w w' := by
  have HC : Hid (∀ i, i < len0 → w.cell? ⟨b, off + i, none⟩ = some (.int .u8 (g0 i))) := hc
  have HN : Hid (a1 = none → len1 = 0 ∧ cap1 = 0) := hnil
  have HV : Hid (View w a1 len1 g1) := hv
  have HR : Hid (gbSize len0 g0 = 4) := hr
  have HR2 : Hid (gbSize (len0 + len1) (joined g0 len0 g1) = 4) := hr2
  have HR3 : Hid (gbSize 4 g0 = 4) := hr3
  clear hr3
  clear hc hnil hv hr hr2
  go_enter Try.func7, Try.ntmps7
  go_wp2_with fail
  refine (bytes_any _ _ len0 cap0 len1 cap1 _ (by omega)).mono ?_
  rintro e w' ⟨rfl, rfl⟩
  go_wp2_with fail
  refine (clone_any b off len0 cap0 g0 _ h0 (by omega) HC.out).mono ?_
  rintro e w1 ⟨rfl, hrow, hbel⟩
  have HRW1 : Hid (w1.rowIs w'.heap.size 5 len0 (fun i => .int .u8 (g0 i))) := hrow
  have HB1 : Hid (Below w'.heap.size w' w1) := hbel
  have HV1 : Hid (View w1 a1 len1 g1) := HV.out.below hbel
  clear hrow hbel
  go_wp2_with fail
  refine (clone_view a1 len1 cap1 g1 _ (by omega) HN.out HV1.out).mono ?_
  rintro e w2 ⟨a2, rfl, hv2, hbel⟩
  have HB2 : Hid (Below w'.heap.size w' w2) := HB1.out.trans (hbel.mono HB1.out.size)
  have hrow2 : w2.rowIs w'.heap.size 5 len0 (fun i => .int .u8 (g0 i)) := HRW1.out.of_block (hbel.block _ HRW1.out.lt)
  have HC2 : Hid (∀ i, i < len0 → w2.cell? ⟨w'.heap.size, 0 + i, none⟩ = some (.int .u8 (g0 i))) := fun i hi => by rw [Nat.zero_add]; exact hrow2.cell hi
  have HS : Hid (w'.heap.size < w2.heap.size) := hrow2.lt
  have HV2 : Hid (View w2 a2 len1 g1) := hv2
  clear hrow2 hbel hv2
  go_wp2_with fail
  refine (zz_val (4) _ 0 len0 len0 g0 _ h0 HR.out HC2.out).mono ?_
  rintro e w3 ⟨rfl, rfl⟩
  go_wp2_with fail
  refine (concat_any _ 0 len0 len0 len1 len1 a2 g0 g1 _ h0 (by omega) (by omega) HC2.out HV2.out).mono ?_
  rintro e w4 ⟨rfl, hrow, hbel⟩
  have HB3 : Hid (Below w'.heap.size w' w4) := HB2.out.trans (hbel.mono HB2.out.size)
  have HC3 : Hid (∀ i, i < len0 + len1 → w4.cell? ⟨w3.heap.size, 0 + i, none⟩ = some (.int .u8 (joined g0 len0 g1 i))) := fun i hi => by rw [Nat.zero_add]; exact hrow.cell hi
  have HC4 : Hid (∀ i, i < len0 → w4.cell? ⟨w'.heap.size, 0 + i, none⟩ = some (.int .u8 (g0 i))) := fun i hi => (hbel.cell (p := ⟨w'.heap.size, 0 + i, none⟩) HS.out).trans (HC2.out i hi)
  clear hrow hbel
  go_wp2_with fail
  refine (zz_val (4) _ 0 (len0 + len1) (len0 + len1) (joined g0 len0 g1) _ (by omega) HR2.out HC3.out).mono ?_
  rintro e w5 ⟨rfl, rfl⟩
  go_wp2_with fail
  refine (zz_val (4) _ 0 4 len0 g0 _ (by omega) HR3.out (fun i hi => HC4.out i (by omega))).mono ?_
  rintro e w6 ⟨rfl, rfl⟩
  go_wp2_with fail
  go_ret
  exact ⟨rfl, HB3.out⟩

theorem walk_some (b off len0 cap0 : Nat) (a1 : Option Addr) (len1 cap1 : Nat) (g0 g1 : Nat → Int) (w : World) (h0 : 0 < len0) (h1 : len0 ≤ 524288) (h2 : len1 ≤ 524288)
    (hc : ∀ i, i < len0 → w.cell? ⟨b, off + i, none⟩ = some (.int .u8 (g0 i))) (hnil : a1 = none → len1 = 0 ∧ cap1 = 0) (hv : View w a1 len1 g1) :
    Calls Try.prog 7 #[.slice (some ⟨b, off, none⟩) len0 cap0, .slice a1 len1 cap1] w fun e w' => e = .returned (.bool true) ∧ Below w.heap.size w w' := by
  rcases ways len0 len1 g0 g1 h0 with ⟨k1, k2⟩ | ⟨k1, k4, k2 | k2 | k2⟩ | ⟨r, rfl | rfl | rfl, k1, k3, k2, k5⟩
  · exact walk_m b off len0 cap0 a1 len1 cap1 g0 g1 w h0 h1 h2 hc hnil hv k1 k2
  · exact walk_z b off len0 cap0 a1 len1 cap1 g0 g1 w h0 h1 h2 hc hnil hv k4 k1 k2
  · exact walk_zm b off len0 cap0 a1 len1 cap1 g0 g1 w h0 h1 h2 hc hnil hv k4 k1 k2
  · exact walk_zp b off len0 cap0 a1 len1 cap1 g0 g1 w h0 h1 h2 hc hnil hv k4 _ k2 k1 rfl
  · exact walk_p1 b off len0 cap0 a1 len1 cap1 g0 g1 w h0 h1 h2 hc hnil hv k3 k1 k2 k5
  · exact walk_p2 b off len0 cap0 a1 len1 cap1 g0 g1 w h0 h1 h2 hc hnil hv k3 k1 k2 k5
  · exact walk_p4 b off len0 cap0 a1 len1 cap1 g0 g1 w h0 h1 h2 hc hnil hv k3 k1 k2 k5

theorem view_of (w : World) (a : Option Addr) (len cap : Nat) (zs : List Int) (h : IsRow .u8 w a len cap zs) : (a = none → len = 0 ∧ cap = 0) ∧ View w a len (fun i => zs.getD i 0) := by
  rcases h with ⟨rfl, rfl, rfl, rfl⟩ | ⟨x, rfl, hl, hm, hz, hcell, hwz⟩
  · exact ⟨fun _ => ⟨rfl, rfl⟩, fun h => absurd h (Nat.lt_irrefl _)⟩
  · refine ⟨fun h => absurd h (by simp), fun hp => ?_⟩
    obtain ⟨b, off, rfl, hc⟩ := ints_at hcell (by omega)
    exact ⟨b, off, rfl, fun i hi => hc i (by omega)⟩

theorem len_of (w : World) (a : Option Addr) (len cap : Nat) (zs : List Int) (h : IsRow .u8 w a len cap zs) : len ≤ 9223372036854775807 := by
  rcases h with ⟨rfl, rfl, rfl, rfl⟩ | ⟨x, rfl, hl, hm, hz, hcell, hwz⟩
  · decide
  · unfold maxLen at hm; omega

theorem walk (a0 : Option Addr) (len0 cap0 : Nat) (z0 : List Int) (a1 : Option Addr) (len1 cap1 : Nat) (z1 : List Int) (w : World) (w0 : IsRow .u8 w a0 len0 cap0 z0) (w1 : IsRow .u8 w a1 len1 cap1 z1) :
    Calls Try.prog 7 #[.slice a0 len0 cap0, .slice a1 len1 cap1] w fun e w' => e = .returned (.bool true) ∧ Below w.heap.size w w' := by
  by_cases h : len0 = 0 ∨ 1048576 < len0 + len1 ∨ 524288 < len0 ∨ 524288 < len1
  · exact walk_none a0 a1 len0 cap0 len1 cap1 w h (len_of w a1 len1 cap1 z1 w1)
  · obtain ⟨_, v0⟩ := view_of w a0 len0 cap0 z0 w0
    obtain ⟨hnil, v1⟩ := view_of w a1 len1 cap1 z1 w1
    obtain ⟨b, off, rfl, hc⟩ := v0 (by omega)
    exact walk_some b off len0 cap0 a1 len1 cap1 _ _ w (by omega) (by omega) (by omega) hc hnil v1

/-! ### THE ROW's STEP: WRITTEN OUT: LEAVE IT -/
set_option maxRecDepth 100000 in
theorem lifted (os : Os) (started : os.Started) (H : Type) (enc : TypeId × Value → H) :
    ReturnsInHanded {} Try.checked os 7 .any (Rows.fnGb18030SizePrefixStableSpec.pre6 enc Try.prog Try.f7 Rows.fnGb18030SizePrefixStableRow.domain false) (Rows.fnGb18030SizePrefixStableSpec.post enc Try.prog Try.f7 false true false false) := by
  refine returnsInHanded_of_change (C := Try.checked) own started (by kernel_rfl) Try.func7
    (ChangeSpec.witness6 (enc := enc) (C := Try.checked) false ⟨#[], #[.slice none 0 0, .slice none 0 0], []⟩ 8 (by kernel_rfl) (by kernel_rfl) (by kernel_rfl) (by kernel_rfl)) ?_
  intro W base args ds gs before hval0 hW hcnd _
  have hval : ∀ (j : Nat) t v, Try.f7.params[j]? = some t → args[j]? = some v → Value.okWide Try.prog W .any base t v := hval0
  have hW' := hW
  obtain ⟨p, q, hA0, hV, rfl, hfz, hnd⟩ := hW
  have hA : DataW.TrodAll enc Try.prog W 0 (fun _ => true) true Try.f7.params.toList args.toList ds p := hA0
  rw [Try.params7] at hA hval
  obtain ⟨v0, vs0, d0, ds0, p0, q0, hargs, rfl, rfl, h0, r0⟩ := trodAll_cons hA
  obtain ⟨v1, vs1, d1, ds1, p1, q1, rfl, rfl, rfl, h1, r1⟩ := trodAll_cons r0
  obtain ⟨rfl, rfl, rfl⟩ := trodAll_nil r1
  obtain rfl : args = #[v0, v1] := by cases args; simp_all
  obtain ⟨rfl, rfl⟩ := trodVars_none hV
  obtain ⟨a0, len0, cap0, rfl⟩ := okWide_slice Try.underlying22 (hval 0 22 v0 rfl rfl)
  have k0 := h0
  have lt0 : ∀ x ∈ p0, x.block < W.heap.size := by obtain ⟨m, hm⟩ := k0; exact DataW.trod_lt m _ _ _ hm
  obtain ⟨z0, w0⟩ : ∃ zs, IsRow .u8 W a0 len0 cap0 zs := by
    obtain ⟨fuel, hf⟩ := h0
    rcases open_ints Try.underlying22 Try.underlying5 (by kernel_rfl) hf with ⟨hcs, _⟩ | ⟨x, l, c, zs, hcs, _, hl, hm, hz, _, hcell, hwz⟩
    · simp [Value.cells] at hcs
      obtain ⟨rfl, rfl, rfl⟩ := hcs
      exact ⟨[], .inl ⟨rfl, rfl, rfl, rfl⟩⟩
    · simp [Value.cells] at hcs
      obtain ⟨rfl, rfl, rfl⟩ := hcs
      exact ⟨zs, .inr ⟨_, rfl, hl, hm, by simpa using hz, hcell, hwz⟩⟩
  obtain ⟨a1, len1, cap1, rfl⟩ := okWide_slice Try.underlying22 (hval 1 22 v1 rfl rfl)
  have k1 := h1
  have lt1 : ∀ x ∈ p1, x.block < W.heap.size := by obtain ⟨m, hm⟩ := k1; exact DataW.trod_lt m _ _ _ hm
  obtain ⟨z1, w1⟩ : ∃ zs, IsRow .u8 W a1 len1 cap1 zs := by
    obtain ⟨fuel, hf⟩ := h1
    rcases open_ints Try.underlying22 Try.underlying5 (by kernel_rfl) hf with ⟨hcs, _⟩ | ⟨x, l, c, zs, hcs, _, hl, hm, hz, _, hcell, hwz⟩
    · simp [Value.cells] at hcs
      obtain ⟨rfl, rfl, rfl⟩ := hcs
      exact ⟨[], .inl ⟨rfl, rfl, rfl, rfl⟩⟩
    · simp [Value.cells] at hcs
      obtain ⟨rfl, rfl, rfl⟩ := hcs
      exact ⟨zs, .inr ⟨_, rfl, hl, hm, by simpa using hz, hcell, hwz⟩⟩
  clear hA0 hval0
  refine (walk a0 len0 cap0 z0 a1 len1 cap1 z1 W w0 w1).mono fun e W' ⟨he, bel⟩ => ?_
  subst he
  exact ⟨_, rfl, _, _, _, [], _, [], hW', trodAll_mk1 (shut_bool Try.underlying4 _), (trodAll_cons_mk (Below.trod laidOut (by kernel_rfl) (of_decide_eq_true (by kernel_rfl)) k0 bel lt0) (trodAll_cons_mk (Below.trod laidOut (by kernel_rfl) (of_decide_eq_true (by kernel_rfl)) k1 bel lt1) trodAll_mk0)), rfl, bel.frame _, fun h => by cases h⟩

theorem over : Rows.fnGb18030SizePrefixStableRow.holds Try.pinned (OpenSpec.ofChange Rows.fnGb18030SizePrefixStableSpec) :=
  OpenClaim.holds_of_wide 7 Try.f7 rfl rfl rfl rfl rfl rfl rfl ⟨rfl, rfl, rfl, rfl, rfl⟩ rfl rfl rfl rfl rfl (by kernel_rfl) Try.func7 (by kernel_rfl)
    (of_decide_eq_true (by kernel_rfl)) (by unfold Func.isWrapper; first | (rw [if_pos (by decide +kernel)]; kernel_rfl) | (rw [if_neg (by decide +kernel)]; exact ⟨rfl, rfl⟩))
    (fun os started H enc _ => lifted os started H enc)

/-- ████ THE STATEMENT ████ -/
theorem proved : Rows.FnGb18030SizePrefixStableSaid := over
#print axioms proved
end Go.Proofs.Qxb6603264a.fnGb18030SizePrefixStable
