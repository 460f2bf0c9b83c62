/-
  THE SHELL OF A PROOF OF 'Rows.FnJSONValueMatchesModelSaid' ('example.com/pipewright/pipewright/zzlaws_internal_mask_b1.FnJSONValueMatchesModel'), WRITTEN BY PROGRAM (proof-skeleton.mjs, third state) off the guide's own print for that function. Not trusted: Lean checks it.
  The walk is filled in.
-/
import Derived.Test.Qxb6603303aRows
import Derived.Test.Qxb6603303aJsonSpec
import Derived.WalkKit
import Derived.ProofKit
import Derived.OpenShut
import Derived.ShutString
import Derived.ChangeOld
import Derived.Below
namespace Go.Proofs.Qxb6603303a.fnJSONValueMatchesModel
open Go.ChangeShapes Go.WideShapes Go.ChangeAt Go.RowKit
open Go.ChangeMaps (open_string shut_string)
set_option linter.unusedVariables false

theorem own : ownKnob Try.prog.godebug = none := by kernel_rfl
theorem laidOut : laidOutB Try.prog = true := by kernel_rfl

/-- WHAT THE WALK IS TOLD OF A SLICE OF INTEGERS THAT CAME IN: it is nil; or it leads to a row of 'cap' cells, the numbers 'zs' (the first 'len' are its elements, the rest its spare room), each fitting its kind. -/
def IsRow (k : IntKind) (w : World) (a : Option Addr) (len cap : Nat) (zs : List Int) : Prop :=
  (a = none ∧ len = 0 ∧ cap = 0 ∧ zs = []) ∨
  ∃ x, a = some x ∧ len ≤ cap ∧ cap ≤ maxLen ∧ zs.length = cap ∧ (∀ i, i < zs.length → w.cell? (x.add i) = some (.int k (zs.getD i 0))) ∧ ∀ n ∈ zs, (Lit.int k n).wf = true

/-! ### STEP 1: THE WALK -/
/-- the zzBytes test (21). -/
theorem bytes_any (a0 : Option Addr) (len0 cap0 : Nat) (i esc : Int) (w : World) (h : len0 ≤ 1048576) :
    Calls Try.prog 21 #[.slice a0 len0 cap0, .int .i64 i, .int .i64 esc] w fun e w' => e = .returned (.bool true) ∧ w' = w := by
  go_enter Try.func21, Try.ntmps21
  go_wp2
  go_ret
  exact ⟨rfl, rfl⟩
theorem bytes_big (a0 : Option Addr) (len0 cap0 : Nat) (i esc : Int) (w : World) (h : 1048576 < len0) :
    Calls Try.prog 21 #[.slice a0 len0 cap0, .int .i64 i, .int .i64 esc] w fun e w' => e = .returned (.bool false) ∧ w' = w := by
  go_enter Try.func21, Try.ntmps21
  go_wp2
  go_ret
  exact ⟨rfl, rfl⟩

theorem walk_out (a0 : Option Addr) (len0 cap0 : Nat) (i esc : Int) (w : World) (h : 1048576 < len0 ∨ i < 0) :
    Calls Try.prog 8 #[.slice a0 len0 cap0, .int .i64 i, .int .i64 esc] w fun e w' => e = .returned (.bool true) ∧ Below w.heap.size w w' := by
  by_cases hb : 1048576 < len0
  · clear h
    go_enter Try.func8, Try.ntmps8
    go_wp2_with fail
    refine (bytes_big a0 len0 cap0 i esc _ hb).mono ?_
    rintro e w' ⟨rfl, rfl⟩
    go_wp2_with fail
    go_ret
    exact ⟨rfl, Below.refl _ _⟩
  · have hi : i < 0 := by omega
    clear h
    go_enter Try.func8, Try.ntmps8
    go_wp2_with fail
    refine (bytes_any a0 len0 cap0 i esc _ (by omega)).mono ?_
    rintro e w' ⟨rfl, rfl⟩
    go_wp2_with fail
    go_ret
    exact ⟨rfl, Below.refl _ _⟩

theorem walk_empty (a0 : Option Addr) (cap0 : Nat) (i esc : Int) (w : World) (hi : 0 ≤ i) (hnil : a0 = none → cap0 = 0) :
    Calls Try.prog 8 #[.slice a0 0 cap0, .int .i64 i, .int .i64 esc] w fun e w' => e = .returned (.bool true) ∧ Below w.heap.size w w' := by
  have HN : Hid (a0 = none → cap0 = 0) := hnil
  clear hnil
  go_enter Try.func8, Try.ntmps8
  go_wp2_with fail
  refine (bytes_any a0 0 cap0 i esc _ (by decide)).mono ?_
  rintro e w' ⟨rfl, rfl⟩
  go_wp2_with fail
  refine (clone_view a0 0 cap0 (fun _ => 0) _ (by decide) (fun h => ⟨rfl, HN.out h⟩) (fun h => absurd h (Nat.lt_irrefl _))).mono ?_
  rintro e w1 ⟨a', rfl, _, hb⟩
  have HB : Hid (Below w'.heap.size w' w1) := hb
  clear hb
  go_wp2_with fail
  refine (zzj_of a' 0 0 i esc _ _ _ (jv_out a' 0 0 i esc _ (by decide) hi)).mono ?_
  rintro e w2 ⟨rfl, hb⟩
  have HB2 : Hid (Below w'.heap.size w' w2) := HB.out.trans (hb.mono HB.out.size)
  clear hb
  go_wp2_with fail
  refine (sp_out a' 0 0 i esc _ (by decide) hi).mono ?_
  rintro e w3 ⟨rfl, hb⟩
  have HB3 : Hid (Below w'.heap.size w' w3) := HB2.out.trans (hb.mono HB2.out.size)
  clear hb
  go_wp2_with fail
  go_ret
  exact ⟨rfl, HB3.out⟩

set_option maxHeartbeats 2000000 in
theorem walk_some (b off len0 cap0 : Nat) (i esc : Int) (g : Nat → Int) (w : World) (hi : 0 ≤ i) (h0 : 0 < len0) (h1 : len0 ≤ 1048576) (hg : ∀ i, i < len0 → 0 ≤ g i ∧ g i < 256)
    (hc : ∀ i, i < len0 → w.cell? ⟨b, off + i, none⟩ = some (.int .u8 (g i))) :
    Calls Try.prog 8 #[.slice (some ⟨b, off, none⟩) len0 cap0, .int .i64 i, .int .i64 esc] w fun e w' => e = .returned (.bool true) ∧ Below w.heap.size w w' := by
  have HC : Hid (∀ i, i < len0 → w.cell? ⟨b, off + i, none⟩ = some (.int .u8 (g i))) := hc
  have HG : Hid (∀ i, i < len0 → 0 ≤ g i ∧ g i < 256) := hg
  clear hc hg
  go_enter Try.func8, Try.ntmps8
  go_wp2_with fail
  refine (bytes_any _ len0 cap0 i esc _ h1).mono ?_
  rintro e w' ⟨rfl, rfl⟩
  go_wp2_with fail
  refine (clone_any b off len0 cap0 g _ h0 (by omega) HC.out).mono ?_
  rintro e w1 ⟨rfl, hrow, hbel⟩
  have HT : Hid (∀ wx : World, Below w1.heap.size w1 wx → TextAt wx w'.heap.size len0 g) := fun wx hx =>
    ⟨fun i hi => by rw [Nat.zero_add]; exact (hx.cell (p := ⟨w'.heap.size, i, none⟩) hrow.lt).trans (hrow.cell hi), HG.out, h1⟩
  have HB : Hid (Below w'.heap.size w' w1) := hbel
  clear hrow hbel
  obtain ⟨x, ok, hA, hB⟩ := json_both w'.heap.size len0 i esc g h1 hi
  have HA : Hid (∀ w, TextAt w w'.heap.size len0 g → Calls Try.prog 36 #[.slice (some ⟨w'.heap.size, 0, none⟩) len0 len0, .int .i64 i, .int .i64 esc] w fun e w' => e = .returned (.tuple #[.int .i64 x, .bool ok]) ∧ Below w.heap.size w w') := hA
  have HS : Hid (∀ w, TextAt w w'.heap.size len0 g → Calls Try.prog 23 #[.slice (some ⟨w'.heap.size, 0, none⟩) len0 len0, .int .i64 i, .int .i64 esc] w fun e w' => e = .returned (.tuple #[.int .i64 x, .bool ok]) ∧ Below w.heap.size w w') := hB
  clear hA hB
  go_wp2_with fail
  refine (zzj_of _ len0 len0 i esc x ok _ ((Hid.out HA) _ (HT.out _ (Below.refl _ _)))).mono ?_
  rintro e w2 ⟨rfl, hb⟩
  have HB2 : Hid (Below w1.heap.size w1 w2) := hb
  clear hb
  go_wp2_with fail
  refine ((Hid.out HS) _ (HT.out _ HB2.out)).mono ?_
  rintro e w3 ⟨rfl, hb⟩
  have HB3 : Hid (Below w'.heap.size w' w3) := HB.out.trans ((HB2.out.trans (hb.mono HB2.out.size)).mono HB.out.size)
  clear hb
  cases ok
  · go_wp2_with fail
    go_ret
    exact ⟨rfl, HB3.out⟩
  · go_wp2_with fail
    go_ret
    exact ⟨rfl, HB3.out⟩

theorem walk (a0 : Option Addr) (len0 cap0 : Nat) (z0 : List Int) (a1 : Int) (a2 : Int) (w : World) (w0 : IsRow .u8 w a0 len0 cap0 z0) (w1 : (Lit.int .i64 a1).wf = true) (w2 : (Lit.int .i64 a2).wf = true) :
    Calls Try.prog 8 #[.slice a0 len0 cap0, .int .i64 a1, .int .i64 a2] w fun e w' => e = .returned (.bool true) ∧ Below w.heap.size w w' := by
  by_cases h : 1048576 < len0 ∨ a1 < 0
  · exact walk_out a0 len0 cap0 a1 a2 w h
  · rcases Nat.eq_zero_or_pos len0 with rfl | hp
    · refine walk_empty a0 cap0 a1 a2 w (by omega) (fun e => ?_)
      rcases w0 with ⟨_, _, h2, _⟩ | ⟨x, h2, _⟩
      · exact h2
      · rw [e] at h2; cases h2
    · rcases w0 with ⟨_, rfl, _, _⟩ | ⟨x, rfl, hl, hm, hz, hcell, hwz⟩
      · omega
      · obtain ⟨b, off, rfl, hc⟩ := ints_at hcell (by omega)
        exact walk_some b off len0 cap0 a1 a2 (fun i => z0.getD i 0) w (by omega) hp (by omega) (fun i hi => by have := range_u8 hwz i; simp only [List.getD_eq_getElem?_getD]; omega) (fun i hi => hc i (by omega))

/-! ### THE ROW's STEP: WRITTEN OUT: LEAVE IT -/
set_option maxRecDepth 100000 in
theorem lifted (os : Os) (started : os.Started) (H : Type) (enc : TypeId × Value → H) :
    ReturnsInHanded {} Try.checked os 8 .any (Rows.fnJSONValueMatchesModelSpec.pre6 enc Try.prog Try.f8 Rows.fnJSONValueMatchesModelRow.domain false) (Rows.fnJSONValueMatchesModelSpec.post enc Try.prog Try.f8 false true false false) := by
  refine returnsInHanded_of_change (C := Try.checked) own started (by kernel_rfl) Try.func8
    (ChangeSpec.witness6 (enc := enc) (C := Try.checked) false ⟨#[], #[.slice none 0 0, .int .i64 0, .int .i64 0], []⟩ 8 (by kernel_rfl) (by kernel_rfl) (by kernel_rfl) (by kernel_rfl)) ?_
  intro W base args ds gs before hval0 hW hcnd _
  have hval : ∀ (j : Nat) t v, Try.f8.params[j]? = some t → args[j]? = some v → Value.okWide Try.prog W .any base t v := hval0
  have hW' := hW
  obtain ⟨p, q, hA0, hV, rfl, hfz, hnd⟩ := hW
  have hA : DataW.TrodAll enc Try.prog W 0 (fun _ => true) true Try.f8.params.toList args.toList ds p := hA0
  rw [Try.params8] at hA hval
  obtain ⟨v0, vs0, d0, ds0, p0, q0, hargs, rfl, rfl, h0, r0⟩ := trodAll_cons hA
  obtain ⟨v1, vs1, d1, ds1, p1, q1, rfl, rfl, rfl, h1, r1⟩ := trodAll_cons r0
  obtain ⟨v2, vs2, d2, ds2, p2, q2, rfl, rfl, rfl, h2, r2⟩ := trodAll_cons r1
  obtain ⟨rfl, rfl, rfl⟩ := trodAll_nil r2
  obtain rfl : args = #[v0, v1, v2] := by cases args; simp_all
  obtain ⟨rfl, rfl⟩ := trodVars_none hV
  obtain ⟨a0, len0, cap0, rfl⟩ := okWide_slice Try.underlying22 (hval 0 22 v0 rfl rfl)
  have k0 := h0
  have lt0 : ∀ x ∈ p0, x.block < W.heap.size := by obtain ⟨m, hm⟩ := k0; exact DataW.trod_lt m _ _ _ hm
  obtain ⟨z0, w0⟩ : ∃ zs, IsRow .u8 W a0 len0 cap0 zs := by
    obtain ⟨fuel, hf⟩ := h0
    rcases open_ints Try.underlying22 Try.underlying5 (by kernel_rfl) hf with ⟨hcs, _⟩ | ⟨x, l, c, zs, hcs, _, hl, hm, hz, _, hcell, hwz⟩
    · simp [Value.cells] at hcs
      obtain ⟨rfl, rfl, rfl⟩ := hcs
      exact ⟨[], .inl ⟨rfl, rfl, rfl, rfl⟩⟩
    · simp [Value.cells] at hcs
      obtain ⟨rfl, rfl, rfl⟩ := hcs
      exact ⟨zs, .inr ⟨_, rfl, hl, hm, by simpa using hz, hcell, hwz⟩⟩
  obtain ⟨a1, rfl, rfl, rfl, w1⟩ := open_int Try.underlying3 (hval 1 3 v1 rfl rfl) h1
  obtain ⟨a2, rfl, rfl, rfl, w2⟩ := open_int Try.underlying3 (hval 2 3 v2 rfl rfl) h2
  clear hA0 hval0
  refine (walk a0 len0 cap0 z0 a1 a2 W w0 w1 w2).mono fun e W' ⟨he, bel⟩ => ?_
  subst he
  exact ⟨_, rfl, _, _, _, [], _, [], hW', trodAll_mk1 (shut_bool Try.underlying4 _), (trodAll_cons_mk (Below.trod laidOut (by kernel_rfl) (of_decide_eq_true (by kernel_rfl)) k0 bel lt0) (trodAll_cons_mk (shut_int Try.underlying3 w1) (trodAll_cons_mk (shut_int Try.underlying3 w2) trodAll_mk0))), rfl, bel.frame _, fun h => by cases h⟩

theorem over : Rows.fnJSONValueMatchesModelRow.holds Try.pinned (OpenSpec.ofChange Rows.fnJSONValueMatchesModelSpec) :=
  OpenClaim.holds_of_wide 8 Try.f8 rfl rfl rfl rfl rfl rfl rfl ⟨rfl, rfl, rfl, rfl, rfl⟩ rfl rfl rfl rfl rfl (by kernel_rfl) Try.func8 (by kernel_rfl)
    (of_decide_eq_true (by kernel_rfl)) (by unfold Func.isWrapper; first | (rw [if_pos (by decide +kernel)]; kernel_rfl) | (rw [if_neg (by decide +kernel)]; exact ⟨rfl, rfl⟩))
    (fun os started H enc _ => lifted os started H enc)

/-- ████ THE STATEMENT ████ -/
theorem proved : Rows.FnJSONValueMatchesModelSaid := over
#print axioms proved
end Go.Proofs.Qxb6603303a.fnJSONValueMatchesModel
