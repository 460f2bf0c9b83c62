/-
  THE SHELL OF A PROOF OF 'Rows.FnQuoteReaderStepMatchesModelSaid' ('example.com/pipewright/pipewright/zzlaws_internal_mask_b1.FnQuoteReaderStepMatchesModel'), WRITTEN BY PROGRAM (proof-skeleton.mjs) off the guide's own print for that function. Not trusted: Lean checks it.
  The walk is filled in.
-/
import Derived.Test.Qxb6603303aRows
import Derived.Test.Qxb6603303aStep
import Derived.WalkKit
import Derived.ProofKit
import Derived.OpenShut
import Derived.ShutString
namespace Go.Proofs.Qxb6603303a.fnQuoteReaderStepMatchesModel
open Go.ChangeShapes Go.WideShapes Go.ChangeAt Go.RowKit
open Go.ChangeMaps (open_string shut_string)
set_option linter.unusedVariables false      -- a walk need not use every 'w<i>' (that an integer argument fits its kind)

theorem own : ownKnob Try.prog.godebug = none := by kernel_rfl

/-! ### STEP 1: THE WALK -/
theorem walk_out (a0 a1 a2 : Int) (w : World) (h : a0 < 0 ∨ a1 < 0 ∨ 5 ≤ a1 ∨ (0 < a1 ∧ a0 = 0)) :
    Calls Try.prog 5 #[.int .i64 a0, .int .i64 a1, .int .u8 a2] w fun e w' => e = .returned (.bool true) ∧ Grown w w' := by
  by_cases h0 : a0 < 0
  · clear h
    go_enter Try.func5, Try.ntmps5
    go_wp2_with fail
    go_ret
    exact ⟨rfl, Grown.refl _⟩
  by_cases h1 : a1 < 0
  · clear h
    go_enter Try.func5, Try.ntmps5
    go_wp2_with fail
    go_ret
    exact ⟨rfl, Grown.refl _⟩
  by_cases h2 : 5 ≤ a1
  · clear h
    go_enter Try.func5, Try.ntmps5
    go_wp2_with fail
    go_ret
    exact ⟨rfl, Grown.refl _⟩
  · have h3 : 0 < a1 ∧ a0 = 0 := by omega
    obtain ⟨h3, rfl⟩ := h3
    clear h h0
    go_enter Try.func5, Try.ntmps5
    go_wp2_with fail
    go_ret
    exact ⟨rfl, Grown.refl _⟩

theorem walk_in (run : Int) (u : Nat) (b : Int) (w : World) (hu : u ≤ 4) (h0 : 0 ≤ run) (hm : run ≤ 9223372036854775807) (h1 : 0 < u → 0 < run) :
    Calls Try.prog 5 #[.int .i64 run, .int .i64 u, .int .u8 b] w fun e w' => e = .returned (.bool true) ∧ Grown w w' := by
  have HA : Hid (∀ w : World, Calls Try.prog 16 #[.int .i64 run, .int .i64 u, .int .u8 b] w fun e w' => e = (stepP run u b).end_ ∧ NewQ w w') := fun w => next_any run u b w hu h0 h1
  have HB : Hid (∀ w : World, Calls Try.prog 17 #[.int .i64 run, .int .i64 u, .int .u8 b] w fun e w' => e = (stepP run u b).end_ ∧ w' = w) := fun w => spec_any run u b w hu h0 hm h1
  generalize stepP run u b = x at *
  obtain ⟨x1, x2, x3, x4⟩ := x
  by_cases hz : 0 < u
  · have hr := h1 hz
    clear h1
    have hr0 : (run == 0) = false := beq_eq_false_iff_ne.2 (by omega)
    go_enter Try.func5, Try.ntmps5
    go_wp2_with fail
    refine (HA.out _).mono ?_
    rintro e w1 ⟨rfl, hq⟩
    have HQ : Hid (NewQ w w1) := hq
    clear hq
    unfold Four.end_
    go_wp2_with fail
    refine (HB.out _).mono ?_
    rintro e w2 ⟨rfl, rfl⟩
    unfold Four.end_
    go_wp2_with fail
    go_ret
    exact ⟨rfl, HQ.out.grown⟩
  · have hz : u = 0 := by omega
    subst hz
    clear h1
    go_enter Try.func5, Try.ntmps5
    go_wp2_with fail
    refine (HA.out _).mono ?_
    rintro e w1 ⟨rfl, hq⟩
    have HQ : Hid (NewQ w w1) := hq
    clear hq
    unfold Four.end_
    go_wp2_with fail
    refine (HB.out _).mono ?_
    rintro e w2 ⟨rfl, rfl⟩
    unfold Four.end_
    go_wp2_with fail
    go_ret
    exact ⟨rfl, HQ.out.grown⟩

theorem walk (a0 : Int) (a1 : Int) (a2 : Int) (w0 : (Lit.int .i64 a0).wf = true) (w1 : (Lit.int .i64 a1).wf = true) (w2 : (Lit.int .u8 a2).wf = true) (w : World) :
    Calls Try.prog 5 #[.int .i64 a0, .int .i64 a1, .int .u8 a2] w fun e w' => e = .returned (.bool true) ∧ Grown w w' := by
  by_cases h : a0 < 0 ∨ a1 < 0 ∨ 5 ≤ a1 ∨ (0 < a1 ∧ a0 = 0)
  · exact walk_out a0 a1 a2 w h
  · obtain ⟨u, rfl⟩ := Int.eq_ofNat_of_zero_le (show 0 ≤ a1 by omega)
    have hb := bounds_i64 w0
    exact walk_in a0 u a2 w (by omega) (by omega) hb.2 (by omega)

/-! ### THE ROW's STEP: WRITTEN OUT: LEAVE IT -/
set_option maxRecDepth 100000 in
theorem lifted (os : Os) (started : os.Started) (H : Type) (enc : TypeId × Value → H) :
    ReturnsInHanded {} Try.checked os 5 .any (Rows.fnQuoteReaderStepMatchesModelSpec.pre6 enc Try.prog Try.f5 Rows.fnQuoteReaderStepMatchesModelRow.domain false) (Rows.fnQuoteReaderStepMatchesModelSpec.post enc Try.prog Try.f5 false true false false) := by
  refine returnsInHanded_of_change (C := Try.checked) own started (by kernel_rfl) Try.func5
    (ChangeSpec.witness6 (enc := enc) (C := Try.checked) false ⟨#[], #[.int .i64 0, .int .i64 0, .int .u8 0], []⟩ 8 (by kernel_rfl) (by kernel_rfl) (by kernel_rfl) (by kernel_rfl)) ?_
  intro W base args ds gs before hval0 hW hcnd _
  have hval : ∀ (j : Nat) t v, Try.f5.params[j]? = some t → args[j]? = some v → Value.okWide Try.prog W .any base t v := hval0
  have hW' := hW
  obtain ⟨p, q, hA0, hV, rfl, hfz, hnd⟩ := hW
  have hA : DataW.TrodAll enc Try.prog W 0 (fun _ => true) true Try.f5.params.toList args.toList ds p := hA0
  rw [Try.params5] at hA hval
  obtain ⟨v0, vs0, d0, ds0, p0, q0, hargs, rfl, rfl, h0, r0⟩ := trodAll_cons hA
  obtain ⟨v1, vs1, d1, ds1, p1, q1, rfl, rfl, rfl, h1, r1⟩ := trodAll_cons r0
  obtain ⟨v2, vs2, d2, ds2, p2, q2, rfl, rfl, rfl, h2, r2⟩ := trodAll_cons r1
  obtain ⟨rfl, rfl, rfl⟩ := trodAll_nil r2
  obtain rfl : args = #[v0, v1, v2] := by cases args; simp_all
  obtain ⟨rfl, rfl⟩ := trodVars_none hV
  obtain ⟨a0, rfl, rfl, rfl, w0⟩ := open_int Try.underlying3 (hval 0 3 v0 rfl rfl) h0
  obtain ⟨a1, rfl, rfl, rfl, w1⟩ := open_int Try.underlying3 (hval 1 3 v1 rfl rfl) h1
  obtain ⟨a2, rfl, rfl, rfl, w2⟩ := open_int Try.underlying5 (hval 2 5 v2 rfl rfl) h2
  clear hA0 hval0
  simp only [List.append_nil] at hW'
  refine (walk a0 a1 a2 w0 w1 w2 W).mono fun e W' ⟨he, hg⟩ => ?_
  subst he
  exact ⟨_, rfl, post_of_same (pa := []) (pv := []) hW' (fun _ _ _ => (trodAll_cons_mk (shut_bool Try.underlying4 _) trodAll_mk0)) (fun sp _ => (trodAll_cons_mk (shut_int Try.underlying3 w0) (trodAll_cons_mk (shut_int Try.underlying3 w1) (trodAll_cons_mk (shut_int Try.underlying5 w2) trodAll_mk0)))) (fun _ _ => rfl) rfl
    (hg.frame _) hg.2.1 (ok_one (by kernel_rfl) rfl (okWide_bool_mk Try.underlying4 _))⟩

theorem over : Rows.fnQuoteReaderStepMatchesModelRow.holds Try.pinned (OpenSpec.ofChange Rows.fnQuoteReaderStepMatchesModelSpec) :=
  OpenClaim.holds_of_wide 5 Try.f5 rfl rfl rfl rfl rfl rfl rfl ⟨rfl, rfl, rfl, rfl, rfl⟩ rfl rfl rfl rfl rfl (by kernel_rfl) Try.func5 (by kernel_rfl)
    (of_decide_eq_true (by kernel_rfl)) (by unfold Func.isWrapper; first | (rw [if_pos (by decide +kernel)]; kernel_rfl) | (rw [if_neg (by decide +kernel)]; exact ⟨rfl, rfl⟩))
    (fun os started H enc _ => lifted os started H enc)

/-- ████ THE STATEMENT ████ -/
theorem proved : Rows.FnQuoteReaderStepMatchesModelSaid :=
  over
#print axioms proved
end Go.Proofs.Qxb6603303a.fnQuoteReaderStepMatchesModel
