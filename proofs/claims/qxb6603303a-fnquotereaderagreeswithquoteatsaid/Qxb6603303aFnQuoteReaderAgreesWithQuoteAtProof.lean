/-
  THE SHELL OF A PROOF OF 'Rows.FnQuoteReaderAgreesWithQuoteAtSaid' ('example.com/pipewright/pipewright/zzlaws_internal_mask_b1.FnQuoteReaderAgreesWithQuoteAt'), WRITTEN BY PROGRAM (proof-skeleton.mjs, third state) off the guide's own print for that function. Not trusted: Lean checks it.
  The walk is filled in.
-/
import Derived.Test.Qxb6603303aRows
import Derived.Test.Qxb6603303aAgree
import Derived.WalkKit
import Derived.ProofKit
import Derived.OpenShut
import Derived.ShutString
import Derived.ChangeOld
import Derived.Below
namespace Go.Proofs.Qxb6603303a.fnQuoteReaderAgreesWithQuoteAt
open Go.ChangeShapes Go.WideShapes Go.ChangeAt Go.RowKit
open Go.ChangeMaps (open_string shut_string)
set_option linter.unusedVariables false

theorem own : ownKnob Try.prog.godebug = none := by kernel_rfl
theorem laidOut : laidOutB Try.prog = true := by kernel_rfl

/-- WHAT THE WALK IS TOLD OF A SLICE OF INTEGERS THAT CAME IN: it is nil; or it leads to a row of 'cap' cells, the numbers 'zs' (the first 'len' are its elements, the rest its spare room), each fitting its kind. -/
def IsRow (k : IntKind) (w : World) (a : Option Addr) (len cap : Nat) (zs : List Int) : Prop :=
  (a = none ∧ len = 0 ∧ cap = 0 ∧ zs = []) ∨
  ∃ x, a = some x ∧ len ≤ cap ∧ cap ≤ maxLen ∧ zs.length = cap ∧ (∀ i, i < zs.length → w.cell? (x.add i) = some (.int k (zs.getD i 0))) ∧ ∀ n ∈ zs, (Lit.int k n).wf = true

/-! ### STEP 1: THE WALK -/
/-- the zzBytes test (20). -/
theorem bytes_any (a0 : Option Addr) (len0 cap0 : Nat) (w : World) (h : len0 ≤ 1048576) :
    Calls Try.prog 20 #[.slice a0 len0 cap0] w fun e w' => e = .returned (.bool true) ∧ w' = w := by
  go_enter Try.func20, Try.ntmps20
  go_wp2
  go_ret
  exact ⟨rfl, rfl⟩
theorem bytes_big (a0 : Option Addr) (len0 cap0 : Nat) (w : World) (h : 1048576 < len0) :
    Calls Try.prog 20 #[.slice a0 len0 cap0] w fun e w' => e = .returned (.bool false) ∧ w' = w := by
  go_enter Try.func20, Try.ntmps20
  go_wp2
  go_ret
  exact ⟨rfl, rfl⟩

theorem walk_big (a0 : Option Addr) (len0 cap0 : Nat) (w : World) (h : 1048576 < len0) :
    Calls Try.prog 7 #[.slice a0 len0 cap0] w fun e w' => e = .returned (.bool true) ∧ Below w.heap.size w w' := by
  go_enter Try.func7, Try.ntmps7
  go_wp2_with fail
  refine (bytes_big a0 len0 cap0 _ h).mono ?_
  rintro e w' ⟨rfl, rfl⟩
  go_wp2_with fail
  go_ret
  exact ⟨rfl, Below.refl _ _⟩

theorem walk_empty (a0 : Option Addr) (cap0 : Nat) (w : World) (hnil : a0 = none → cap0 = 0) :
    Calls Try.prog 7 #[.slice a0 0 cap0] w fun e w' => e = .returned (.bool true) ∧ Below w.heap.size w w' := by
  have HN : Hid (a0 = none → cap0 = 0) := hnil
  clear hnil
  go_enter Try.func7, Try.ntmps7
  go_wp2_with fail
  refine (bytes_any a0 0 cap0 _ (by decide)).mono ?_
  rintro e w' ⟨rfl, rfl⟩
  go_wp2_with fail
  refine (clone_view a0 0 cap0 (fun _ => 0) _ (by decide) (fun h => ⟨rfl, HN.out h⟩) (fun h => absurd h (Nat.lt_irrefl _))).mono ?_
  rintro e w1 ⟨a', rfl, _, hb⟩
  have HB : Hid (Below w'.heap.size w' w1) := hb
  clear hb
  go_wp2_with fail
  go_loop [3, 4, 5] (fun r u i => r = .int .i64 0 ∧ u = .int .i64 0 ∧ i = .int .i64 0) (fun _ _ _ => 0)
  case atStart => exact ⟨rfl, rfl, rfl⟩
  case round =>
    obtain ⟨rfl, rfl, rfl⟩ := hrel
    go_wp2_with fail
    go_ret
    exact ⟨rfl, HB.out⟩

set_option maxHeartbeats 4000000 in
theorem walk_some (b off len0 cap0 : Nat) (g : Nat → Int) (w : World) (h0 : 0 < len0) (h1 : len0 ≤ 1048576) (hg : ∀ i, i < len0 → 0 ≤ g i ∧ g i < 256)
    (hc : ∀ i, i < len0 → w.cell? ⟨b, off + i, none⟩ = some (.int .u8 (g i))) :
    Calls Try.prog 7 #[.slice (some ⟨b, off, none⟩) len0 cap0] w fun e w' => e = .returned (.bool true) ∧ Below w.heap.size w w' := by
  have HC : Hid (∀ i, i < len0 → w.cell? ⟨b, off + i, none⟩ = some (.int .u8 (g i))) := hc
  have HG : Hid (∀ i, i < len0 → 0 ≤ g i ∧ g i < 256) := hg
  clear hc hg
  go_enter Try.func7, Try.ntmps7
  go_wp2_with fail
  refine (bytes_any _ len0 cap0 _ h1).mono ?_
  rintro e w' ⟨rfl, rfl⟩
  go_wp2_with fail
  refine (clone_any b off len0 cap0 g _ h0 (by omega) HC.out).mono ?_
  rintro e w1 ⟨rfl, hrow, hbel⟩
  have hc1 : Hid (∀ i, i < len0 → w1.cell? ⟨w'.heap.size, 0 + i, none⟩ = some (.int .u8 (g i))) := fun i hi => by rw [Nat.zero_add]; exact hrow.cell hi
  have HS : Hid (w'.heap.size < w1.heap.size) := hrow.lt
  have HB : Hid (Below w'.heap.size w' w1) := hbel
  clear hrow hbel
  go_wp2_with fail
  go_loopw [3, 4, 5] (fun r u i wr => ∃ k R U : Nat, k ≤ len0 ∧ i = .int .i64 k ∧ r = .int .i64 R ∧ u = .int .i64 U ∧ Hid (st g k = (R, U)) ∧ Below w1.heap.size w1 wr) (fun _ _ i _ => len0 - (intOf i).toNat)
  case atStart => exact ⟨0, 0, 0, Nat.zero_le _, rfl, rfl, rfl, rfl, Below.refl _ _⟩
  case round =>
    obtain ⟨k, R, U, hk, rfl, rfl, rfl, HST, hbel⟩ := hrel
    by_cases hlt : k < len0
    · have HBr : Hid (Below w1.heap.size w1 wr) := hbel
      clear hbel
      have hcr : Hid (∀ wx : World, Below wr.heap.size wr wx → TextAt wx w'.heap.size len0 g) := fun wx hx =>
        ⟨fun i hi => ((HBr.out.trans (hx.mono HBr.out.size)).cell (p := ⟨w'.heap.size, 0 + i, none⟩) HS.out).trans (hc1.out i hi), HG.out, h1⟩
      have ck : wr.cell? ⟨w'.heap.size, k, none⟩ = some (.int .u8 (g k)) := by
        have := (hcr.out wr (Below.refl _ _)).cell k hlt
        rwa [Nat.zero_add] at this
      have HI := inv_st g k
      have hs := step_end g k (tailEnd g k) (by omega) (tailEnd_iff g k)
      have hag := agree_at w'.heap.size len0 k g hlt h1
      rw [HST.out] at HI hs
      have HA : Hid (∀ wx : World, Calls Try.prog 16 #[.int .i64 R, .int .i64 U, .int .u8 (g k)] wx fun e wy => e = (stepP R U (g k)).end_ ∧ NewQ wx wy) := fun wx =>
        next_any R U (g k) wx HI.u_le (by omega) (fun h => by have := HI.run_pos h; omega)
      clear HI
      generalize stepP R U (g k) = x at *
      generalize endP g k (tailEnd g k) = y at *
      obtain ⟨x1, x2, x3, x4⟩ := x
      obtain ⟨y1, y2⟩ := y
      obtain ⟨e1, e2, e3, e4⟩ := hs
      simp only at e1 e2 e3 e4 hag
      subst e1 e2 e3 e4
      obtain ⟨R', hR'⟩ : ∃ R', (st g (k + 1)).1 = R' := ⟨_, rfl⟩
      obtain ⟨U', hU'⟩ : ∃ U', (st g (k + 1)).2 = U' := ⟨_, rfl⟩
      have HN : Hid (st g (k + 1) = (R', U')) := by rw [← hR', ← hU']; rfl
      rw [hR', hU'] at HA
      clear hR' hU'
      generalize g k = c at ck HA
      rcases hag with ⟨rfl, rfl⟩ | ⟨a1, a2, a3, start, a4, a5, a6⟩
      · go_wp2_with fail
        refine (HA.out _).mono ?_
        rintro e w2 ⟨rfl, hq⟩
        rw [end_mk]
        have HB2 : Hid (Below w1.heap.size w1 w2) := HBr.out.trans (hq.below.mono HBr.out.size)
        clear hq
        go_wp2_with fail
        go_roundw
        case rel => exact ⟨k + 1, R', U', by omega, by go_num, rfl, rfl, HN, HB2.out⟩
        case measure => simp [intOf]; omega
      · have A5 : Hid ((k : Int) + 1 - x2 = start) := a5
        have A6 : Hid (∀ w, TextAt w w'.heap.size len0 g → Calls Try.prog 25 #[.slice (some ⟨w'.heap.size, 0, none⟩) len0 len0, .int .i64 start] w fun e w2 => e = .returned (.tuple #[.int .i64 x1, .int .i64 ((k + 1 : Nat) : Int)]) ∧ Below w.heap.size w w2) := a6
        have a7 : x2 ≤ (k : Int) + 1 := by omega
        clear a5 a6
        go_wp2_with fail
        refine (HA.out _).mono ?_
        rintro e w2 ⟨rfl, hq⟩
        rw [end_mk]
        have HB2 : Hid (Below wr.heap.size wr w2) := hq.below
        clear hq
        go_wp2_with fail
        rw [Hid.out A5]
        refine (zzq_of _ len0 start x1 _ _ ((Hid.out A6) _ (hcr.out _ HB2.out))).mono ?_
        rintro e w3 ⟨rfl, hb3⟩
        have HB3 : Hid (Below w1.heap.size w1 w3) := HBr.out.trans ((HB2.out.mono HBr.out.size).trans (hb3.mono (Nat.le_trans HBr.out.size HB2.out.size)))
        clear hb3
        go_wp2_with fail
        go_roundw
        case rel => exact ⟨k + 1, R', U', by omega, by go_num, rfl, rfl, HN, HB3.out⟩
        case measure => simp [intOf]; omega
    · have HB4 : Hid (Below w'.heap.size w' wr) := HB.out.trans (hbel.mono HB.out.size)
      clear hbel
      go_wp2_with fail
      go_ret
      exact ⟨rfl, HB4.out⟩

theorem walk (a0 : Option Addr) (len0 cap0 : Nat) (z0 : List Int) (w : World) (w0 : IsRow .u8 w a0 len0 cap0 z0) :
    Calls Try.prog 7 #[.slice a0 len0 cap0] w fun e w' => e = .returned (.bool true) ∧ Below w.heap.size w w' := by
  by_cases h : 1048576 < len0
  · exact walk_big a0 len0 cap0 w h
  · rcases Nat.eq_zero_or_pos len0 with rfl | hp
    · refine walk_empty a0 cap0 w (fun e => ?_)
      rcases w0 with ⟨_, _, h2, _⟩ | ⟨x, h2, _⟩
      · exact h2
      · rw [e] at h2; cases h2
    · rcases w0 with ⟨_, rfl, _, _⟩ | ⟨x, rfl, hl, hm, hz, hcell, hwz⟩
      · omega
      · obtain ⟨b, off, rfl, hc⟩ := ints_at hcell (by omega)
        exact walk_some b off len0 cap0 (fun i => z0.getD i 0) w hp (by omega) (fun i hi => by have := range_u8 hwz i; simp only [List.getD_eq_getElem?_getD]; omega) (fun i hi => hc i (by omega))

/-! ### THE ROW's STEP: WRITTEN OUT: LEAVE IT -/
set_option maxRecDepth 100000 in
theorem lifted (os : Os) (started : os.Started) (H : Type) (enc : TypeId × Value → H) :
    ReturnsInHanded {} Try.checked os 7 .any (Rows.fnQuoteReaderAgreesWithQuoteAtSpec.pre6 enc Try.prog Try.f7 Rows.fnQuoteReaderAgreesWithQuoteAtRow.domain false) (Rows.fnQuoteReaderAgreesWithQuoteAtSpec.post enc Try.prog Try.f7 false true false false) := by
  refine returnsInHanded_of_change (C := Try.checked) own started (by kernel_rfl) Try.func7
    (ChangeSpec.witness6 (enc := enc) (C := Try.checked) false ⟨#[], #[.slice none 0 0], []⟩ 8 (by kernel_rfl) (by kernel_rfl) (by kernel_rfl) (by kernel_rfl)) ?_
  intro W base args ds gs before hval0 hW hcnd _
  have hval : ∀ (j : Nat) t v, Try.f7.params[j]? = some t → args[j]? = some v → Value.okWide Try.prog W .any base t v := hval0
  have hW' := hW
  obtain ⟨p, q, hA0, hV, rfl, hfz, hnd⟩ := hW
  have hA : DataW.TrodAll enc Try.prog W 0 (fun _ => true) true Try.f7.params.toList args.toList ds p := hA0
  rw [Try.params7] at hA hval
  obtain ⟨v0, vs0, d0, ds0, p0, q0, hargs, rfl, rfl, h0, r0⟩ := trodAll_cons hA
  obtain ⟨rfl, rfl, rfl⟩ := trodAll_nil r0
  obtain rfl : args = #[v0] := by cases args; simp_all
  obtain ⟨rfl, rfl⟩ := trodVars_none hV
  obtain ⟨a0, len0, cap0, rfl⟩ := okWide_slice Try.underlying22 (hval 0 22 v0 rfl rfl)
  have k0 := h0
  have lt0 : ∀ x ∈ p0, x.block < W.heap.size := by obtain ⟨m, hm⟩ := k0; exact DataW.trod_lt m _ _ _ hm
  obtain ⟨z0, w0⟩ : ∃ zs, IsRow .u8 W a0 len0 cap0 zs := by
    obtain ⟨fuel, hf⟩ := h0
    rcases open_ints Try.underlying22 Try.underlying5 (by kernel_rfl) hf with ⟨hcs, _⟩ | ⟨x, l, c, zs, hcs, _, hl, hm, hz, _, hcell, hwz⟩
    · simp [Value.cells] at hcs
      obtain ⟨rfl, rfl, rfl⟩ := hcs
      exact ⟨[], .inl ⟨rfl, rfl, rfl, rfl⟩⟩
    · simp [Value.cells] at hcs
      obtain ⟨rfl, rfl, rfl⟩ := hcs
      exact ⟨zs, .inr ⟨_, rfl, hl, hm, by simpa using hz, hcell, hwz⟩⟩
  clear hA0 hval0
  refine (walk a0 len0 cap0 z0 W w0).mono fun e W' ⟨he, bel⟩ => ?_
  subst he
  exact ⟨_, rfl, _, _, _, [], _, [], hW', trodAll_mk1 (shut_bool Try.underlying4 _), (trodAll_cons_mk (Below.trod laidOut (by kernel_rfl) (of_decide_eq_true (by kernel_rfl)) k0 bel lt0) trodAll_mk0), rfl, bel.frame _, fun h => by cases h⟩

theorem over : Rows.fnQuoteReaderAgreesWithQuoteAtRow.holds Try.pinned (OpenSpec.ofChange Rows.fnQuoteReaderAgreesWithQuoteAtSpec) :=
  OpenClaim.holds_of_wide 7 Try.f7 rfl rfl rfl rfl rfl rfl rfl ⟨rfl, rfl, rfl, rfl, rfl⟩ rfl rfl rfl rfl rfl (by kernel_rfl) Try.func7 (by kernel_rfl)
    (of_decide_eq_true (by kernel_rfl)) (by unfold Func.isWrapper; first | (rw [if_pos (by decide +kernel)]; kernel_rfl) | (rw [if_neg (by decide +kernel)]; exact ⟨rfl, rfl⟩))
    (fun os started H enc _ => lifted os started H enc)

/-- ████ THE STATEMENT ████ -/
theorem proved : Rows.FnQuoteReaderAgreesWithQuoteAtSaid := over
#print axioms proved
end Go.Proofs.Qxb6603303a.fnQuoteReaderAgreesWithQuoteAt
