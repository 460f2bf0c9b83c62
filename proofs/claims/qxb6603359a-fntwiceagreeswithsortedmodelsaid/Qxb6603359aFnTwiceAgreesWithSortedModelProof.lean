/-
  'Rows.FnTwiceAgreesWithSortedModelSaid', proved.
-/
import Derived.Test.Qxb6603359aRows
import Derived.Test.Qxb6603359aTwice
import Derived.Test.Qxb6603359aModel
import Derived.Deep.SlicePairs
import Derived.WalkKit
import Derived.ProofKit
import Derived.OpenShut
import Derived.ShutString
import Derived.ChangeOld
import Derived.Below
namespace Go.Proofs.Qxb6603359a.fnTwiceAgreesWithSortedModel
open Go.ChangeShapes Go.WideShapes Go.ChangeAt Go.RowKit
open Go.Deep (open_slice_pairs choose_lt)
set_option linter.unusedVariables false

theorem own : ownKnob Try.prog.godebug = none := by kernel_rfl
theorem laidOut : laidOutB Try.prog = true := by kernel_rfl

/-- What the walk is told of the slice of digests that came in. -/
def IsDigs (w : World) (a : Option Addr) (len cap : Nat) : Prop :=
  (a = none ∧ len = 0 ∧ cap = 0) ∨
  (∃ x, a = some x ∧ len ≤ cap ∧ cap ≤ maxLen ∧ ∃ (alg : Nat → Int) (A : Nat → Option Addr) (L C : Nat → Nat) (g : Nat → Nat → Int), ∀ i, i < len →
    w.cell? (x.add (i * 2)) = some (.int .i64 (alg i)) ∧ w.cell? (x.add (i * 2 + 1)) = some (.slice (A i) (L i) (C i)) ∧ (A i = none → L i = 0 ∧ C i = 0) ∧ View w (A i) (L i) (g i))

/-! ### The walk -/
theorem bytes_empty (a : Option Addr) (cap : Nat) (w : World) : Calls Try.prog 18 #[.slice a 0 cap] w fun e w' => e = .returned (.bool true) ∧ w' = w := by
  go_enter Try.func18, Try.ntmps18
  go_wp2
  go_loop [3, 4] (fun s i => s = .int .i64 0 ∧ i = .int .i64 0) (fun _ _ => 0)
  case atStart => exact ⟨rfl, rfl⟩
  case round =>
    obtain ⟨rfl, rfl⟩ := hrel
    go_wp2
    go_ret
    exact ⟨rfl, rfl⟩
theorem size_empty (a : Option Addr) (cap : Nat) (w : World) : Calls Try.prog 19 #[.slice a 0 cap] w fun e w' => e = .returned (.int .i64 0) ∧ w' = w := by
  go_enter Try.func19, Try.ntmps19
  go_wp2
  go_loop [3, 4] (fun s i => s = .int .i64 0 ∧ i = .int .i64 0) (fun _ _ => 0)
  case atStart => exact ⟨rfl, rfl⟩
  case round =>
    obtain ⟨rfl, rfl⟩ := hrel
    go_wp2
    go_ret
    exact ⟨rfl, rfl⟩

/-- zzCopyDigests and zzToDigests of an empty slice give an empty one. -/
theorem copy_none (a : Option Addr) (cap : Nat) (w : World) (h : a = none → cap = 0) : Calls Try.prog 20 #[.slice a 0 cap] w fun e w' => ∃ a', e = .returned (.slice a' 0 0) ∧ Below w.heap.size w w' := by
  cases a with
  | none => rw [h rfl]; exact (copy_nil w).mono (fun e w' ⟨h1, h2⟩ => ⟨_, h1, h2⟩)
  | some x => exact (copy_empty x cap w).mono (fun e w' ⟨h1, h2⟩ => ⟨_, h1, h2⟩)
theorem to_none (a : Option Addr) (w : World) : Calls Try.prog 22 #[.slice a 0 0] w fun e w' => ∃ a', e = .returned (.slice a' 0 0) ∧ Below w.heap.size w w' := by
  cases a with
  | none => exact (to_nil w).mono (fun e w' ⟨h1, h2⟩ => ⟨_, h1, h2⟩)
  | some x => exact (to_empty x 0 w).mono (fun e w' ⟨h1, h2⟩ => ⟨_, h1, h2⟩)

theorem walk_empty (a : Option Addr) (cap : Nat) (w : World) (h : a = none → cap = 0) :
    Calls Try.prog 6 #[.slice a 0 cap] w fun e w' => e = .returned (.bool true) ∧ Below w.heap.size w w' := by
  have HN : Hid (a = none → cap = 0) := h
  clear h
  go_enter Try.func6, Try.ntmps6
  go_wp2_with fail
  refine (bytes_empty a cap _).mono ?_
  rintro e w' ⟨rfl, rfl⟩
  go_wp2_with fail
  refine (size_empty a cap _).mono ?_
  rintro e w0 ⟨rfl, rfl⟩
  go_wp2_with fail
  refine (copy_none a cap _ HN.out).mono ?_
  rintro e w1 ⟨a1, rfl, hb1⟩
  have HB1 : Hid (Below w0.heap.size w0 w1) := hb1
  clear hb1
  go_wp2_with fail
  refine (to_none a1 _).mono ?_
  rintro e w2 ⟨a2, rfl, hb2⟩
  have HB2 : Hid (Below w0.heap.size w0 w2) := HB1.out.trans (hb2.mono HB1.out.size)
  clear hb2
  go_wp2_with fail
  refine (zzt_of _ _ _ _ (twice_empty a2 0 _)).mono ?_
  rintro e w3 ⟨rfl, hb3⟩
  have HB3 : Hid (Below w0.heap.size w0 w3) := HB2.out.trans (hb3.mono HB2.out.size)
  clear hb3
  go_wp2_with fail
  refine (model_empty a1 0 _).mono ?_
  rintro e w4 ⟨rfl, hb4⟩
  have HB4 : Hid (Below w0.heap.size w0 w4) := HB3.out.trans (hb4.mono HB3.out.size)
  clear hb4
  go_wp2_with fail
  go_ret
  exact ⟨rfl, HB4.out⟩

theorem walk_out (b off n cap : Nat) (alg : Nat → Int) (A : Nat → Option Addr) (L C : Nat → Nat) (w : World) (D : Digs w b off n alg A L C) (h : 1048576 < sumTo n L n ∨ 4096 < n ∨ 1048576 < sizeTo L n) :
    Calls Try.prog 6 #[.slice (some ⟨b, off, none⟩) n cap] w fun e w' => e = .returned (.bool true) ∧ Below w.heap.size w w' := by
  have HD : Hid (Digs w b off n alg A L C) := D
  clear D
  by_cases h1 : 1048576 < sumTo n L n
  · have H1 : Hid (1048576 < sumTo n L n) := h1
    clear h h1
    go_enter Try.func6, Try.ntmps6
    go_wp2_with fail
    refine (bytes_no b off n cap alg A L C _ HD.out H1.out).mono ?_
    rintro e w' ⟨rfl, rfl⟩
    go_wp2_with fail
    go_ret
    exact ⟨rfl, Below.refl _ _⟩
  · have H1 : Hid (sumTo n L n ≤ 1048576) := by show sumTo n L n ≤ 1048576; omega
    by_cases h2 : 4096 < n
    · clear h h1
      go_enter Try.func6, Try.ntmps6
      go_wp2_with fail
      refine (bytes_yes b off n cap alg A L C _ HD.out H1.out).mono ?_
      rintro e w' ⟨rfl, rfl⟩
      go_wp2_with fail
      go_ret
      exact ⟨rfl, Below.refl _ _⟩
    · have h3 : 1048576 < sizeTo L n := by omega
      have HZ : Hid (∀ w0 : World, w0 = w → Calls Try.prog 19 #[.slice (some ⟨b, off, none⟩) n cap] w0 fun e w' => e = .returned (.int .i64 (sizeTo L n)) ∧ w' = w0) := fun w0 e => by
        subst e; exact size_any b off n cap alg A L C _ (by omega) HD.out
      clear h h1
      generalize sizeTo L n = z at *
      go_enter Try.func6, Try.ntmps6
      go_wp2_with fail
      refine (bytes_yes b off n cap alg A L C _ HD.out H1.out).mono ?_
      rintro e w' ⟨rfl, rfl⟩
      go_wp2_with fail
      refine (HZ.out _ rfl).mono ?_
      rintro e w1 ⟨rfl, rfl⟩
      go_wp2_with fail
      go_ret
      exact ⟨rfl, Below.refl _ _⟩

set_option maxHeartbeats 1000000 in
theorem walk_in (b off n cap : Nat) (alg : Nat → Int) (A : Nat → Option Addr) (L C : Nat → Nat) (g : Nat → Nat → Int) (w : World) (D : Digs w b off n alg A L C) (h0 : 0 < n) (h1 : sumTo n L n ≤ 1048576) (h2 : n ≤ 4096) (h3 : sizeTo L n ≤ 1048576)
    (hN : ∀ i, i < n → A i = none → L i = 0 ∧ C i = 0) (hV : ∀ i, i < n → View w (A i) (L i) (g i)) :
    Calls Try.prog 6 #[.slice (some ⟨b, off, none⟩) n cap] w fun e w' => e = .returned (.bool true) ∧ Below w.heap.size w w' := by
  have HD : Hid (Digs w b off n alg A L C) := D
  have H1 : Hid (sumTo n L n ≤ 1048576) := h1
  have HN : Hid (∀ i, i < n → A i = none → L i = 0 ∧ C i = 0) := hN
  have HV : Hid (∀ i, i < n → View w (A i) (L i) (g i)) := hV
  have HL : Hid (∀ i, i < n → L i ≤ 1048576) := fun i hi => by have := sumTo_L n L i n hi; omega
  have HZ : Hid (∀ w0 : World, w0 = w → Calls Try.prog 19 #[.slice (some ⟨b, off, none⟩) n cap] w0 fun e w' => e = .returned (.int .i64 (sizeTo L n)) ∧ w' = w0) := fun w0 e => by
    subst e; exact size_any b off n cap alg A L C _ (by omega) HD.out
  obtain ⟨x, ok, hT⟩ : ∃ x ok, TwiceIs alg n x ok := by
    rcases TwiceIs.ex alg n with h | ⟨i, i1, i2, i3⟩
    · exact ⟨0, false, Or.inl ⟨rfl, rfl, h⟩⟩
    · exact ⟨alg i, true, Or.inr ⟨rfl, i, i1, rfl, i2, i3⟩⟩
  have HT : Hid (TwiceIs alg n x ok) := hT
  clear D h1 hN hV hT
  generalize sizeTo L n = z at *
  go_enter Try.func6, Try.ntmps6
  go_wp2_with fail
  refine (bytes_yes b off n cap alg A L C _ HD.out H1.out).mono ?_
  rintro e w' ⟨rfl, rfl⟩
  go_wp2_with fail
  refine (HZ.out _ rfl).mono ?_
  rintro e w0 ⟨rfl, rfl⟩
  go_wp2_with fail
  refine (copy_any b off n cap alg A L C g _ h0 (by omega) HD.out HL.out HN.out HV.out).mono ?_
  rintro e w1 ⟨rfl, ⟨A1, L1, C1, hd1⟩, hb1⟩
  have HD1 : Hid (Digs w1 w0.heap.size 0 n alg A1 L1 C1) := hd1
  have HB1 : Hid (Below w0.heap.size w0 w1) := hb1
  clear hd1 hb1
  go_wp2_with fail
  refine (to_any _ 0 n n alg A1 L1 C1 _ h0 (by omega) HD1.out).mono ?_
  rintro e w2 ⟨rfl, ⟨A2, L2, C2, hd2⟩, hb2⟩
  have HD2 : Hid (Digs w2 w1.heap.size 0 n alg A2 L2 C2) := hd2
  have HB2 : Hid (Below w1.heap.size w1 w2) := hb2
  clear hd2 hb2
  go_wp2_with fail
  refine (zzt_of _ _ _ _ (twice_any _ n alg A2 L2 C2 _ (by omega) HD2.out x ok HT.out)).mono ?_
  rintro e w3 ⟨rfl, hb3⟩
  have HB3 : Hid (Below w1.heap.size w1 w3) := HB2.out.trans (hb3.mono HB2.out.size)
  have HD3 : Hid (Digs w3 w0.heap.size 0 n alg A1 L1 C1) := HD1.out.below HB3.out
  clear hb3
  go_wp2_with fail
  refine (model_any _ n alg A1 L1 C1 _ h0 (by omega) HD3.out x ok HT.out).mono ?_
  rintro e w4 ⟨rfl, hb4⟩
  have HB4 : Hid (Below w0.heap.size w0 w4) := HB1.out.trans ((HB3.out.trans (hb4.mono HB3.out.size)).mono HB1.out.size)
  clear hb4
  cases ok
  · go_wp2_with fail
    go_ret
    exact ⟨rfl, HB4.out⟩
  · go_wp2_with fail
    go_ret
    exact ⟨rfl, HB4.out⟩

theorem walk (a : Option Addr) (len cap : Nat) (w : World) (h : IsDigs w a len cap) :
    Calls Try.prog 6 #[.slice a len cap] w fun e w' => e = .returned (.bool true) ∧ Below w.heap.size w w' := by
  rcases Nat.eq_zero_or_pos len with rfl | hp
  · refine walk_empty a cap w (fun e => ?_)
    rcases h with ⟨_, _, h2⟩ | ⟨x, h2, _⟩
    · exact h2
    · rw [e] at h2; cases h2
  · rcases h with ⟨_, rfl, _⟩ | ⟨x, rfl, hl, hm, alg, A, L, C, g, hx⟩
    · omega
    · obtain ⟨b, off, spot⟩ := x
      have hspot : spot = none := by simpa [Addr.add] using World.cell?_spot (hx 0 hp).1
      subst hspot
      have D : Digs w b off len alg A L C := ⟨fun i hi => by rw [← add_plain]; exact (hx i hi).1, fun i hi => by rw [Nat.add_assoc, ← add_plain]; exact (hx i hi).2.1⟩
      by_cases ho : 1048576 < sumTo len L len ∨ 4096 < len ∨ 1048576 < sizeTo L len
      · exact walk_out b off len cap alg A L C w D ho
      · exact walk_in b off len cap alg A L C g w D hp (by omega) (by omega) (by omega) (fun i hi => (hx i hi).2.2.1) (fun i hi => (hx i hi).2.2.2)

/-! ### The row -/
theorem c47 : Try.prog.cellsOf 47 = 1 := by kernel_rfl
theorem c5 : Try.prog.cellsOf 5 = 1 := by kernel_rfl
theorem c2 : Try.prog.cellsOf 2 = 1 := by kernel_rfl
theorem c49 : Try.prog.cellsOf 49 = 2 := by kernel_rfl

/-- A value's slice, opened. -/
theorem open_val {H : Type} {enc : TypeId × Value → H} {W : World} {fuel : Nat} {v : Value} {x : DataW H × List MemPlace} (h : DataW.trod enc Try.prog W 0 (fun _ => true) true fuel 47 [v] = some x) :
    ∃ (a : Option Addr) (l c : Nat) (g : Nat → Int), v = .slice a l c ∧ (a = none → l = 0 ∧ c = 0) ∧ View W a l g := by
  rcases open_ints Try.underlying47 Try.underlying5 c5 h with ⟨hcs, _⟩ | ⟨x, l, c, zs, hcs, _, hl, hm, hz, _, hcell, hwz⟩
  · simp at hcs
    exact ⟨none, 0, 0, fun _ => 0, hcs, fun _ => ⟨rfl, rfl⟩, fun h => absurd h (Nat.lt_irrefl _)⟩
  · simp at hcs
    refine ⟨some x, l, c, fun i => zs.getD i 0, hcs, fun h => by (cases h), fun hp => ?_⟩
    have hz' : zs.length = c := by simpa using hz
    obtain ⟨b, off, rfl, hc⟩ := ints_at hcell (by omega)
    exact ⟨b, off, rfl, fun i hi => hc i (by omega)⟩

theorem open_digs {H : Type} {enc : TypeId × Value → H} {W : World} {fuel : Nat} {a : Option Addr} {len cap : Nat} {x : DataW H × List MemPlace} (h : DataW.trod enc Try.prog W 0 (fun _ => true) true fuel 38 [.slice a len cap] = some x) : IsDigs W a len cap := by
  rcases open_slice_pairs Try.underlying38 Try.underlying49 c49 rfl rfl c2 c47 h with ⟨hcs, _⟩ | ⟨y, l, c, m, n, V0, V1, D0, D1, P0, P1, hcs, _, hl, hm, hmm, _, hx⟩
  · simp at hcs
    obtain ⟨rfl, rfl, rfl⟩ := hcs
    exact Or.inl ⟨rfl, rfl, rfl⟩
  · simp at hcs
    obtain ⟨rfl, rfl, rfl⟩ := hcs
    have hmc : m = cap := by rw [hmm]; rfl
    obtain ⟨alg, hA⟩ := choose_lt (α := Int) (n := len) (p := fun i z => V0 i = .int .i64 z) (fun i hi => by
      obtain ⟨_, _, h3, _⟩ := hx i (by omega)
      obtain ⟨z, e0, _, _⟩ := DataW.trod_int Try.underlying2 h3
      simp at e0
      exact ⟨z, e0⟩)
    have hv : ∀ i, i < len → ∃ q : Option Addr × Nat × Nat × (Nat → Int), V1 i = .slice q.1 q.2.1 q.2.2.1 ∧ (q.1 = none → q.2.1 = 0 ∧ q.2.2.1 = 0) ∧ View W q.1 q.2.1 q.2.2.2 := fun i hi => by
      obtain ⟨_, _, _, h4⟩ := hx i (by omega)
      obtain ⟨a', l', c', g', e1, e2, e3⟩ := open_val h4
      exact ⟨(a', l', c', g'), e1, e2, e3⟩
    obtain ⟨q, hq⟩ := choose_lt (α := Option Addr × Nat × Nat × (Nat → Int)) hv
    refine Or.inr ⟨y, rfl, hl, hm, alg, fun i => (q i).1, fun i => (q i).2.1, fun i => (q i).2.2.1, fun i => (q i).2.2.2, fun i hi => ?_⟩
    obtain ⟨h1, h2, _, _⟩ := hx i (by omega)
    exact ⟨by rw [h1, hA i hi], by rw [h2, (hq i hi).1], (hq i hi).2.1, (hq i hi).2.2⟩

set_option maxRecDepth 100000 in
theorem lifted (os : Os) (started : os.Started) (H : Type) (enc : TypeId × Value → H) :
    ReturnsInHanded {} Try.checked os 6 .any (Rows.fnTwiceAgreesWithSortedModelSpec.pre6 enc Try.prog Try.f6 Rows.fnTwiceAgreesWithSortedModelRow.domain false) (Rows.fnTwiceAgreesWithSortedModelSpec.post enc Try.prog Try.f6 false true false false) := by
  refine returnsInHanded_of_change (C := Try.checked) own started (by kernel_rfl) Try.func6
    (ChangeSpec.witness6 (enc := enc) (C := Try.checked) false ⟨#[], #[.slice none 0 0], []⟩ 8 (by kernel_rfl) (by kernel_rfl) (by kernel_rfl) (by kernel_rfl)) ?_
  intro W base args ds gs before hval0 hW hcnd _
  have hval : ∀ (j : Nat) t v, Try.f6.params[j]? = some t → args[j]? = some v → Value.okWide Try.prog W .any base t v := hval0
  have hW' := hW
  obtain ⟨p, q, hA0, hV, rfl, hfz, hnd⟩ := hW
  have hA : DataW.TrodAll enc Try.prog W 0 (fun _ => true) true Try.f6.params.toList args.toList ds p := hA0
  rw [Try.params6] at hA hval
  obtain ⟨v0, vs0, d0, ds0, p0, q0, hargs, rfl, rfl, h0, r0⟩ := trodAll_cons hA
  obtain ⟨rfl, rfl, rfl⟩ := trodAll_nil r0
  obtain rfl : args = #[v0] := by cases args; simp_all
  obtain ⟨rfl, rfl⟩ := trodVars_none hV
  obtain ⟨a0, len0, cap0, rfl⟩ := okWide_slice Try.underlying38 (hval 0 38 v0 rfl rfl)
  have k0 := h0
  have lt0 : ∀ x ∈ p0, x.block < W.heap.size := by obtain ⟨m, hm⟩ := k0; exact DataW.trod_lt m _ _ _ hm
  have w0 : IsDigs W a0 len0 cap0 := by
    obtain ⟨fuel, hf⟩ := h0
    exact open_digs (by simpa [Value.cells] using hf)
  clear hA0 hval0
  refine (walk a0 len0 cap0 W w0).mono fun e W' ⟨he, bel⟩ => ?_
  subst he
  exact ⟨_, rfl, _, _, _, [], _, [], hW', trodAll_mk1 (shut_bool Try.underlying4 _), (trodAll_cons_mk (Below.trod laidOut (by kernel_rfl) (of_decide_eq_true (by kernel_rfl)) k0 bel lt0) trodAll_mk0), rfl, bel.frame _, fun h => by cases h⟩

theorem over : Rows.fnTwiceAgreesWithSortedModelRow.holds Try.pinned (OpenSpec.ofChange Rows.fnTwiceAgreesWithSortedModelSpec) :=
  OpenClaim.holds_of_wide 6 Try.f6 rfl rfl rfl rfl rfl rfl rfl ⟨rfl, rfl, rfl, rfl, rfl⟩ rfl rfl rfl rfl rfl (by kernel_rfl) Try.func6 (by kernel_rfl)
    (of_decide_eq_true (by kernel_rfl)) (by unfold Func.isWrapper; first | (rw [if_pos (by decide +kernel)]; kernel_rfl) | (rw [if_neg (by decide +kernel)]; exact ⟨rfl, rfl⟩))
    (fun os started H enc _ => lifted os started H enc)

/-- THE STATEMENT -/
theorem proved : Rows.FnTwiceAgreesWithSortedModelSaid := over
#print axioms proved
end Go.Proofs.Qxb6603359a.fnTwiceAgreesWithSortedModel
