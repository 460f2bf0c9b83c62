/-
  'Rows.FnContainsMutualIsEqualitySaid', proved.
-/
import Derived.Test.Qxb6603359aRows
import Derived.Test.Qxb6603359aLaw
import Derived.Deep.Fields23
import Derived.WalkKit
import Derived.ProofKit
import Derived.OpenShut
import Derived.ShutString
import Derived.ChangeOld
import Derived.Below
namespace Go.Proofs.Qxb6603359a.fnContainsMutualIsEquality
open Go.ChangeShapes Go.WideShapes Go.ChangeAt Go.RowKit
open Go.Deep (open_ptr_fields2)
set_option linter.unusedVariables false

theorem own : ownKnob Try.prog.godebug = none := by kernel_rfl
theorem laidOut : laidOutB Try.prog = true := by kernel_rfl
theorem c5 : Try.prog.cellsOf 5 = 1 := by kernel_rfl
theorem c9 : Try.prog.cellsOf 9 = 1 := by kernel_rfl
theorem c51 : Try.prog.cellsOf 51 = 1 := by kernel_rfl
theorem c53 : Try.prog.cellsOf 53 = 2 := by kernel_rfl
theorem c22 : Try.prog.cellsOf 22 = 1 := by kernel_rfl
theorem c23 : Try.prog.cellsOf 23 = 1 := by kernel_rfl
theorem c24 : Try.prog.cellsOf 24 = 1 := by kernel_rfl
theorem c26 : Try.prog.cellsOf 26 = 7 := by kernel_rfl

/-- A value's slice, opened. -/
theorem open_val {H : Type} {enc : TypeId × Value → H} {W : World} {fuel : Nat} {v : Value} {x : DataW H × List MemPlace} (h : DataW.trod enc Try.prog W 0 (fun _ => true) true fuel 47 [v] = some x) :
    ∃ (a : Option Addr) (l c : Nat) (g : Nat → Int), v = .slice a l c ∧ (a = none → l = 0 ∧ c = 0) ∧ View W a l g ∧ ∀ i, i < l → 0 ≤ g i ∧ g i < 256 := by
  rcases open_ints Try.underlying47 Try.underlying5 c5 h with ⟨hcs, _⟩ | ⟨x, l, c, zs, hcs, _, hl, hm, hz, _, hcell, hwz⟩
  · simp at hcs
    exact ⟨none, 0, 0, fun _ => 0, hcs, fun _ => ⟨rfl, rfl⟩, fun h => absurd h (Nat.lt_irrefl _), fun i hi => absurd hi (Nat.not_lt_zero _)⟩
  · simp at hcs
    have hz' : zs.length = c := by simpa using hz
    refine ⟨some x, l, c, fun i => zs.getD i 0, hcs, fun h => by (cases h), fun hp => ?_, fun i hi => ?_⟩
    · obtain ⟨b, off, rfl, hc⟩ := ints_at hcell (by omega)
      exact ⟨b, off, rfl, fun i hi => hc i (by omega)⟩
    · have hi' : i < zs.length := by omega
      have hmem : zs.getD i 0 ∈ zs := by
        rw [List.getD_eq_getElem?_getD, List.getElem?_eq_getElem hi']
        exact List.getElem_mem hi'
      have := hwz _ hmem
      simp only [Lit.wf, Bool.and_eq_true, decide_eq_true_eq] at this
      obtain ⟨t1, t2⟩ := this
      have m1 : IntKind.u8.min = 0 := by decide
      have m2 : IntKind.u8.max = 255 := by decide
      rw [m1] at t1
      rw [m2] at t2
      show 0 ≤ zs.getD i 0 ∧ zs.getD i 0 < 256
      omega

theorem open_tag {H : Type} {enc : TypeId × Value → H} {W : World} {fuel : Nat} {v : Value} {x : DataW H × List MemPlace} (h : DataW.trod enc Try.prog W 0 (fun _ => true) true fuel 22 [v] = some x) :
    ∃ (p : Option Addr) (t : Option TagV), v = .pointer p ∧ TagIs W p t := by
  rcases open_ptr_fields2 Try.underlying22 Try.underlying53 (by kernel_rfl) c53 h with ⟨hcs, _⟩ | ⟨b, o, n, v0, v1, y0, y1, hcs, _, _, k0, k1, t0, t1⟩
  · simp at hcs
    exact ⟨none, none, hcs, Or.inl ⟨rfl, rfl⟩⟩
  · simp at hcs
    obtain ⟨z, e0, _, _⟩ := DataW.trod_int Try.underlying51 t0
    obtain ⟨a, l, c, g, e1, e2, e3, e4⟩ := open_val t1
    simp at e0
    subst e0 e1
    exact ⟨_, some ⟨z, l, g⟩, hcs, Or.inr ⟨b, o, a, c, ⟨z, l, g⟩, rfl, rfl, k0, k1, e2, e3, e4⟩⟩

theorem one_cell {W : World} {a : Addr} {n : Nat} {cs : List Value} (h : W.cells? 0 a n = some cs) (hn : n = 1) : ∃ b off v, a = ⟨b, off, none⟩ ∧ cs = [v] ∧ W.cell? ⟨b, off, none⟩ = some v := by
  subst hn
  obtain ⟨_, hl, hc⟩ := World.cells?_some h
  match cs, hl with
  | [v], _ =>
    have h0 := hc 0 (by omega)
    obtain ⟨b, off, spot⟩ := a
    have h0' : W.cell? ((⟨b, off, spot⟩ : Addr).add 0) = some v := h0
    have hspot : spot = none := World.cell?_spot h0'
    subst hspot
    exact ⟨b, off, v, rfl, rfl, h0'⟩

theorem open_str {H : Type} {enc : TypeId × Value → H} {W : World} {fuel : Nat} {v : Value} {x : DataW H × List MemPlace} (h : DataW.trod enc Try.prog W 0 (fun _ => true) true fuel 23 [v] = some x) :
    ∃ (p : Option Addr) (t : Option ByteArray), v = .pointer p ∧ StrIs W p t := by
  rcases DataW.trod_pointer Try.underlying23 h with ⟨hcs, _⟩ | ⟨a, cs', y, n, _, hcs, _, hc, hy⟩
  · simp at hcs
    exact ⟨none, none, hcs, Or.inl ⟨rfl, rfl⟩⟩
  · simp at hcs
    obtain ⟨b, off, z, rfl, rfl, hz⟩ := one_cell hc c9
    obtain ⟨s, e0, _, _⟩ := DataW.trod_string Try.underlying9 hy
    simp at e0
    subst e0
    exact ⟨_, some s, hcs, Or.inr ⟨b, off, s, rfl, rfl, hz⟩⟩

theorem open_u64 {H : Type} {enc : TypeId × Value → H} {W : World} {fuel : Nat} {v : Value} {x : DataW H × List MemPlace} (h : DataW.trod enc Try.prog W 0 (fun _ => true) true fuel 24 [v] = some x) :
    ∃ (p : Option Addr) (t : Option Int), v = .pointer p ∧ U64Is W p t := by
  rcases DataW.trod_pointer Try.underlying24 h with ⟨hcs, _⟩ | ⟨a, cs', y, n, _, hcs, _, hc, hy⟩
  · simp at hcs
    exact ⟨none, none, hcs, Or.inl ⟨rfl, rfl⟩⟩
  · simp at hcs
    obtain ⟨b, off, z, rfl, rfl, hz⟩ := one_cell hc c51
    obtain ⟨s, e0, _, _⟩ := DataW.trod_int Try.underlying51 hy
    simp at e0
    subst e0
    exact ⟨_, some s, hcs, Or.inr ⟨b, off, s, rfl, rfl, hz⟩⟩

theorem open_env {H : Type} {enc : TypeId × Value → H} {W : World} {fuel : Nat} {cs : List Value} {x : DataW H × List MemPlace} (h : DataW.trod enc Try.prog W 0 (fun _ => true) true fuel 26 cs = some x) :
    ∃ (p : Ptrs) (e : EnvV), cs = (seven p).toList ∧ EnvIs W p e := by
  obtain ⟨xs, n, _, _, hl, hlen, hf⟩ := DataW.trod_struct Try.underlying26 h
  rw [c26] at hl
  match cs, hl with
  | [v0, v1, v2, v3, v4, v5, v6], _ =>
    match xs, hlen with
    | [y0, y1, y2, y3, y4, y5, y6], _ =>
      have h0 : DataW.trod enc Try.prog W 0 (fun _ => true) true n 22 [v0] = some y0 := by
        have h : DataW.trod enc Try.prog W 0 (fun _ => true) true n 22 (([v0, v1, v2, v3, v4, v5, v6].drop 0).take (Try.prog.cellsOf 22)) = some y0 := hf 0 _ rfl
        rw [c22] at h
        exact h
      have h1 : DataW.trod enc Try.prog W 0 (fun _ => true) true n 23 [v1] = some y1 := by
        have h : DataW.trod enc Try.prog W 0 (fun _ => true) true n 23 (([v0, v1, v2, v3, v4, v5, v6].drop 1).take (Try.prog.cellsOf 23)) = some y1 := hf 1 _ rfl
        rw [c23] at h
        exact h
      have h2 : DataW.trod enc Try.prog W 0 (fun _ => true) true n 23 [v2] = some y2 := by
        have h : DataW.trod enc Try.prog W 0 (fun _ => true) true n 23 (([v0, v1, v2, v3, v4, v5, v6].drop 2).take (Try.prog.cellsOf 23)) = some y2 := hf 2 _ rfl
        rw [c23] at h
        exact h
      have h3 : DataW.trod enc Try.prog W 0 (fun _ => true) true n 24 [v3] = some y3 := by
        have h : DataW.trod enc Try.prog W 0 (fun _ => true) true n 24 (([v0, v1, v2, v3, v4, v5, v6].drop 3).take (Try.prog.cellsOf 24)) = some y3 := hf 3 _ rfl
        rw [c24] at h
        exact h
      have h4 : DataW.trod enc Try.prog W 0 (fun _ => true) true n 24 [v4] = some y4 := by
        have h : DataW.trod enc Try.prog W 0 (fun _ => true) true n 24 (([v0, v1, v2, v3, v4, v5, v6].drop 4).take (Try.prog.cellsOf 24)) = some y4 := hf 4 _ rfl
        rw [c24] at h
        exact h
      have h5 : DataW.trod enc Try.prog W 0 (fun _ => true) true n 22 [v5] = some y5 := by
        have h : DataW.trod enc Try.prog W 0 (fun _ => true) true n 22 (([v0, v1, v2, v3, v4, v5, v6].drop 5).take (Try.prog.cellsOf 22)) = some y5 := hf 5 _ rfl
        rw [c22] at h
        exact h
      have h6 : DataW.trod enc Try.prog W 0 (fun _ => true) true n 22 [v6] = some y6 := by
        have h : DataW.trod enc Try.prog W 0 (fun _ => true) true n 22 (([v0, v1, v2, v3, v4, v5, v6].drop 6).take (Try.prog.cellsOf 22)) = some y6 := hf 6 _ rfl
        rw [c22] at h
        exact h
      obtain ⟨p0, t0, rfl, k0⟩ := open_tag h0
      obtain ⟨p1, t1, rfl, k1⟩ := open_str h1
      obtain ⟨p2, t2, rfl, k2⟩ := open_str h2
      obtain ⟨p3, t3, rfl, k3⟩ := open_u64 h3
      obtain ⟨p4, t4, rfl, k4⟩ := open_u64 h4
      obtain ⟨p5, t5, rfl, k5⟩ := open_tag h5
      obtain ⟨p6, t6, rfl, k6⟩ := open_tag h6
      exact ⟨⟨p0, p1, p2, p3, p4, p5, p6⟩, ⟨t0, t1, t2, t3, t4, t5, t6⟩, rfl, ⟨k0, k1, k2, k3, k4, k5, k6⟩⟩

theorem open_env' {H : Type} {enc : TypeId × Value → H} {W : World} {fuel : Nat} {cs : Array Value} {x : DataW H × List MemPlace} (h : DataW.trod enc Try.prog W 0 (fun _ => true) true fuel 26 cs.toList = some x) :
    ∃ (p : Ptrs) (e : EnvV), Value.agg cs = p.val ∧ EnvIs W p e := by
  obtain ⟨p, e, h1, h2⟩ := open_env h
  refine ⟨p, e, ?_, h2⟩
  have : cs = seven p := Array.ext' h1
  rw [this]; rfl

set_option maxRecDepth 100000 in
theorem lifted (os : Os) (started : os.Started) (H : Type) (enc : TypeId × Value → H) :
    ReturnsInHanded {} Try.checked os 5 .any (Rows.fnContainsMutualIsEqualitySpec.pre6 enc Try.prog Try.f5 Rows.fnContainsMutualIsEqualityRow.domain false) (Rows.fnContainsMutualIsEqualitySpec.post enc Try.prog Try.f5 false true false false) := by
  refine returnsInHanded_of_change (C := Try.checked) own started (by kernel_rfl) Try.func5
    (ChangeSpec.witness6 (enc := enc) (C := Try.checked) false ⟨#[], #[.agg #[.pointer none, .pointer none, .pointer none, .pointer none, .pointer none, .pointer none, .pointer none], .agg #[.pointer none, .pointer none, .pointer none, .pointer none, .pointer none, .pointer none, .pointer none]], []⟩ 8 (by kernel_rfl) (by kernel_rfl) (by kernel_rfl) (by kernel_rfl)) ?_
  intro W base args ds gs before hval0 hW hcnd _
  have hval : ∀ (j : Nat) t v, Try.f5.params[j]? = some t → args[j]? = some v → Value.okWide Try.prog W .any base t v := hval0
  have hW' := hW
  obtain ⟨p, q, hA0, hV, rfl, hfz, hnd⟩ := hW
  have hA : DataW.TrodAll enc Try.prog W 0 (fun _ => true) true Try.f5.params.toList args.toList ds p := hA0
  rw [Try.params5] at hA hval
  obtain ⟨v0, vs0, d0, ds0, p0, q0, hargs, rfl, rfl, h0, r0⟩ := trodAll_cons hA
  obtain ⟨v1, vs1, d1, ds1, p1, q1, rfl, rfl, rfl, h1, r1⟩ := trodAll_cons r0
  obtain ⟨rfl, rfl, rfl⟩ := trodAll_nil r1
  obtain rfl : args = #[v0, v1] := by cases args; simp_all
  obtain ⟨rfl, rfl⟩ := trodVars_none hV
  obtain ⟨a0, rfl, _⟩ := okWide_struct Try.underlying26 (hval 0 26 v0 rfl rfl)
  obtain ⟨a1, rfl, _⟩ := okWide_struct Try.underlying26 (hval 1 26 v1 rfl rfl)
  have k0 := h0
  have k1 := h1
  have lt0 : ∀ x ∈ p0, x.block < W.heap.size := by obtain ⟨m, hm⟩ := k0; exact DataW.trod_lt m _ _ _ hm
  have lt1 : ∀ x ∈ p1, x.block < W.heap.size := by obtain ⟨m, hm⟩ := k1; exact DataW.trod_lt m _ _ _ hm
  obtain ⟨P0, e0, hp0, w0⟩ : ∃ (P : Ptrs) (e : EnvV), Value.agg a0 = P.val ∧ EnvIs W P e := by
    obtain ⟨fuel, hf⟩ := h0
    exact open_env' (by simpa [Value.cells] using hf)
  obtain ⟨P1, e1, hp1, w1⟩ : ∃ (P : Ptrs) (e : EnvV), Value.agg a1 = P.val ∧ EnvIs W P e := by
    obtain ⟨fuel, hf⟩ := h1
    exact open_env' (by simpa [Value.cells] using hf)
  clear hA0 hval0
  have walk : Calls Try.prog 5 #[.agg a0, .agg a1] W fun e w' => e = .returned (.bool true) ∧ Below W.heap.size W w' := by
    rw [hp0, hp1]
    exact law5_any P0 P1 e0 e1 W w0 w1
  refine walk.mono fun e W' ⟨he, bel⟩ => ?_
  subst he
  exact ⟨_, rfl, _, _, _, [], _, [], hW', trodAll_mk1 (shut_bool Try.underlying4 _), (trodAll_cons_mk (Below.trod laidOut (by kernel_rfl) (of_decide_eq_true (by kernel_rfl)) k0 bel lt0) (trodAll_cons_mk (Below.trod laidOut (by kernel_rfl) (of_decide_eq_true (by kernel_rfl)) k1 bel lt1) trodAll_mk0)), rfl, bel.frame _, fun h => by cases h⟩

theorem over : Rows.fnContainsMutualIsEqualityRow.holds Try.pinned (OpenSpec.ofChange Rows.fnContainsMutualIsEqualitySpec) :=
  OpenClaim.holds_of_wide 5 Try.f5 rfl rfl rfl rfl rfl rfl rfl ⟨rfl, rfl, rfl, rfl, rfl⟩ rfl rfl rfl rfl rfl (by kernel_rfl) Try.func5 (by kernel_rfl)
    (of_decide_eq_true (by kernel_rfl)) (by unfold Func.isWrapper; first | (rw [if_pos (by decide +kernel)]; kernel_rfl) | (rw [if_neg (by decide +kernel)]; exact ⟨rfl, rfl⟩))
    (fun os started H enc _ => lifted os started H enc)

/-- THE STATEMENT -/
theorem proved : Rows.FnContainsMutualIsEqualitySaid := over
#print axioms proved
end Go.Proofs.Qxb6603359a.fnContainsMutualIsEquality
