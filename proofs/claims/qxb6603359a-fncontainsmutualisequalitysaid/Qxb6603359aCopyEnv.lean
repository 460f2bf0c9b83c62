/-
  The walks of zzCopyEnv (11) and zzToEnv (13).
-/
import Derived.Test.Qxb6603359aEnv
import Derived.Deep.OwnRows
namespace Go.Proofs.Qxb6603359a
open Go.RowKit
set_option linter.unusedVariables false

/-- Seven cells of a block at the heap's end, and of the one behind it. -/
theorem two_blocks (w : World) (t : TypeId) (a0 a1 a2 a3 a4 a5 a6 z : Value) (W : World) (hW : (w.alloc (.cells #[a0, a1, a2, a3, a4, a5, a6] 26)).alloc (.cells #[z, z, z, z, z, z, z] t) = W) :
    (W.cell? ⟨w.heap.size, 0, none⟩ = some a0 ∧ W.cell? ⟨w.heap.size, 1, none⟩ = some a1 ∧ W.cell? ⟨w.heap.size, 2, none⟩ = some a2 ∧ W.cell? ⟨w.heap.size, 3, none⟩ = some a3 ∧ W.cell? ⟨w.heap.size, 4, none⟩ = some a4 ∧ W.cell? ⟨w.heap.size, 5, none⟩ = some a5 ∧ W.cell? ⟨w.heap.size, 6, none⟩ = some a6) ∧
    (∀ i, i < 7 → W.cell? ⟨w.heap.size + 1, i, none⟩ = some z ∧ W.frozen? ⟨w.heap.size + 1, i, none⟩ = false) ∧ W.heap.size = w.heap.size + 2 ∧ Below w.heap.size w W := by
  subst hW
  refine ⟨⟨?_, ?_, ?_, ?_, ?_, ?_, ?_⟩, fun i hi => ?_, by simp, ((Below.refl _ _).alloc (Nat.le_refl _) _).alloc (by simp) _⟩
  · simp [go_sem]
  · simp [go_sem]
  · simp [go_sem]
  · simp [go_sem]
  · simp [go_sem]
  · simp [go_sem]
  · simp [go_sem]
  · have h7 : i = 0 ∨ i = 1 ∨ i = 2 ∨ i = 3 ∨ i = 4 ∨ i = 5 ∨ i = 6 := by omega
    rcases h7 with rfl | rfl | rfl | rfl | rfl | rfl | rfl <;> simp [go_sem]

/-- Where block Z holds pointers alone, stores into it turn no tagged value, no string, no number. -/
def PtrsOnly (w : World) (Z : Nat) : Prop := ∀ i v, w.cell? ⟨Z, i, none⟩ = some v → ∃ a, v = .pointer a
def OffZ (Z : Nat) (w w' : World) : Prop := ∀ k, k ≠ Z → w'.heap[k]? = w.heap[k]?
theorem OffZ.refl (Z : Nat) (w : World) : OffZ Z w w := fun _ _ => rfl
theorem OffZ.set {Z : Nat} {w w' : World} (h : OffZ Z w w') (i : Nat) (v : Value) : OffZ Z w (w'.setCell ⟨Z, i, none⟩ v) := fun k hk => (Below.heap_setCell _ _ _ _ hk).trans (h k hk)
theorem OffZ.cell {Z : Nat} {w w' : World} (h : OffZ Z w w') {b o : Nat} {v : Value} (hb : b ≠ Z) (hc : w.cell? ⟨b, o, none⟩ = some v) : w'.cell? ⟨b, o, none⟩ = some v := by
  rw [World.cell?_of_block (w := w) (h b hb)]; exact hc
theorem PtrsOnly.ne {w : World} {Z : Nat} (h : PtrsOnly w Z) {b o : Nat} {v : Value} (hc : w.cell? ⟨b, o, none⟩ = some v) (hv : ∀ a, v ≠ .pointer a) : b ≠ Z := by
  intro e; subst e
  obtain ⟨a, ha⟩ := h o v hc
  exact hv a ha
theorem TagIs.off {Z : Nat} {w w' : World} {p : Option Addr} {t : Option TagV} (h : TagIs w p t) (hp : PtrsOnly w Z) (ho : OffZ Z w w') : TagIs w' p t := by
  rcases h with h | ⟨b, off, sa, sc, v, h1, h2, h3, h4, h5, h6, h7⟩
  · exact Or.inl h
  · refine Or.inr ⟨b, off, sa, sc, v, h1, h2, ho.cell (hp.ne h3 (by simp)) h3, ho.cell (hp.ne h4 (by simp)) h4, h5, fun hl => ?_, h7⟩
    obtain ⟨b', off', e', hc'⟩ := h6 hl
    exact ⟨b', off', e', fun i hi => ho.cell (hp.ne (hc' i hi) (by simp)) (hc' i hi)⟩
theorem StrIs.off {Z : Nat} {w w' : World} {p : Option Addr} {t : Option ByteArray} (h : StrIs w p t) (hp : PtrsOnly w Z) (ho : OffZ Z w w') : StrIs w' p t := by
  rcases h with h | ⟨b, off, s, h1, h2, h3⟩
  · exact Or.inl h
  · exact Or.inr ⟨b, off, s, h1, h2, ho.cell (hp.ne h3 (by simp)) h3⟩
theorem U64Is.off {Z : Nat} {w w' : World} {p : Option Addr} {t : Option Int} (h : U64Is w p t) (hp : PtrsOnly w Z) (ho : OffZ Z w w') : U64Is w' p t := by
  rcases h with h | ⟨b, off, s, h1, h2, h3⟩
  · exact Or.inl h
  · exact Or.inr ⟨b, off, s, h1, h2, ho.cell (hp.ne h3 (by simp)) h3⟩
theorem EnvIs.off {Z : Nat} {w w' : World} {p : Ptrs} {e : EnvV} (h : EnvIs w p e) (hp : PtrsOnly w Z) (ho : OffZ Z w w') : EnvIs w' p e :=
  ⟨h.cls.off hp ho, h.ven.off hp ho, h.mod.off hp ho, h.lay.off hp ho, h.idx.off hp ho, h.ins.off hp ho, h.grp.off hp ho⟩
theorem ptrs_only_new (w : World) (o : Obj) (t : TypeId) (W : World) (hW : (w.alloc o).alloc (.cells #[.pointer none, .pointer none, .pointer none, .pointer none, .pointer none, .pointer none, .pointer none] t) = W) : PtrsOnly W (w.heap.size + 1) := by
  subst hW
  intro i v h
  have hh : ((w.alloc o).alloc (.cells #[.pointer none, .pointer none, .pointer none, .pointer none, .pointer none, .pointer none, .pointer none] t)).heap[w.heap.size + 1]? = some (.cells #[.pointer none, .pointer none, .pointer none, .pointer none, .pointer none, .pointer none, .pointer none] t) := by
    have := Go.Deep.blk_alloc_new (w.alloc o) (.cells #[.pointer none, .pointer none, .pointer none, .pointer none, .pointer none, .pointer none, .pointer none] t)
    simpa using this
  simp only [World.cell?, hh] at h
  have h7 : i < 7 := by
    rcases Nat.lt_or_ge i 7 with h' | h'
    · exact h'
    · simp [Array.getElem?_eq_none (show (#[Value.pointer none, .pointer none, .pointer none, .pointer none, .pointer none, .pointer none, .pointer none] : Array Value).size ≤ i from h')] at h
  have hi : i = 0 ∨ i = 1 ∨ i = 2 ∨ i = 3 ∨ i = 4 ∨ i = 5 ∨ i = 6 := by omega
  rcases hi with rfl | rfl | rfl | rfl | rfl | rfl | rfl <;> (simp at h; exact ⟨none, h.symm⟩)
theorem PtrsOnly.below {w w' : World} {Z : Nat} (h : PtrsOnly w Z) (hb : Below w.heap.size w w') (hZ : Z < w.heap.size) : PtrsOnly w' Z := fun i v hv => h i v ((hb.cell (p := ⟨Z, i, none⟩) hZ).symm.trans hv)

/-- A store into the block behind leaves the rest. -/
theorem store_keeps {W0 w : World} {B : Nat} (hB : B ≤ W0.heap.size) (h : Below B W0 w) (q : Nat) (hq : B ≤ q) (i : Nat) (v : Value) : Below B W0 (w.setCell ⟨q, i, none⟩ v) := h.setCell (p := ⟨q, i, none⟩) hq v

set_option maxHeartbeats 4000000 in
set_option maxRecDepth 100000 in
/-- zzCopyEnv. -/
theorem copyEnv_any (p : Ptrs) (e : EnvV) (w : World) (h : EnvIs w p e) (hf : e.Fits) :
    Calls Try.prog 11 #[p.val] w fun x w' => ∃ q : Ptrs, x = .returned q.val ∧ EnvIs w' q e ∧ Below w.heap.size w w' := by
  obtain ⟨p0, p1, p2, p3, p4, p5, p6⟩ := p
  obtain ⟨W0, hW0⟩ : ∃ W0, (w.alloc (.cells #[.pointer p0, .pointer p1, .pointer p2, .pointer p3, .pointer p4, .pointer p5, .pointer p6] 26)).alloc (.cells #[.pointer none, .pointer none, .pointer none, .pointer none, .pointer none, .pointer none, .pointer none] 26) = W0 := ⟨_, rfl⟩
  obtain ⟨hc, hz, hsz, hbw⟩ := two_blocks w 26 (.pointer p0) (.pointer p1) (.pointer p2) (.pointer p3) (.pointer p4) (.pointer p5) (.pointer p6) (.pointer none) W0 hW0
  have hE := h.below hbw
  obtain ⟨c0, c1, c2, c3, c4, c5, c6⟩ := hc
  have hCells : Hid (∀ wx : World, Below W0.heap.size W0 wx → wx.cell? ⟨w.heap.size, 0, none⟩ = some (.pointer p0) ∧ wx.cell? ⟨w.heap.size, 1, none⟩ = some (.pointer p1) ∧ wx.cell? ⟨w.heap.size, 2, none⟩ = some (.pointer p2) ∧ wx.cell? ⟨w.heap.size, 3, none⟩ = some (.pointer p3) ∧ wx.cell? ⟨w.heap.size, 4, none⟩ = some (.pointer p4) ∧ wx.cell? ⟨w.heap.size, 5, none⟩ = some (.pointer p5) ∧ wx.cell? ⟨w.heap.size, 6, none⟩ = some (.pointer p6)) := fun wx hb =>
    ⟨cell_keep hb c0, cell_keep hb c1, cell_keep hb c2, cell_keep hb c3, cell_keep hb c4, cell_keep hb c5, cell_keep hb c6⟩
  have hZ : Hid (∀ wx : World, Below W0.heap.size W0 wx → wx.cell? ⟨w.heap.size + 1, 0, none⟩ = some (.pointer none) ∧ wx.cell? ⟨w.heap.size + 1, 1, none⟩ = some (.pointer none) ∧ wx.cell? ⟨w.heap.size + 1, 2, none⟩ = some (.pointer none) ∧ wx.cell? ⟨w.heap.size + 1, 3, none⟩ = some (.pointer none) ∧ wx.cell? ⟨w.heap.size + 1, 4, none⟩ = some (.pointer none) ∧ wx.cell? ⟨w.heap.size + 1, 5, none⟩ = some (.pointer none) ∧ wx.cell? ⟨w.heap.size + 1, 6, none⟩ = some (.pointer none) ∧ wx.frozen? ⟨w.heap.size + 1, 0, none⟩ = false ∧ wx.frozen? ⟨w.heap.size + 1, 1, none⟩ = false ∧ wx.frozen? ⟨w.heap.size + 1, 2, none⟩ = false ∧ wx.frozen? ⟨w.heap.size + 1, 3, none⟩ = false ∧ wx.frozen? ⟨w.heap.size + 1, 4, none⟩ = false ∧ wx.frozen? ⟨w.heap.size + 1, 5, none⟩ = false ∧ wx.frozen? ⟨w.heap.size + 1, 6, none⟩ = false) := fun wx hb =>
    ⟨cell_keep hb (hz 0 (by omega)).1, cell_keep hb (hz 1 (by omega)).1, cell_keep hb (hz 2 (by omega)).1, cell_keep hb (hz 3 (by omega)).1, cell_keep hb (hz 4 (by omega)).1, cell_keep hb (hz 5 (by omega)).1, cell_keep hb (hz 6 (by omega)).1, (hb.frozen (p := ⟨w.heap.size + 1, 0, none⟩) (by show w.heap.size + 1 < W0.heap.size; omega)).trans (hz 0 (by omega)).2, (hb.frozen (p := ⟨w.heap.size + 1, 1, none⟩) (by show w.heap.size + 1 < W0.heap.size; omega)).trans (hz 1 (by omega)).2, (hb.frozen (p := ⟨w.heap.size + 1, 2, none⟩) (by show w.heap.size + 1 < W0.heap.size; omega)).trans (hz 2 (by omega)).2, (hb.frozen (p := ⟨w.heap.size + 1, 3, none⟩) (by show w.heap.size + 1 < W0.heap.size; omega)).trans (hz 3 (by omega)).2, (hb.frozen (p := ⟨w.heap.size + 1, 4, none⟩) (by show w.heap.size + 1 < W0.heap.size; omega)).trans (hz 4 (by omega)).2, (hb.frozen (p := ⟨w.heap.size + 1, 5, none⟩) (by show w.heap.size + 1 < W0.heap.size; omega)).trans (hz 5 (by omega)).2, (hb.frozen (p := ⟨w.heap.size + 1, 6, none⟩) (by show w.heap.size + 1 < W0.heap.size; omega)).trans (hz 6 (by omega)).2⟩
  have HPO : Hid (PtrsOnly W0 (w.heap.size + 1)) := ptrs_only_new w _ 26 W0 hW0
  have hb0 : Below W0.heap.size W0 W0.drew := (Below.refl _ _).drew
  have HC0 : Hid (∀ wx : World, Below W0.heap.size W0 wx → Calls Try.prog 27 #[.pointer p0] wx fun x w' => ∃ q, x = .returned (.pointer q) ∧ (∀ wy, Below w'.heap.size w' wy → TagIs wy q e.cls) ∧ Below W0.heap.size W0 w' ∧ Below wx.heap.size wx w') := fun wx hb =>
    (copyTag_any p0 e.cls wx (hE.cls.below hb) hf.cls).mono (fun x w' ⟨q, h1, h2, h3⟩ => ⟨q, h1, fun wy hy => h2.below hy, hb.trans (h3.mono hb.size), h3⟩)
  have HC1 : Hid (∀ wx : World, Below W0.heap.size W0 wx → Calls Try.prog 28 #[.pointer p1] wx fun x w' => ∃ q, x = .returned (.pointer q) ∧ (∀ wy, Below w'.heap.size w' wy → StrIs wy q e.ven) ∧ Below W0.heap.size W0 w' ∧ Below wx.heap.size wx w') := fun wx hb =>
    (copyStr_any p1 e.ven wx (hE.ven.below hb)).mono (fun x w' ⟨q, h1, h2, h3⟩ => ⟨q, h1, fun wy hy => h2.below hy, hb.trans (h3.mono hb.size), h3⟩)
  have HC2 : Hid (∀ wx : World, Below W0.heap.size W0 wx → Calls Try.prog 28 #[.pointer p2] wx fun x w' => ∃ q, x = .returned (.pointer q) ∧ (∀ wy, Below w'.heap.size w' wy → StrIs wy q e.mod) ∧ Below W0.heap.size W0 w' ∧ Below wx.heap.size wx w') := fun wx hb =>
    (copyStr_any p2 e.mod wx (hE.mod.below hb)).mono (fun x w' ⟨q, h1, h2, h3⟩ => ⟨q, h1, fun wy hy => h2.below hy, hb.trans (h3.mono hb.size), h3⟩)
  have HC3 : Hid (∀ wx : World, Below W0.heap.size W0 wx → Calls Try.prog 29 #[.pointer p3] wx fun x w' => ∃ q, x = .returned (.pointer q) ∧ (∀ wy, Below w'.heap.size w' wy → U64Is wy q e.lay) ∧ Below W0.heap.size W0 w' ∧ Below wx.heap.size wx w') := fun wx hb =>
    (copyU64_any p3 e.lay wx (hE.lay.below hb)).mono (fun x w' ⟨q, h1, h2, h3⟩ => ⟨q, h1, fun wy hy => h2.below hy, hb.trans (h3.mono hb.size), h3⟩)
  have HC4 : Hid (∀ wx : World, Below W0.heap.size W0 wx → Calls Try.prog 29 #[.pointer p4] wx fun x w' => ∃ q, x = .returned (.pointer q) ∧ (∀ wy, Below w'.heap.size w' wy → U64Is wy q e.idx) ∧ Below W0.heap.size W0 w' ∧ Below wx.heap.size wx w') := fun wx hb =>
    (copyU64_any p4 e.idx wx (hE.idx.below hb)).mono (fun x w' ⟨q, h1, h2, h3⟩ => ⟨q, h1, fun wy hy => h2.below hy, hb.trans (h3.mono hb.size), h3⟩)
  have HC5 : Hid (∀ wx : World, Below W0.heap.size W0 wx → Calls Try.prog 27 #[.pointer p5] wx fun x w' => ∃ q, x = .returned (.pointer q) ∧ (∀ wy, Below w'.heap.size w' wy → TagIs wy q e.ins) ∧ Below W0.heap.size W0 w' ∧ Below wx.heap.size wx w') := fun wx hb =>
    (copyTag_any p5 e.ins wx (hE.ins.below hb) hf.ins).mono (fun x w' ⟨q, h1, h2, h3⟩ => ⟨q, h1, fun wy hy => h2.below hy, hb.trans (h3.mono hb.size), h3⟩)
  have HC6 : Hid (∀ wx : World, Below W0.heap.size W0 wx → Calls Try.prog 27 #[.pointer p6] wx fun x w' => ∃ q, x = .returned (.pointer q) ∧ (∀ wy, Below w'.heap.size w' wy → TagIs wy q e.grp) ∧ Below W0.heap.size W0 w' ∧ Below wx.heap.size wx w') := fun wx hb =>
    (copyTag_any p6 e.grp wx (hE.grp.below hb) hf.grp).mono (fun x w' ⟨q, h1, h2, h3⟩ => ⟨q, h1, fun wy hy => h2.below hy, hb.trans (h3.mono hb.size), h3⟩)
  have HE : Hid (EnvIs W0 ⟨p0, p1, p2, p3, p4, p5, p6⟩ e) := hE
  have HBW : Hid (Below w.heap.size w W0) := hbw
  have HSZ : Hid (W0.heap.size = w.heap.size + 2) := hsz
  have hne : w.heap.size + 1 ≠ w.heap.size := by omega
  have hne' : w.heap.size ≠ w.heap.size + 1 := by omega
  have hlt1 : w.heap.size < W0.heap.size := by omega
  have hlt2 : w.heap.size + 1 < W0.heap.size := by omega
  clear h hE hbw hsz hz hf
  unfold Ptrs.val
  go_enter Try.func11, Try.ntmps11
  go_wp2_with fail
  clear hW0
  go_region_held3 (fun w' => w'.cell? ⟨w.heap.size, 0, none⟩ = some (.pointer p0) ∧ w'.cell? ⟨w.heap.size, 1, none⟩ = some (.pointer p1) ∧ w'.cell? ⟨w.heap.size, 2, none⟩ = some (.pointer p2) ∧ w'.cell? ⟨w.heap.size, 3, none⟩ = some (.pointer p3) ∧ w'.cell? ⟨w.heap.size, 4, none⟩ = some (.pointer p4) ∧ w'.cell? ⟨w.heap.size, 5, none⟩ = some (.pointer p5) ∧ w'.cell? ⟨w.heap.size, 6, none⟩ = some (.pointer p6)) (go_keep)
    (first
      | (go_at_call_of 27 (Value.pointer p0); refine (HC0.out _ (by assumption)).mono ?_; rintro x w1 ⟨q0, rfl, t0, b1, d1⟩; obtain ⟨k00, k01, k02, k03, k04, k05, k06⟩ := hCells.out _ b1; have T0 : Hid (∀ wy, Below w1.heap.size w1 wy → TagIs wy q0 e.cls) := t0; have D1 : Hid (Below W0.drew.heap.size W0.drew w1) := d1; clear t0 d1)
      | (go_at_call_of 28 (Value.pointer p1); refine (HC1.out _ (by assumption)).mono ?_; rintro x w2 ⟨q1, rfl, t1, b2, d2⟩; obtain ⟨k10, k11, k12, k13, k14, k15, k16⟩ := hCells.out _ b2; have T1 : Hid (∀ wy, Below w2.heap.size w2 wy → StrIs wy q1 e.ven) := t1; have D2 : Hid (Below w1.heap.size w1 w2) := d2; clear t1 d2)
      | (go_at_call_of 28 (Value.pointer p2); refine (HC2.out _ (by assumption)).mono ?_; rintro x w3 ⟨q2, rfl, t2, b3, d3⟩; obtain ⟨k20, k21, k22, k23, k24, k25, k26⟩ := hCells.out _ b3; have T2 : Hid (∀ wy, Below w3.heap.size w3 wy → StrIs wy q2 e.mod) := t2; have D3 : Hid (Below w2.heap.size w2 w3) := d3; clear t2 d3)
      | (go_at_call_of 29 (Value.pointer p3); refine (HC3.out _ (by assumption)).mono ?_; rintro x w4 ⟨q3, rfl, t3, b4, d4⟩; obtain ⟨k30, k31, k32, k33, k34, k35, k36⟩ := hCells.out _ b4; have T3 : Hid (∀ wy, Below w4.heap.size w4 wy → U64Is wy q3 e.lay) := t3; have D4 : Hid (Below w3.heap.size w3 w4) := d4; clear t3 d4)
      | (go_at_call_of 29 (Value.pointer p4); refine (HC4.out _ (by assumption)).mono ?_; rintro x w5 ⟨q4, rfl, t4, b5, d5⟩; obtain ⟨k40, k41, k42, k43, k44, k45, k46⟩ := hCells.out _ b5; have T4 : Hid (∀ wy, Below w5.heap.size w5 wy → U64Is wy q4 e.idx) := t4; have D5 : Hid (Below w4.heap.size w4 w5) := d5; clear t4 d5)
      | (go_at_call_of 27 (Value.pointer p5); refine (HC5.out _ (by assumption)).mono ?_; rintro x w6 ⟨q5, rfl, t5, b6, d6⟩; obtain ⟨k50, k51, k52, k53, k54, k55, k56⟩ := hCells.out _ b6; have T5 : Hid (∀ wy, Below w6.heap.size w6 wy → TagIs wy q5 e.ins) := t5; have D6 : Hid (Below w5.heap.size w5 w6) := d6; clear t5 d6)
      | (go_at_call_of 27 (Value.pointer p6); refine (HC6.out _ (by assumption)).mono ?_; rintro x w7 ⟨q6, rfl, t6, b7, d7⟩; obtain ⟨k60, k61, k62, k63, k64, k65, k66⟩ := hCells.out _ b7; have T6 : Hid (∀ wy, Below w7.heap.size w7 wy → TagIs wy q6 e.grp) := t6; have D7 : Hid (Below w6.heap.size w6 w7) := d7; clear t6 d7; obtain ⟨z0, z1, z2, z3, z4, z5, z6, f0, f1, f2, f3, f4, f5, f6⟩ := hZ.out _ b7))
  go_wp2_with fail
  have hEF : EnvIs w7 ⟨q0, q1, q2, q3, q4, q5, q6⟩ e := ⟨T0.out _ (((((D2.out.trans (D3.out.mono D2.out.size)).trans (D4.out.mono (D2.out.trans (D3.out.mono D2.out.size)).size)).trans (D5.out.mono ((D2.out.trans (D3.out.mono D2.out.size)).trans (D4.out.mono (D2.out.trans (D3.out.mono D2.out.size)).size)).size)).trans (D6.out.mono (((D2.out.trans (D3.out.mono D2.out.size)).trans (D4.out.mono (D2.out.trans (D3.out.mono D2.out.size)).size)).trans (D5.out.mono ((D2.out.trans (D3.out.mono D2.out.size)).trans (D4.out.mono (D2.out.trans (D3.out.mono D2.out.size)).size)).size)).size)).trans (D7.out.mono ((((D2.out.trans (D3.out.mono D2.out.size)).trans (D4.out.mono (D2.out.trans (D3.out.mono D2.out.size)).size)).trans (D5.out.mono ((D2.out.trans (D3.out.mono D2.out.size)).trans (D4.out.mono (D2.out.trans (D3.out.mono D2.out.size)).size)).size)).trans (D6.out.mono (((D2.out.trans (D3.out.mono D2.out.size)).trans (D4.out.mono (D2.out.trans (D3.out.mono D2.out.size)).size)).trans (D5.out.mono ((D2.out.trans (D3.out.mono D2.out.size)).trans (D4.out.mono (D2.out.trans (D3.out.mono D2.out.size)).size)).size)).size)).size)), T1.out _ ((((D3.out.trans (D4.out.mono D3.out.size)).trans (D5.out.mono (D3.out.trans (D4.out.mono D3.out.size)).size)).trans (D6.out.mono ((D3.out.trans (D4.out.mono D3.out.size)).trans (D5.out.mono (D3.out.trans (D4.out.mono D3.out.size)).size)).size)).trans (D7.out.mono (((D3.out.trans (D4.out.mono D3.out.size)).trans (D5.out.mono (D3.out.trans (D4.out.mono D3.out.size)).size)).trans (D6.out.mono ((D3.out.trans (D4.out.mono D3.out.size)).trans (D5.out.mono (D3.out.trans (D4.out.mono D3.out.size)).size)).size)).size)), T2.out _ (((D4.out.trans (D5.out.mono D4.out.size)).trans (D6.out.mono (D4.out.trans (D5.out.mono D4.out.size)).size)).trans (D7.out.mono ((D4.out.trans (D5.out.mono D4.out.size)).trans (D6.out.mono (D4.out.trans (D5.out.mono D4.out.size)).size)).size)), T3.out _ ((D5.out.trans (D6.out.mono D5.out.size)).trans (D7.out.mono (D5.out.trans (D6.out.mono D5.out.size)).size)), T4.out _ (D6.out.trans (D7.out.mono D6.out.size)), T5.out _ D7.out, T6.out _ (Below.refl _ w7)⟩
  have hBF : Below w.heap.size w w7 := HBW.out.trans (b7.mono HBW.out.size)
  have hPF : PtrsOnly w7 (w.heap.size + 1) := HPO.out.below b7 hlt2
  refine bodyPost_ret (v := .agg #[.pointer q0, .pointer q1, .pointer q2, .pointer q3, .pointer q4, .pointer q5, .pointer q6]) ?_ rfl ⟨⟨q0, q1, q2, q3, q4, q5, q6⟩, rfl, hEF.off hPF ?_, ?_⟩
  · simp [results, Try.results11, go_sem, z0, z1, z2, z3, z4, z5, z6]
  · exact (((((((OffZ.refl _ _).set 0 _).set 1 _).set 2 _).set 3 _).set 4 _).set 5 _).set 6 _
  · exact ((((((hBF.setCell (p := ⟨w.heap.size + 1, 0, none⟩) (Nat.le_succ _) _).setCell (p := ⟨w.heap.size + 1, 1, none⟩) (Nat.le_succ _) _).setCell (p := ⟨w.heap.size + 1, 2, none⟩) (Nat.le_succ _) _).setCell (p := ⟨w.heap.size + 1, 3, none⟩) (Nat.le_succ _) _).setCell (p := ⟨w.heap.size + 1, 4, none⟩) (Nat.le_succ _) _).setCell (p := ⟨w.heap.size + 1, 5, none⟩) (Nat.le_succ _) _).setCell (p := ⟨w.heap.size + 1, 6, none⟩) (Nat.le_succ _) _

set_option maxHeartbeats 4000000 in
set_option maxRecDepth 100000 in
/-- zzToEnv. -/
theorem toEnv_any (p : Ptrs) (e : EnvV) (w : World) (h : EnvIs w p e) :
    Calls Try.prog 13 #[p.val] w fun x w' => ∃ q : Ptrs, x = .returned q.val ∧ EnvIs w' q e ∧ Below w.heap.size w w' := by
  obtain ⟨p0, p1, p2, p3, p4, p5, p6⟩ := p
  obtain ⟨W0, hW0⟩ : ∃ W0, (w.alloc (.cells #[.pointer p0, .pointer p1, .pointer p2, .pointer p3, .pointer p4, .pointer p5, .pointer p6] 26)).alloc (.cells #[.pointer none, .pointer none, .pointer none, .pointer none, .pointer none, .pointer none, .pointer none] 34) = W0 := ⟨_, rfl⟩
  obtain ⟨hc, hz, hsz, hbw⟩ := two_blocks w 34 (.pointer p0) (.pointer p1) (.pointer p2) (.pointer p3) (.pointer p4) (.pointer p5) (.pointer p6) (.pointer none) W0 hW0
  have hE := h.below hbw
  obtain ⟨c0, c1, c2, c3, c4, c5, c6⟩ := hc
  have hCells : Hid (∀ wx : World, Below W0.heap.size W0 wx → wx.cell? ⟨w.heap.size, 0, none⟩ = some (.pointer p0) ∧ wx.cell? ⟨w.heap.size, 1, none⟩ = some (.pointer p1) ∧ wx.cell? ⟨w.heap.size, 2, none⟩ = some (.pointer p2) ∧ wx.cell? ⟨w.heap.size, 3, none⟩ = some (.pointer p3) ∧ wx.cell? ⟨w.heap.size, 4, none⟩ = some (.pointer p4) ∧ wx.cell? ⟨w.heap.size, 5, none⟩ = some (.pointer p5) ∧ wx.cell? ⟨w.heap.size, 6, none⟩ = some (.pointer p6)) := fun wx hb =>
    ⟨cell_keep hb c0, cell_keep hb c1, cell_keep hb c2, cell_keep hb c3, cell_keep hb c4, cell_keep hb c5, cell_keep hb c6⟩
  have hZ : Hid (∀ wx : World, Below W0.heap.size W0 wx → wx.cell? ⟨w.heap.size + 1, 0, none⟩ = some (.pointer none) ∧ wx.cell? ⟨w.heap.size + 1, 1, none⟩ = some (.pointer none) ∧ wx.cell? ⟨w.heap.size + 1, 2, none⟩ = some (.pointer none) ∧ wx.cell? ⟨w.heap.size + 1, 3, none⟩ = some (.pointer none) ∧ wx.cell? ⟨w.heap.size + 1, 4, none⟩ = some (.pointer none) ∧ wx.cell? ⟨w.heap.size + 1, 5, none⟩ = some (.pointer none) ∧ wx.cell? ⟨w.heap.size + 1, 6, none⟩ = some (.pointer none) ∧ wx.frozen? ⟨w.heap.size + 1, 0, none⟩ = false ∧ wx.frozen? ⟨w.heap.size + 1, 1, none⟩ = false ∧ wx.frozen? ⟨w.heap.size + 1, 2, none⟩ = false ∧ wx.frozen? ⟨w.heap.size + 1, 3, none⟩ = false ∧ wx.frozen? ⟨w.heap.size + 1, 4, none⟩ = false ∧ wx.frozen? ⟨w.heap.size + 1, 5, none⟩ = false ∧ wx.frozen? ⟨w.heap.size + 1, 6, none⟩ = false) := fun wx hb =>
    ⟨cell_keep hb (hz 0 (by omega)).1, cell_keep hb (hz 1 (by omega)).1, cell_keep hb (hz 2 (by omega)).1, cell_keep hb (hz 3 (by omega)).1, cell_keep hb (hz 4 (by omega)).1, cell_keep hb (hz 5 (by omega)).1, cell_keep hb (hz 6 (by omega)).1, (hb.frozen (p := ⟨w.heap.size + 1, 0, none⟩) (by show w.heap.size + 1 < W0.heap.size; omega)).trans (hz 0 (by omega)).2, (hb.frozen (p := ⟨w.heap.size + 1, 1, none⟩) (by show w.heap.size + 1 < W0.heap.size; omega)).trans (hz 1 (by omega)).2, (hb.frozen (p := ⟨w.heap.size + 1, 2, none⟩) (by show w.heap.size + 1 < W0.heap.size; omega)).trans (hz 2 (by omega)).2, (hb.frozen (p := ⟨w.heap.size + 1, 3, none⟩) (by show w.heap.size + 1 < W0.heap.size; omega)).trans (hz 3 (by omega)).2, (hb.frozen (p := ⟨w.heap.size + 1, 4, none⟩) (by show w.heap.size + 1 < W0.heap.size; omega)).trans (hz 4 (by omega)).2, (hb.frozen (p := ⟨w.heap.size + 1, 5, none⟩) (by show w.heap.size + 1 < W0.heap.size; omega)).trans (hz 5 (by omega)).2, (hb.frozen (p := ⟨w.heap.size + 1, 6, none⟩) (by show w.heap.size + 1 < W0.heap.size; omega)).trans (hz 6 (by omega)).2⟩
  have HPO : Hid (PtrsOnly W0 (w.heap.size + 1)) := ptrs_only_new w _ 34 W0 hW0
  have hb0 : Below W0.heap.size W0 W0.drew := (Below.refl _ _).drew
  have HC0 : Hid (∀ wx : World, Below W0.heap.size W0 wx → Calls Try.prog 31 #[.pointer p0] wx fun x w' => ∃ q, x = .returned (.pointer q) ∧ (∀ wy, Below w'.heap.size w' wy → TagIs wy q e.cls) ∧ Below W0.heap.size W0 w' ∧ Below wx.heap.size wx w') := fun wx hb =>
    (toTag_any p0 e.cls wx (hE.cls.below hb)).mono (fun x w' ⟨q, h1, h2, h3⟩ => ⟨q, h1, fun wy hy => h2.below hy, hb.trans (h3.mono hb.size), h3⟩)
  have HC5 : Hid (∀ wx : World, Below W0.heap.size W0 wx → Calls Try.prog 31 #[.pointer p5] wx fun x w' => ∃ q, x = .returned (.pointer q) ∧ (∀ wy, Below w'.heap.size w' wy → TagIs wy q e.ins) ∧ Below W0.heap.size W0 w' ∧ Below wx.heap.size wx w') := fun wx hb =>
    (toTag_any p5 e.ins wx (hE.ins.below hb)).mono (fun x w' ⟨q, h1, h2, h3⟩ => ⟨q, h1, fun wy hy => h2.below hy, hb.trans (h3.mono hb.size), h3⟩)
  have HC6 : Hid (∀ wx : World, Below W0.heap.size W0 wx → Calls Try.prog 31 #[.pointer p6] wx fun x w' => ∃ q, x = .returned (.pointer q) ∧ (∀ wy, Below w'.heap.size w' wy → TagIs wy q e.grp) ∧ Below W0.heap.size W0 w' ∧ Below wx.heap.size wx w') := fun wx hb =>
    (toTag_any p6 e.grp wx (hE.grp.below hb)).mono (fun x w' ⟨q, h1, h2, h3⟩ => ⟨q, h1, fun wy hy => h2.below hy, hb.trans (h3.mono hb.size), h3⟩)
  have HE : Hid (EnvIs W0 ⟨p0, p1, p2, p3, p4, p5, p6⟩ e) := hE
  have HBW : Hid (Below w.heap.size w W0) := hbw
  have HSZ : Hid (W0.heap.size = w.heap.size + 2) := hsz
  have hne : w.heap.size + 1 ≠ w.heap.size := by omega
  have hne' : w.heap.size ≠ w.heap.size + 1 := by omega
  have hlt1 : w.heap.size < W0.heap.size := by omega
  have hlt2 : w.heap.size + 1 < W0.heap.size := by omega
  clear h hE hbw hsz hz
  unfold Ptrs.val
  go_enter Try.func13, Try.ntmps13
  go_wp2_with fail
  clear hW0
  go_region_held3 (fun w' => w'.cell? ⟨w.heap.size, 0, none⟩ = some (.pointer p0) ∧ w'.cell? ⟨w.heap.size, 1, none⟩ = some (.pointer p1) ∧ w'.cell? ⟨w.heap.size, 2, none⟩ = some (.pointer p2) ∧ w'.cell? ⟨w.heap.size, 3, none⟩ = some (.pointer p3) ∧ w'.cell? ⟨w.heap.size, 4, none⟩ = some (.pointer p4) ∧ w'.cell? ⟨w.heap.size, 5, none⟩ = some (.pointer p5) ∧ w'.cell? ⟨w.heap.size, 6, none⟩ = some (.pointer p6)) (go_keep)
    (first
      | (go_at_call_of 31 (Value.pointer p0); refine (HC0.out _ (by assumption)).mono ?_; rintro x w1 ⟨q0, rfl, t0, b1, d1⟩; obtain ⟨k00, k01, k02, k03, k04, k05, k06⟩ := hCells.out _ b1; have T0 : Hid (∀ wy, Below w1.heap.size w1 wy → TagIs wy q0 e.cls) := t0; have D1 : Hid (Below W0.drew.heap.size W0.drew w1) := d1; clear t0 d1)
      | (go_at_call_of 31 (Value.pointer p5); refine (HC5.out _ (by assumption)).mono ?_; rintro x w2 ⟨q5, rfl, t5, b2, d2⟩; obtain ⟨k10, k11, k12, k13, k14, k15, k16⟩ := hCells.out _ b2; have T5 : Hid (∀ wy, Below w2.heap.size w2 wy → TagIs wy q5 e.ins) := t5; have D2 : Hid (Below w1.heap.size w1 w2) := d2; clear t5 d2)
      | (go_at_call_of 31 (Value.pointer p6); refine (HC6.out _ (by assumption)).mono ?_; rintro x w3 ⟨q6, rfl, t6, b3, d3⟩; obtain ⟨k20, k21, k22, k23, k24, k25, k26⟩ := hCells.out _ b3; have T6 : Hid (∀ wy, Below w3.heap.size w3 wy → TagIs wy q6 e.grp) := t6; have D3 : Hid (Below w2.heap.size w2 w3) := d3; clear t6 d3; obtain ⟨z0, z1, z2, z3, z4, z5, z6, f0, f1, f2, f3, f4, f5, f6⟩ := hZ.out _ b3))
  go_wp2_with fail
  have hEF : EnvIs w3 ⟨q0, p1, p2, p3, p4, q5, q6⟩ e := ⟨T0.out _ (D2.out.trans (D3.out.mono D2.out.size)), (HE.out.ven.below b3), (HE.out.mod.below b3), (HE.out.lay.below b3), (HE.out.idx.below b3), T5.out _ D3.out, T6.out _ (Below.refl _ w3)⟩
  have hBF : Below w.heap.size w w3 := HBW.out.trans (b3.mono HBW.out.size)
  have hPF : PtrsOnly w3 (w.heap.size + 1) := HPO.out.below b3 hlt2
  refine bodyPost_ret (v := .agg #[.pointer q0, .pointer p1, .pointer p2, .pointer p3, .pointer p4, .pointer q5, .pointer q6]) ?_ rfl ⟨⟨q0, p1, p2, p3, p4, q5, q6⟩, rfl, hEF.off hPF ?_, ?_⟩
  · simp [results, Try.results13, go_sem, z0, z1, z2, z3, z4, z5, z6]
  · exact (((((((OffZ.refl _ _).set 0 _).set 1 _).set 2 _).set 3 _).set 4 _).set 5 _).set 6 _
  · exact ((((((hBF.setCell (p := ⟨w.heap.size + 1, 0, none⟩) (Nat.le_succ _) _).setCell (p := ⟨w.heap.size + 1, 1, none⟩) (Nat.le_succ _) _).setCell (p := ⟨w.heap.size + 1, 2, none⟩) (Nat.le_succ _) _).setCell (p := ⟨w.heap.size + 1, 3, none⟩) (Nat.le_succ _) _).setCell (p := ⟨w.heap.size + 1, 4, none⟩) (Nat.le_succ _) _).setCell (p := ⟨w.heap.size + 1, 5, none⟩) (Nat.le_succ _) _).setCell (p := ⟨w.heap.size + 1, 6, none⟩) (Nat.le_succ _) _

end Go.Proofs.Qxb6603359a
