/-
  contains (30), ZZcontains (12), zzSameEnv (14).
-/
import Derived.Test.Qxb6603359aHolds
namespace Go.Proofs.Qxb6603359a
open Go.RowKit
set_option linter.unusedVariables false
/-- Does x contain y? -/
def contB (x y : EnvV) : Bool := optHolds sameT y.cls x.cls && (optHolds sameS y.ven x.ven && (optHolds sameS y.mod x.mod && (optHolds sameU y.lay x.lay && (optHolds sameU y.idx x.idx && (optHolds sameT y.ins x.ins && (optHolds sameT y.grp x.grp))))))
def sameB (x y : EnvV) : Bool := optSame sameT x.cls y.cls && (optSame sameS x.ven y.ven && (optSame sameS x.mod y.mod && (optSame sameU x.lay y.lay && (optSame sameU x.idx y.idx && (optSame sameT x.ins y.ins && (optSame sameT x.grp y.grp))))))

set_option maxHeartbeats 4000000 in
theorem contains_any (p q : Ptrs) (x y : EnvV) (w : World) (h1 : EnvIs w p x) (h2 : EnvIs w q y) :
    Calls Try.prog 30 #[p.val, q.val] w fun e w' => e = .returned (.bool (contB x y)) ∧ Below w.heap.size w w' := by
  obtain ⟨p0, p1, p2, p3, p4, p5, p6⟩ := p
  obtain ⟨q0, q1, q2, q3, q4, q5, q6⟩ := q
  obtain ⟨W0, hW0⟩ : ∃ W0, (w.alloc (.cells #[.pointer p0, .pointer p1, .pointer p2, .pointer p3, .pointer p4, .pointer p5, .pointer p6] 34)).alloc (.cells #[.pointer q0, .pointer q1, .pointer q2, .pointer q3, .pointer q4, .pointer q5, .pointer q6] 34) = W0 := ⟨_, rfl⟩
  obtain ⟨hp, hq, hbw⟩ : (W0.cell? ⟨w.heap.size, 0, none⟩ = some (.pointer p0) ∧ W0.cell? ⟨w.heap.size, 1, none⟩ = some (.pointer p1) ∧ W0.cell? ⟨w.heap.size, 2, none⟩ = some (.pointer p2) ∧ W0.cell? ⟨w.heap.size, 3, none⟩ = some (.pointer p3) ∧ W0.cell? ⟨w.heap.size, 4, none⟩ = some (.pointer p4) ∧ W0.cell? ⟨w.heap.size, 5, none⟩ = some (.pointer p5) ∧ W0.cell? ⟨w.heap.size, 6, none⟩ = some (.pointer p6)) ∧ (W0.cell? ⟨w.heap.size + 1, 0, none⟩ = some (.pointer q0) ∧ W0.cell? ⟨w.heap.size + 1, 1, none⟩ = some (.pointer q1) ∧ W0.cell? ⟨w.heap.size + 1, 2, none⟩ = some (.pointer q2) ∧ W0.cell? ⟨w.heap.size + 1, 3, none⟩ = some (.pointer q3) ∧ W0.cell? ⟨w.heap.size + 1, 4, none⟩ = some (.pointer q4) ∧ W0.cell? ⟨w.heap.size + 1, 5, none⟩ = some (.pointer q5) ∧ W0.cell? ⟨w.heap.size + 1, 6, none⟩ = some (.pointer q6)) ∧ Below w.heap.size w W0 := by
    subst hW0
    refine ⟨⟨?_, ?_, ?_, ?_, ?_, ?_, ?_⟩, ⟨?_, ?_, ?_, ?_, ?_, ?_, ?_⟩, ((Below.refl _ _).alloc (Nat.le_refl _) _).alloc (by simp) _⟩ <;> simp [go_sem]
  have hE1 := h1.below hbw
  have hE2 := h2.below hbw
  obtain ⟨c0, c1, c2, c3, c4, c5, c6⟩ := hp
  obtain ⟨d0, d1, d2, d3, d4, d5, d6⟩ := hq
  have HX1 : Hid (∀ wx : World, Below W0.heap.size W0 wx → wx.cell? ⟨w.heap.size, 1, none⟩ = some (.pointer p1) ∧ wx.cell? ⟨w.heap.size + 1, 1, none⟩ = some (.pointer q1)) := fun wx hb => ⟨cell_keep hb c1, cell_keep hb d1⟩
  have HX2 : Hid (∀ wx : World, Below W0.heap.size W0 wx → wx.cell? ⟨w.heap.size, 2, none⟩ = some (.pointer p2) ∧ wx.cell? ⟨w.heap.size + 1, 2, none⟩ = some (.pointer q2)) := fun wx hb => ⟨cell_keep hb c2, cell_keep hb d2⟩
  have HX3 : Hid (∀ wx : World, Below W0.heap.size W0 wx → wx.cell? ⟨w.heap.size, 3, none⟩ = some (.pointer p3) ∧ wx.cell? ⟨w.heap.size + 1, 3, none⟩ = some (.pointer q3)) := fun wx hb => ⟨cell_keep hb c3, cell_keep hb d3⟩
  have HX4 : Hid (∀ wx : World, Below W0.heap.size W0 wx → wx.cell? ⟨w.heap.size, 4, none⟩ = some (.pointer p4) ∧ wx.cell? ⟨w.heap.size + 1, 4, none⟩ = some (.pointer q4)) := fun wx hb => ⟨cell_keep hb c4, cell_keep hb d4⟩
  have HX5 : Hid (∀ wx : World, Below W0.heap.size W0 wx → wx.cell? ⟨w.heap.size, 5, none⟩ = some (.pointer p5) ∧ wx.cell? ⟨w.heap.size + 1, 5, none⟩ = some (.pointer q5)) := fun wx hb => ⟨cell_keep hb c5, cell_keep hb d5⟩
  have HX6 : Hid (∀ wx : World, Below W0.heap.size W0 wx → wx.cell? ⟨w.heap.size, 6, none⟩ = some (.pointer p6) ∧ wx.cell? ⟨w.heap.size + 1, 6, none⟩ = some (.pointer q6)) := fun wx hb => ⟨cell_keep hb c6, cell_keep hb d6⟩
  have HC0 : Hid (∀ wx : World, Below W0.heap.size W0 wx → Calls Try.prog 37 #[.pointer q0, .pointer p0, .func (.func 38) #[] #[]] wx fun e w' => e = .returned (.bool (optHolds sameT y.cls x.cls)) ∧ Below W0.heap.size W0 w') := fun wx hb =>
    (holdsTag_any q0 p0 y.cls x.cls wx (hE2.cls.below hb) (hE1.cls.below hb)).mono (fun e w' ⟨h1, h3⟩ => ⟨h1, hb.trans (h3.mono hb.size)⟩)
  have HC1 : Hid (∀ wx : World, Below W0.heap.size W0 wx → Calls Try.prog 39 #[.pointer q1, .pointer p1, .func (.func 40) #[] #[]] wx fun e w' => e = .returned (.bool (optHolds sameS y.ven x.ven)) ∧ Below W0.heap.size W0 w') := fun wx hb =>
    (holdsStr_any q1 p1 y.ven x.ven wx (hE2.ven.below hb) (hE1.ven.below hb)).mono (fun e w' ⟨h1, h3⟩ => ⟨h1, hb.trans (h3.mono hb.size)⟩)
  have HC2 : Hid (∀ wx : World, Below W0.heap.size W0 wx → Calls Try.prog 39 #[.pointer q2, .pointer p2, .func (.func 40) #[] #[]] wx fun e w' => e = .returned (.bool (optHolds sameS y.mod x.mod)) ∧ Below W0.heap.size W0 w') := fun wx hb =>
    (holdsStr_any q2 p2 y.mod x.mod wx (hE2.mod.below hb) (hE1.mod.below hb)).mono (fun e w' ⟨h1, h3⟩ => ⟨h1, hb.trans (h3.mono hb.size)⟩)
  have HC3 : Hid (∀ wx : World, Below W0.heap.size W0 wx → Calls Try.prog 41 #[.pointer q3, .pointer p3, .func (.func 42) #[] #[]] wx fun e w' => e = .returned (.bool (optHolds sameU y.lay x.lay)) ∧ Below W0.heap.size W0 w') := fun wx hb =>
    (holdsU64_any q3 p3 y.lay x.lay wx (hE2.lay.below hb) (hE1.lay.below hb)).mono (fun e w' ⟨h1, h3⟩ => ⟨h1, hb.trans (h3.mono hb.size)⟩)
  have HC4 : Hid (∀ wx : World, Below W0.heap.size W0 wx → Calls Try.prog 41 #[.pointer q4, .pointer p4, .func (.func 42) #[] #[]] wx fun e w' => e = .returned (.bool (optHolds sameU y.idx x.idx)) ∧ Below W0.heap.size W0 w') := fun wx hb =>
    (holdsU64_any q4 p4 y.idx x.idx wx (hE2.idx.below hb) (hE1.idx.below hb)).mono (fun e w' ⟨h1, h3⟩ => ⟨h1, hb.trans (h3.mono hb.size)⟩)
  have HC5 : Hid (∀ wx : World, Below W0.heap.size W0 wx → Calls Try.prog 37 #[.pointer q5, .pointer p5, .func (.func 38) #[] #[]] wx fun e w' => e = .returned (.bool (optHolds sameT y.ins x.ins)) ∧ Below W0.heap.size W0 w') := fun wx hb =>
    (holdsTag_any q5 p5 y.ins x.ins wx (hE2.ins.below hb) (hE1.ins.below hb)).mono (fun e w' ⟨h1, h3⟩ => ⟨h1, hb.trans (h3.mono hb.size)⟩)
  have HC6 : Hid (∀ wx : World, Below W0.heap.size W0 wx → Calls Try.prog 37 #[.pointer q6, .pointer p6, .func (.func 38) #[] #[]] wx fun e w' => e = .returned (.bool (optHolds sameT y.grp x.grp)) ∧ Below W0.heap.size W0 w') := fun wx hb =>
    (holdsTag_any q6 p6 y.grp x.grp wx (hE2.grp.below hb) (hE1.grp.below hb)).mono (fun e w' ⟨h1, h3⟩ => ⟨h1, hb.trans (h3.mono hb.size)⟩)
  have HB : Hid (∀ wx : World, Below W0.heap.size W0 wx → Below w.heap.size w wx) := fun wx hb => hbw.trans (hb.mono hbw.size)
  have b0 : Below W0.heap.size W0 W0 := Below.refl _ _
  clear c1 c2 c3 c4 c5 c6 d1 d2 d3 d4 d5 d6 hE1 hE2 h1 h2 hbw
  unfold contB Ptrs.val
  generalize optHolds sameT y.cls x.cls = B0 at *
  generalize optHolds sameS y.ven x.ven = B1 at *
  generalize optHolds sameS y.mod x.mod = B2 at *
  generalize optHolds sameU y.lay x.lay = B3 at *
  generalize optHolds sameU y.idx x.idx = B4 at *
  generalize optHolds sameT y.ins x.ins = B5 at *
  generalize optHolds sameT y.grp x.grp = B6 at *
  go_enter Try.func30, Try.ntmps30
  go_wp2_with fail
  clear hW0
  refine (HC0.out _ b0).mono ?_
  rintro e w1 ⟨rfl, b1⟩
  clear b0
  cases B0
  · go_wp2_with fail
    go_ret
    exact ⟨rfl, HB.out _ b1⟩
  obtain ⟨k0, l0⟩ := HX1.out _ b1
  go_wp2_with fail
  refine (HC1.out _ b1).mono ?_
  rintro e w2 ⟨rfl, b2⟩
  clear b1
  cases B1
  · go_wp2_with fail
    go_ret
    exact ⟨rfl, HB.out _ b2⟩
  obtain ⟨k1, l1⟩ := HX2.out _ b2
  go_wp2_with fail
  refine (HC2.out _ b2).mono ?_
  rintro e w3 ⟨rfl, b3⟩
  clear b2
  cases B2
  · go_wp2_with fail
    go_ret
    exact ⟨rfl, HB.out _ b3⟩
  obtain ⟨k2, l2⟩ := HX3.out _ b3
  go_wp2_with fail
  refine (HC3.out _ b3).mono ?_
  rintro e w4 ⟨rfl, b4⟩
  clear b3
  cases B3
  · go_wp2_with fail
    go_ret
    exact ⟨rfl, HB.out _ b4⟩
  obtain ⟨k3, l3⟩ := HX4.out _ b4
  go_wp2_with fail
  refine (HC4.out _ b4).mono ?_
  rintro e w5 ⟨rfl, b5⟩
  clear b4
  cases B4
  · go_wp2_with fail
    go_ret
    exact ⟨rfl, HB.out _ b5⟩
  obtain ⟨k4, l4⟩ := HX5.out _ b5
  go_wp2_with fail
  refine (HC5.out _ b5).mono ?_
  rintro e w6 ⟨rfl, b6⟩
  clear b5
  cases B5
  · go_wp2_with fail
    go_ret
    exact ⟨rfl, HB.out _ b6⟩
  obtain ⟨k5, l5⟩ := HX6.out _ b6
  go_wp2_with fail
  refine (HC6.out _ b6).mono ?_
  rintro e w7 ⟨rfl, b7⟩
  clear b6
  go_wp2_with fail
  go_ret
  exact ⟨rfl, HB.out _ b7⟩

set_option maxHeartbeats 4000000 in
theorem sameEnv_any (p q : Ptrs) (x y : EnvV) (w : World) (h1 : EnvIs w p x) (h2 : EnvIs w q y) (hf : x.Fits) :
    Calls Try.prog 14 #[p.val, q.val] w fun e w' => e = .returned (.bool (sameB x y)) ∧ Below w.heap.size w w' := by
  obtain ⟨p0, p1, p2, p3, p4, p5, p6⟩ := p
  obtain ⟨q0, q1, q2, q3, q4, q5, q6⟩ := q
  obtain ⟨W0, hW0⟩ : ∃ W0, (w.alloc (.cells #[.pointer p0, .pointer p1, .pointer p2, .pointer p3, .pointer p4, .pointer p5, .pointer p6] 26)).alloc (.cells #[.pointer q0, .pointer q1, .pointer q2, .pointer q3, .pointer q4, .pointer q5, .pointer q6] 26) = W0 := ⟨_, rfl⟩
  obtain ⟨hp, hq, hbw⟩ : (W0.cell? ⟨w.heap.size, 0, none⟩ = some (.pointer p0) ∧ W0.cell? ⟨w.heap.size, 1, none⟩ = some (.pointer p1) ∧ W0.cell? ⟨w.heap.size, 2, none⟩ = some (.pointer p2) ∧ W0.cell? ⟨w.heap.size, 3, none⟩ = some (.pointer p3) ∧ W0.cell? ⟨w.heap.size, 4, none⟩ = some (.pointer p4) ∧ W0.cell? ⟨w.heap.size, 5, none⟩ = some (.pointer p5) ∧ W0.cell? ⟨w.heap.size, 6, none⟩ = some (.pointer p6)) ∧ (W0.cell? ⟨w.heap.size + 1, 0, none⟩ = some (.pointer q0) ∧ W0.cell? ⟨w.heap.size + 1, 1, none⟩ = some (.pointer q1) ∧ W0.cell? ⟨w.heap.size + 1, 2, none⟩ = some (.pointer q2) ∧ W0.cell? ⟨w.heap.size + 1, 3, none⟩ = some (.pointer q3) ∧ W0.cell? ⟨w.heap.size + 1, 4, none⟩ = some (.pointer q4) ∧ W0.cell? ⟨w.heap.size + 1, 5, none⟩ = some (.pointer q5) ∧ W0.cell? ⟨w.heap.size + 1, 6, none⟩ = some (.pointer q6)) ∧ Below w.heap.size w W0 := by
    subst hW0
    refine ⟨⟨?_, ?_, ?_, ?_, ?_, ?_, ?_⟩, ⟨?_, ?_, ?_, ?_, ?_, ?_, ?_⟩, ((Below.refl _ _).alloc (Nat.le_refl _) _).alloc (by simp) _⟩ <;> simp [go_sem]
  have hE1 := h1.below hbw
  have hE2 := h2.below hbw
  obtain ⟨c0, c1, c2, c3, c4, c5, c6⟩ := hp
  obtain ⟨d0, d1, d2, d3, d4, d5, d6⟩ := hq
  have HX1 : Hid (∀ wx : World, Below W0.heap.size W0 wx → wx.cell? ⟨w.heap.size, 1, none⟩ = some (.pointer p1) ∧ wx.cell? ⟨w.heap.size + 1, 1, none⟩ = some (.pointer q1)) := fun wx hb => ⟨cell_keep hb c1, cell_keep hb d1⟩
  have HX2 : Hid (∀ wx : World, Below W0.heap.size W0 wx → wx.cell? ⟨w.heap.size, 2, none⟩ = some (.pointer p2) ∧ wx.cell? ⟨w.heap.size + 1, 2, none⟩ = some (.pointer q2)) := fun wx hb => ⟨cell_keep hb c2, cell_keep hb d2⟩
  have HX3 : Hid (∀ wx : World, Below W0.heap.size W0 wx → wx.cell? ⟨w.heap.size, 3, none⟩ = some (.pointer p3) ∧ wx.cell? ⟨w.heap.size + 1, 3, none⟩ = some (.pointer q3)) := fun wx hb => ⟨cell_keep hb c3, cell_keep hb d3⟩
  have HX4 : Hid (∀ wx : World, Below W0.heap.size W0 wx → wx.cell? ⟨w.heap.size, 4, none⟩ = some (.pointer p4) ∧ wx.cell? ⟨w.heap.size + 1, 4, none⟩ = some (.pointer q4)) := fun wx hb => ⟨cell_keep hb c4, cell_keep hb d4⟩
  have HX5 : Hid (∀ wx : World, Below W0.heap.size W0 wx → wx.cell? ⟨w.heap.size, 5, none⟩ = some (.pointer p5) ∧ wx.cell? ⟨w.heap.size + 1, 5, none⟩ = some (.pointer q5)) := fun wx hb => ⟨cell_keep hb c5, cell_keep hb d5⟩
  have HX6 : Hid (∀ wx : World, Below W0.heap.size W0 wx → wx.cell? ⟨w.heap.size, 6, none⟩ = some (.pointer p6) ∧ wx.cell? ⟨w.heap.size + 1, 6, none⟩ = some (.pointer q6)) := fun wx hb => ⟨cell_keep hb c6, cell_keep hb d6⟩
  have HC0 : Hid (∀ wx : World, Below W0.heap.size W0 wx → Calls Try.prog 32 #[.pointer p0, .pointer q0] wx fun e w' => e = .returned (.bool (optSame sameT x.cls y.cls)) ∧ Below W0.heap.size W0 w') := fun wx hb =>
    (sameTag_any p0 q0 x.cls y.cls wx (hE1.cls.below hb) (hE2.cls.below hb) hf.cls).mono (fun e w' ⟨h1, h3⟩ => ⟨h1, hb.trans (h3.mono hb.size)⟩)
  have HC1 : Hid (∀ wx : World, Below W0.heap.size W0 wx → Calls Try.prog 33 #[.pointer p1, .pointer q1] wx fun e w' => e = .returned (.bool (optSame sameS x.ven y.ven)) ∧ Below W0.heap.size W0 w') := fun wx hb =>
    (sameStr_any p1 q1 x.ven y.ven wx (hE1.ven.below hb) (hE2.ven.below hb)).mono (fun e w' ⟨h1, h3⟩ => ⟨h1, hb.trans (h3.mono hb.size)⟩)
  have HC2 : Hid (∀ wx : World, Below W0.heap.size W0 wx → Calls Try.prog 33 #[.pointer p2, .pointer q2] wx fun e w' => e = .returned (.bool (optSame sameS x.mod y.mod)) ∧ Below W0.heap.size W0 w') := fun wx hb =>
    (sameStr_any p2 q2 x.mod y.mod wx (hE1.mod.below hb) (hE2.mod.below hb)).mono (fun e w' ⟨h1, h3⟩ => ⟨h1, hb.trans (h3.mono hb.size)⟩)
  have HC3 : Hid (∀ wx : World, Below W0.heap.size W0 wx → Calls Try.prog 34 #[.pointer p3, .pointer q3] wx fun e w' => e = .returned (.bool (optSame sameU x.lay y.lay)) ∧ Below W0.heap.size W0 w') := fun wx hb =>
    (sameU64_any p3 q3 x.lay y.lay wx (hE1.lay.below hb) (hE2.lay.below hb)).mono (fun e w' ⟨h1, h3⟩ => ⟨h1, hb.trans (h3.mono hb.size)⟩)
  have HC4 : Hid (∀ wx : World, Below W0.heap.size W0 wx → Calls Try.prog 34 #[.pointer p4, .pointer q4] wx fun e w' => e = .returned (.bool (optSame sameU x.idx y.idx)) ∧ Below W0.heap.size W0 w') := fun wx hb =>
    (sameU64_any p4 q4 x.idx y.idx wx (hE1.idx.below hb) (hE2.idx.below hb)).mono (fun e w' ⟨h1, h3⟩ => ⟨h1, hb.trans (h3.mono hb.size)⟩)
  have HC5 : Hid (∀ wx : World, Below W0.heap.size W0 wx → Calls Try.prog 32 #[.pointer p5, .pointer q5] wx fun e w' => e = .returned (.bool (optSame sameT x.ins y.ins)) ∧ Below W0.heap.size W0 w') := fun wx hb =>
    (sameTag_any p5 q5 x.ins y.ins wx (hE1.ins.below hb) (hE2.ins.below hb) hf.ins).mono (fun e w' ⟨h1, h3⟩ => ⟨h1, hb.trans (h3.mono hb.size)⟩)
  have HC6 : Hid (∀ wx : World, Below W0.heap.size W0 wx → Calls Try.prog 32 #[.pointer p6, .pointer q6] wx fun e w' => e = .returned (.bool (optSame sameT x.grp y.grp)) ∧ Below W0.heap.size W0 w') := fun wx hb =>
    (sameTag_any p6 q6 x.grp y.grp wx (hE1.grp.below hb) (hE2.grp.below hb) hf.grp).mono (fun e w' ⟨h1, h3⟩ => ⟨h1, hb.trans (h3.mono hb.size)⟩)
  have HB : Hid (∀ wx : World, Below W0.heap.size W0 wx → Below w.heap.size w wx) := fun wx hb => hbw.trans (hb.mono hbw.size)
  have b0 : Below W0.heap.size W0 W0 := Below.refl _ _
  clear c1 c2 c3 c4 c5 c6 d1 d2 d3 d4 d5 d6 hE1 hE2 h1 h2 hbw hf
  unfold sameB Ptrs.val
  generalize optSame sameT x.cls y.cls = B0 at *
  generalize optSame sameS x.ven y.ven = B1 at *
  generalize optSame sameS x.mod y.mod = B2 at *
  generalize optSame sameU x.lay y.lay = B3 at *
  generalize optSame sameU x.idx y.idx = B4 at *
  generalize optSame sameT x.ins y.ins = B5 at *
  generalize optSame sameT x.grp y.grp = B6 at *
  go_enter Try.func14, Try.ntmps14
  go_wp2_with fail
  clear hW0
  refine (HC0.out _ b0).mono ?_
  rintro e w1 ⟨rfl, b1⟩
  clear b0
  cases B0
  · go_wp2_with fail
    go_ret
    exact ⟨rfl, HB.out _ b1⟩
  obtain ⟨k0, l0⟩ := HX1.out _ b1
  go_wp2_with fail
  refine (HC1.out _ b1).mono ?_
  rintro e w2 ⟨rfl, b2⟩
  clear b1
  cases B1
  · go_wp2_with fail
    go_ret
    exact ⟨rfl, HB.out _ b2⟩
  obtain ⟨k1, l1⟩ := HX2.out _ b2
  go_wp2_with fail
  refine (HC2.out _ b2).mono ?_
  rintro e w3 ⟨rfl, b3⟩
  clear b2
  cases B2
  · go_wp2_with fail
    go_ret
    exact ⟨rfl, HB.out _ b3⟩
  obtain ⟨k2, l2⟩ := HX3.out _ b3
  go_wp2_with fail
  refine (HC3.out _ b3).mono ?_
  rintro e w4 ⟨rfl, b4⟩
  clear b3
  cases B3
  · go_wp2_with fail
    go_ret
    exact ⟨rfl, HB.out _ b4⟩
  obtain ⟨k3, l3⟩ := HX4.out _ b4
  go_wp2_with fail
  refine (HC4.out _ b4).mono ?_
  rintro e w5 ⟨rfl, b5⟩
  clear b4
  cases B4
  · go_wp2_with fail
    go_ret
    exact ⟨rfl, HB.out _ b5⟩
  obtain ⟨k4, l4⟩ := HX5.out _ b5
  go_wp2_with fail
  refine (HC5.out _ b5).mono ?_
  rintro e w6 ⟨rfl, b6⟩
  clear b5
  cases B5
  · go_wp2_with fail
    go_ret
    exact ⟨rfl, HB.out _ b6⟩
  obtain ⟨k5, l5⟩ := HX6.out _ b6
  go_wp2_with fail
  refine (HC6.out _ b6).mono ?_
  rintro e w7 ⟨rfl, b7⟩
  clear b6
  go_wp2_with fail
  go_ret
  exact ⟨rfl, HB.out _ b7⟩

set_option maxHeartbeats 4000000 in
/-- ZZcontains. -/
theorem zzContains_any (p q : Ptrs) (x y : EnvV) (w : World) (h1 : EnvIs w p x) (h2 : EnvIs w q y) :
    Calls Try.prog 12 #[p.val, q.val] w fun e w' => e = .returned (.bool (contB x y)) ∧ Below w.heap.size w w' := by
  obtain ⟨p0, p1, p2, p3, p4, p5, p6⟩ := p
  obtain ⟨q0, q1, q2, q3, q4, q5, q6⟩ := q
  have hbw : Below w.heap.size w ((w.alloc (.cells #[.pointer p0, .pointer p1, .pointer p2, .pointer p3, .pointer p4, .pointer p5, .pointer p6] 34)).alloc (.cells #[.pointer q0, .pointer q1, .pointer q2, .pointer q3, .pointer q4, .pointer q5, .pointer q6] 34)) := ((Below.refl _ _).alloc (Nat.le_refl _) _).alloc (by simp) _
  have HC := contains_any _ _ x y _ (h1.below hbw) (h2.below hbw)
  have HC2 := HC.mono (fun e w' h => (⟨h.1, hbw.trans (h.2.mono hbw.size)⟩ : e = .returned (.bool (contB x y)) ∧ Below w.heap.size w w'))
  clear h1 h2 HC hbw
  generalize contB x y = B at *
  unfold Ptrs.val at *
  have HC3 : Hid (Calls Try.prog 30 #[.agg #[.pointer p0, .pointer p1, .pointer p2, .pointer p3, .pointer p4, .pointer p5, .pointer p6], .agg #[.pointer q0, .pointer q1, .pointer q2, .pointer q3, .pointer q4, .pointer q5, .pointer q6]] ((w.alloc (.cells #[.pointer p0, .pointer p1, .pointer p2, .pointer p3, .pointer p4, .pointer p5, .pointer p6] 34)).alloc (.cells #[.pointer q0, .pointer q1, .pointer q2, .pointer q3, .pointer q4, .pointer q5, .pointer q6] 34)) fun e w' => e = .returned (.bool B) ∧ Below w.heap.size w w') := HC2
  clear HC2
  go_enter Try.func12, Try.ntmps12
  go_wp2_with fail
  refine HC3.out.mono ?_
  rintro e w1 ⟨rfl, hb⟩
  go_wp2_with fail
  go_ret
  exact ⟨rfl, hb⟩

/-! ### The plain law -/
theorem sameS_comm (a b : ByteArray) : sameS a b = sameS b a := by unfold sameS; rw [Bool.eq_iff_iff, beq_iff_eq, beq_iff_eq]; exact eq_comm
theorem sameU_comm (a b : Int) : sameU a b = sameU b a := by unfold sameU; rw [Bool.eq_iff_iff, beq_iff_eq, beq_iff_eq]; exact eq_comm
theorem sameT_comm (a b : TagV) : sameT a b = sameT b a := by
  unfold sameT
  rw [bytesB_comm]
  congr 1
  rw [Bool.eq_iff_iff, beq_iff_eq, beq_iff_eq]; exact eq_comm
theorem both_holds {α : Type} (f : α → α → Bool) (hf : ∀ a b, f a b = f b a) (s t : Option α) : (optHolds f t s && optHolds f s t) = optSame f s t := by
  cases s with
  | none => cases t with
    | none => rfl
    | some y => rfl
  | some x => cases t with
    | none => rfl
    | some y =>
      show (f y x && f x y) = f x y
      rw [hf y x, Bool.and_self]
theorem and_mix (a b c d : Bool) (r s : Bool) (h1 : (a && c) = r) (h2 : (b && d) = s) : ((a && b) && (c && d)) = (r && s) := by
  subst h1 h2; cases a <;> cases b <;> cases c <;> cases d <;> rfl
/-- Two environments contain each other exactly when they are the same. -/
theorem mutual_law (x y : EnvV) : (contB x y && contB y x) = sameB x y := by
  unfold contB sameB
  refine and_mix _ _ _ _ _ _ (both_holds sameT sameT_comm _ _) ?_
  refine and_mix _ _ _ _ _ _ (both_holds sameS sameS_comm _ _) ?_
  refine and_mix _ _ _ _ _ _ (both_holds sameS sameS_comm _ _) ?_
  refine and_mix _ _ _ _ _ _ (both_holds sameU sameU_comm _ _) ?_
  refine and_mix _ _ _ _ _ _ (both_holds sameU sameU_comm _ _) ?_
  exact and_mix _ _ _ _ _ _ (both_holds sameT sameT_comm _ _) (both_holds sameT sameT_comm _ _)
def EnvV.none : EnvV := ⟨.none, .none, .none, .none, .none, .none, .none⟩
def Ptrs.none : Ptrs := ⟨.none, .none, .none, .none, .none, .none, .none⟩
theorem EnvIs.none (w : World) : EnvIs w Ptrs.none EnvV.none :=
  ⟨Or.inl ⟨rfl, rfl⟩, Or.inl ⟨rfl, rfl⟩, Or.inl ⟨rfl, rfl⟩, Or.inl ⟨rfl, rfl⟩, Or.inl ⟨rfl, rfl⟩, Or.inl ⟨rfl, rfl⟩, Or.inl ⟨rfl, rfl⟩⟩
theorem cont_none (x : EnvV) : contB x EnvV.none = true := rfl
theorem holds_none {α : Type} (f : α → α → Bool) (s : Option α) : optHolds f s .none = optSame f s .none := by cases s <;> rfl
theorem none_cont (y : EnvV) : contB EnvV.none y = sameB y EnvV.none := by
  unfold contB sameB EnvV.none
  simp only [holds_none]
end Go.Proofs.Qxb6603359a
