/-
  FnContainsMutualIsEquality (5).
-/
import Derived.Test.Qxb6603359aCont
import Derived.Test.Qxb6603359aBox
import Derived.Test.Qxb6603359aEnvSize
import Derived.Deep.DeepCutAuto
import Derived.BigQuiet
namespace Go.Proofs.Qxb6603359a
open Go.RowKit
set_option linter.unusedVariables false

theorem wp_region_class {P : Program} {C : World → Prop} {id : Nat} {Q : Exit → Act → World → Prop} {a : Act} {w : World} {l : List Oper} (hm : P.follows .mixedOrders = true) (hB : Region.lexB .any l.toArray = true) (hC : C w.drew)
    (h : wpQuiet P l.toArray C (fun a' => ∀ w', C w' → Q .normal a' w') l a) : (Code.region id l.toArray true).wp P Q a w :=
  wp_region_quiet (C := C) hm hB hC (by simpa using h)
theorem cells_of {w : World} {Z : Nat} {t : TypeId} {p0 p1 p2 p3 p4 p5 p6 : Option Addr} (h : BoxAt w Z t ⟨p0, p1, p2, p3, p4, p5, p6⟩) :
    w.cell? ⟨Z, 0, none⟩ = some (.pointer p0) ∧ w.cell? ⟨Z, 1, none⟩ = some (.pointer p1) ∧ w.cell? ⟨Z, 2, none⟩ = some (.pointer p2) ∧ w.cell? ⟨Z, 3, none⟩ = some (.pointer p3) ∧ w.cell? ⟨Z, 4, none⟩ = some (.pointer p4) ∧ w.cell? ⟨Z, 5, none⟩ = some (.pointer p5) ∧ w.cell? ⟨Z, 6, none⟩ = some (.pointer p6) :=
  ⟨h.cells.c0, h.cells.c1, h.cells.c2, h.cells.c3, h.cells.c4, h.cells.c5, h.cells.c6⟩
theorem frozen_of {w : World} {Z : Nat} {t : TypeId} {p : Ptrs} (h : BoxAt w Z t p) :
    w.frozen? ⟨Z, 0, none⟩ = false ∧ w.frozen? ⟨Z, 1, none⟩ = false ∧ w.frozen? ⟨Z, 2, none⟩ = false ∧ w.frozen? ⟨Z, 3, none⟩ = false ∧ w.frozen? ⟨Z, 4, none⟩ = false ∧ w.frozen? ⟨Z, 5, none⟩ = false ∧ w.frozen? ⟨Z, 6, none⟩ = false :=
  ⟨h.frozen 0, h.frozen 1, h.frozen 2, h.frozen 3, h.frozen 4, h.frozen 5, h.frozen 6⟩

set_option maxHeartbeats 8000000 in
set_option maxRecDepth 100000 in
theorem law5_any (p q : Ptrs) (x y : EnvV) (w : World) (h1 : EnvIs w p x) (h2 : EnvIs w q y) :
    Calls Try.prog 5 #[p.val, q.val] w fun e w' => e = .returned (.bool true) ∧ Below w.heap.size w w' := by
  obtain ⟨p0, p1, p2, p3, p4, p5, p6⟩ := p
  obtain ⟨q0, q1, q2, q3, q4, q5, q6⟩ := q
  obtain ⟨W0, hW0⟩ : ∃ W0, (w.alloc (.cells #[.pointer p0, .pointer p1, .pointer p2, .pointer p3, .pointer p4, .pointer p5, .pointer p6] 26)).alloc (.cells #[.pointer q0, .pointer q1, .pointer q2, .pointer q3, .pointer q4, .pointer q5, .pointer q6] 26) = W0 := ⟨_, rfl⟩
  have bel0 : Below w.heap.size w W0 := by subst hW0; exact ((Below.refl _ _).alloc (Nat.le_refl _) _).alloc (by simp) _
  have bA : BoxAt W0 (w.heap.size) 26 ⟨p0, p1, p2, p3, p4, p5, p6⟩ := by subst hW0; exact box_old (box_new w 26 ⟨p0, p1, p2, p3, p4, p5, p6⟩) _
  have bB : BoxAt W0 (w.heap.size + 1) 26 ⟨q0, q1, q2, q3, q4, q5, q6⟩ := by
    subst hW0
    have := box_new (w.alloc (.cells #[.pointer p0, .pointer p1, .pointer p2, .pointer p3, .pointer p4, .pointer p5, .pointer p6] 26)) 26 ⟨q0, q1, q2, q3, q4, q5, q6⟩
    simpa [seven] using this
  have HI : Hid (∀ wx : World, Below W0.heap.size W0 wx → BoxAt wx (w.heap.size) 26 ⟨p0, p1, p2, p3, p4, p5, p6⟩ ∧ BoxAt wx (w.heap.size + 1) 26 ⟨q0, q1, q2, q3, q4, q5, q6⟩ ∧ EnvIs wx ⟨p0, p1, p2, p3, p4, p5, p6⟩ x ∧ EnvIs wx ⟨q0, q1, q2, q3, q4, q5, q6⟩ y ∧ Below w.heap.size w wx) := fun wx hb =>
    ⟨bA.below hb, bB.below hb, (h1.below bel0).below hb, (h2.below bel0).below hb, bel0.trans (hb.mono bel0.size)⟩
  have HC17 : Hid (Calls Try.prog 17 #[.agg #[.pointer p0, .pointer p1, .pointer p2, .pointer p3, .pointer p4, .pointer p5, .pointer p6], .agg #[.pointer q0, .pointer q1, .pointer q2, .pointer q3, .pointer q4, .pointer q5, .pointer q6]] W0 fun e w' => (∃ r : Bool, e = .returned (.bool r)) ∧ Below W0.heap.size W0 w') :=
    bytes17_any ⟨p0, p1, p2, p3, p4, p5, p6⟩ ⟨q0, q1, q2, q3, q4, q5, q6⟩ x y W0 (h1.below bel0) (h2.below bel0)
  have HP : Hid (∀ wx : World, Below W0.heap.size W0 wx → Calls Try.prog 10 #[.agg #[.pointer p0, .pointer p1, .pointer p2, .pointer p3, .pointer p4, .pointer p5, .pointer p6]] wx fun e w' => e = .returned (.int .i64 (envN x)) ∧ Below W0.heap.size W0 w') := fun wx hb =>
    (envSize_any ⟨p0, p1, p2, p3, p4, p5, p6⟩ x wx (HI.out wx hb).2.2.1).mono (fun e w' ⟨h1, h3⟩ => ⟨h1, hb.trans (h3.mono hb.size)⟩)
  have HQ : Hid (∀ wx : World, Below W0.heap.size W0 wx → Calls Try.prog 10 #[.agg #[.pointer q0, .pointer q1, .pointer q2, .pointer q3, .pointer q4, .pointer q5, .pointer q6]] wx fun e w' => e = .returned (.int .i64 (envN y)) ∧ Below W0.heap.size W0 w') := fun wx hb =>
    (envSize_any ⟨q0, q1, q2, q3, q4, q5, q6⟩ y wx (HI.out wx hb).2.2.2.1).mono (fun e w' ⟨h1, h3⟩ => ⟨h1, hb.trans (h3.mono hb.size)⟩)
  have HS : Hid (∀ wx : World, Calls Try.prog 9 #[.int .i64 (envN x), .int .i64 (envN y)] wx fun e w' => e = .returned (.int .i64 (satAdd (envN x) (envN y))) ∧ w' = wx) := fun wx => add_any _ _ wx
  have HF : Hid (satAdd (envN x) (envN y) ≤ 1048576 → x.Fits ∧ y.Fits) := fun h => ⟨envN_fits (satAdd_fits h).1, envN_fits (satAdd_fits h).2⟩
  generalize envN x = NX at *
  generalize envN y = NY at *
  generalize satAdd NX NY = NS at *
  have hne : w.heap.size ≠ w.heap.size + 1 := by omega
  have hne' : w.heap.size + 1 ≠ w.heap.size := by omega
  clear h1 h2 bel0 bA bB
  obtain ⟨a0, a1, a2, a3, a4, a5, a6⟩ := cells_of (HI.out W0 (Below.refl _ _)).1
  obtain ⟨b0, b1, b2, b3, b4, b5, b6⟩ := cells_of (HI.out W0 (Below.refl _ _)).2.1
  unfold Ptrs.val
  go_enter Try.func5, Try.ntmps5
  go_wp2_with fail
  clear hW0 a0 a1 a2 a3 a4 a5 a6 b0 b1 b2 b3 b4 b5 b6
  refine HC17.out.mono ?_
  rintro e w1 ⟨⟨r, rfl⟩, hb1⟩
  cases r
  · go_wp2_with fail
    go_ret
    exact ⟨rfl, (HI.out _ hb1).2.2.2.2⟩
  obtain ⟨a0, a1, a2, a3, a4, a5, a6⟩ := cells_of (HI.out w1 hb1).1
  obtain ⟨b0, b1, b2, b3, b4, b5, b6⟩ := cells_of (HI.out w1 hb1).2.1
  have hb1d : Below W0.heap.size W0 w1.drew := hb1.drew
  by_cases hT : 1048576 < NS
  · go_wp2_with fail
    go_region_held3 (fun w' => w'.cell? ⟨w.heap.size, 0, none⟩ = some (.pointer p0) ∧ w'.cell? ⟨w.heap.size, 1, none⟩ = some (.pointer p1) ∧ w'.cell? ⟨w.heap.size, 2, none⟩ = some (.pointer p2) ∧ w'.cell? ⟨w.heap.size, 3, none⟩ = some (.pointer p3) ∧ w'.cell? ⟨w.heap.size, 4, none⟩ = some (.pointer p4) ∧ w'.cell? ⟨w.heap.size, 5, none⟩ = some (.pointer p5) ∧ w'.cell? ⟨w.heap.size, 6, none⟩ = some (.pointer p6) ∧ w'.cell? ⟨w.heap.size + 1, 0, none⟩ = some (.pointer q0) ∧ w'.cell? ⟨w.heap.size + 1, 1, none⟩ = some (.pointer q1) ∧ w'.cell? ⟨w.heap.size + 1, 2, none⟩ = some (.pointer q2) ∧ w'.cell? ⟨w.heap.size + 1, 3, none⟩ = some (.pointer q3) ∧ w'.cell? ⟨w.heap.size + 1, 4, none⟩ = some (.pointer q4) ∧ w'.cell? ⟨w.heap.size + 1, 5, none⟩ = some (.pointer q5) ∧ w'.cell? ⟨w.heap.size + 1, 6, none⟩ = some (.pointer q6)) (go_keep)
      (first
        | (go_at_call_of 10 (Value.agg #[Value.pointer p0, Value.pointer p1, Value.pointer p2, Value.pointer p3, Value.pointer p4, Value.pointer p5, Value.pointer p6]); refine (HP.out _ (by assumption)).mono ?_; rintro e w2 ⟨rfl, hw2⟩; obtain ⟨k0, k1, k2, k3, k4, k5, k6⟩ := cells_of (HI.out w2 hw2).1; obtain ⟨k0b, k1b, k2b, k3b, k4b, k5b, k6b⟩ := cells_of (HI.out w2 hw2).2.1)
        | (go_at_call_of 10 (Value.agg #[Value.pointer q0, Value.pointer q1, Value.pointer q2, Value.pointer q3, Value.pointer q4, Value.pointer q5, Value.pointer q6]); refine (HQ.out _ (by assumption)).mono ?_; rintro e w3 ⟨rfl, hw3⟩; obtain ⟨l0, l1, l2, l3, l4, l5, l6⟩ := cells_of (HI.out w3 hw3).1; obtain ⟨l0b, l1b, l2b, l3b, l4b, l5b, l6b⟩ := cells_of (HI.out w3 hw3).2.1)
        | (go_at_call 9; refine (HS.out _).mono ?_; rintro e w4 ⟨rfl, hw4⟩; subst w4))
    go_wp2_with fail
    go_ret
    exact ⟨rfl, (HI.out _ hw3).2.2.2.2⟩
  go_wp2_with fail
  go_region_held3 (fun w' => w'.cell? ⟨w.heap.size, 0, none⟩ = some (.pointer p0) ∧ w'.cell? ⟨w.heap.size, 1, none⟩ = some (.pointer p1) ∧ w'.cell? ⟨w.heap.size, 2, none⟩ = some (.pointer p2) ∧ w'.cell? ⟨w.heap.size, 3, none⟩ = some (.pointer p3) ∧ w'.cell? ⟨w.heap.size, 4, none⟩ = some (.pointer p4) ∧ w'.cell? ⟨w.heap.size, 5, none⟩ = some (.pointer p5) ∧ w'.cell? ⟨w.heap.size, 6, none⟩ = some (.pointer p6) ∧ w'.cell? ⟨w.heap.size + 1, 0, none⟩ = some (.pointer q0) ∧ w'.cell? ⟨w.heap.size + 1, 1, none⟩ = some (.pointer q1) ∧ w'.cell? ⟨w.heap.size + 1, 2, none⟩ = some (.pointer q2) ∧ w'.cell? ⟨w.heap.size + 1, 3, none⟩ = some (.pointer q3) ∧ w'.cell? ⟨w.heap.size + 1, 4, none⟩ = some (.pointer q4) ∧ w'.cell? ⟨w.heap.size + 1, 5, none⟩ = some (.pointer q5) ∧ w'.cell? ⟨w.heap.size + 1, 6, none⟩ = some (.pointer q6)) (go_keep)
    (first
      | (go_at_call_of 10 (Value.agg #[Value.pointer p0, Value.pointer p1, Value.pointer p2, Value.pointer p3, Value.pointer p4, Value.pointer p5, Value.pointer p6]); refine (HP.out _ (by assumption)).mono ?_; rintro e w2 ⟨rfl, hw2⟩; obtain ⟨k0, k1, k2, k3, k4, k5, k6⟩ := cells_of (HI.out w2 hw2).1; obtain ⟨k0b, k1b, k2b, k3b, k4b, k5b, k6b⟩ := cells_of (HI.out w2 hw2).2.1)
      | (go_at_call_of 10 (Value.agg #[Value.pointer q0, Value.pointer q1, Value.pointer q2, Value.pointer q3, Value.pointer q4, Value.pointer q5, Value.pointer q6]); refine (HQ.out _ (by assumption)).mono ?_; rintro e w3 ⟨rfl, hw3⟩; obtain ⟨l0, l1, l2, l3, l4, l5, l6⟩ := cells_of (HI.out w3 hw3).1; obtain ⟨l0b, l1b, l2b, l3b, l4b, l5b, l6b⟩ := cells_of (HI.out w3 hw3).2.1)
      | (go_at_call 9; refine (HS.out _).mono ?_; rintro e w4 ⟨rfl, hw4⟩; subst w4))
  have hfit := HF.out (by omega)
  have hI3 := HI.out w3 hw3
  have HC11 : Hid (Calls Try.prog 11 #[.agg #[.pointer p0, .pointer p1, .pointer p2, .pointer p3, .pointer p4, .pointer p5, .pointer p6]] w3 fun e w' => ∃ r0 r1 r2 r3 r4 r5 r6, e = .returned (.agg #[.pointer r0, .pointer r1, .pointer r2, .pointer r3, .pointer r4, .pointer r5, .pointer r6]) ∧ EnvIs w' ⟨r0, r1, r2, r3, r4, r5, r6⟩ x ∧ Below W0.heap.size W0 w') :=
    (copyEnv_any ⟨p0, p1, p2, p3, p4, p5, p6⟩ x w3 hI3.2.2.1 hfit.1).mono (fun e w' ⟨q, h1, h2, h3⟩ => ⟨q.cls, q.ven, q.mod, q.lay, q.idx, q.ins, q.grp, h1, h2, hw3.trans (h3.mono hw3.size)⟩)
  have HFY : Hid (x.Fits ∧ y.Fits) := hfit
  clear hI3 hfit
  go_wp2_with fail
  refine HC11.out.mono ?_
  clear a0 b0 k0 k0b l0 l0b a1 b1 k1 k1b l1 l1b a2 b2 k2 k2b l2 l2b a3 b3 k3 k3b l3 l3b a4 b4 k4 k4b l4 l4b a5 b5 k5 k5b l5 l5b a6 b6 k6 k6b l6 l6b hb1 hb1d hw2 hw3 HC11 HP HQ HS HF HC17
  rintro e w4 ⟨r0, r1, r2, r3, r4, r5, r6, rfl, hE4, hb4⟩
  obtain ⟨bA4, bB4, _, eQ4, bel4⟩ := HI.out w4 hb4
  obtain ⟨W5, hW5⟩ : ∃ W5, put7 w4 (w.heap.size) ⟨r0, r1, r2, r3, r4, r5, r6⟩ = W5 := ⟨_, rfl⟩
  have H5 : Hid (BoxAt W5 (w.heap.size) 26 ⟨r0, r1, r2, r3, r4, r5, r6⟩ ∧ BoxAt W5 (w.heap.size + 1) 26 ⟨q0, q1, q2, q3, q4, q5, q6⟩ ∧ EnvIs W5 ⟨r0, r1, r2, r3, r4, r5, r6⟩ x ∧ EnvIs W5 ⟨q0, q1, q2, q3, q4, q5, q6⟩ y ∧ Below w.heap.size w W5) := by
    subst hW5
    exact ⟨bA4.put _, bB4.off (put_off _ _ _) hne', hE4.off bA4.only (put_off _ _ _), eQ4.off bA4.only (put_off _ _ _), put_below bel4 (Nat.le_refl _) _⟩
  obtain ⟨a0, a1, a2, a3, a4, a5, a6⟩ := cells_of bA4
  obtain ⟨f0, f1, f2, f3, f4, f5, f6⟩ := frozen_of bA4
  obtain ⟨b0, b1, b2, b3, b4, b5, b6⟩ := cells_of H5.out.2.1
  unfold put7 at hW5
  dsimp only at hW5
  clear bA4 bB4 eQ4 bel4 hE4 hb4 HI
  go_wp2_with fail
  clear hW5 a0 b0 f0 a1 b1 f1 a2 b2 f2 a3 b3 f3 a4 b4 f4 a5 b5 f5 a6 b6 f6
  obtain ⟨bA5, bB5, eP5, eQ5, bel5⟩ := H5.out
  refine (copyEnv_any ⟨q0, q1, q2, q3, q4, q5, q6⟩ y W5 eQ5 HFY.out.2).mono ?_
  clear H5
  rintro e w6 ⟨⟨s0, s1, s2, s3, s4, s5, s6⟩, rfl, hE6, hb6⟩
  obtain ⟨W7, hW7⟩ : ∃ W7, put7 w6 (w.heap.size + 1) ⟨s0, s1, s2, s3, s4, s5, s6⟩ = W7 := ⟨_, rfl⟩
  have H7 : Hid (BoxAt W7 (w.heap.size) 26 ⟨r0, r1, r2, r3, r4, r5, r6⟩ ∧ BoxAt W7 (w.heap.size + 1) 26 ⟨s0, s1, s2, s3, s4, s5, s6⟩ ∧ EnvIs W7 ⟨r0, r1, r2, r3, r4, r5, r6⟩ x ∧ EnvIs W7 ⟨s0, s1, s2, s3, s4, s5, s6⟩ y ∧ Below w.heap.size w W7) := by
    subst hW7
    have bB6 := bB5.below hb6
    exact ⟨(bA5.below hb6).off (put_off _ _ _) hne, bB6.put _, (eP5.below hb6).off bB6.only (put_off _ _ _), hE6.off bB6.only (put_off _ _ _), put_below (bel5.trans (hb6.mono bel5.size)) (Nat.le_succ _) _⟩
  obtain ⟨b0, b1, b2, b3, b4, b5, b6⟩ := cells_of (bB5.below hb6)
  obtain ⟨f0, f1, f2, f3, f4, f5, f6⟩ := frozen_of (bB5.below hb6)
  obtain ⟨a0, a1, a2, a3, a4, a5, a6⟩ := cells_of H7.out.1
  unfold put7 at hW7
  dsimp only at hW7
  clear bA5 bB5 eP5 eQ5 bel5 hE6 hb6
  unfold Ptrs.val
  go_wp2_with fail
  clear hW7 a0 b0 f0 a1 b1 f1 a2 b2 f2 a3 b3 f3 a4 b4 f4 a5 b5 f5 a6 b6 f6
  obtain ⟨bA7, bB7, eP7, eQ7, bel7⟩ := H7.out
  refine (toEnv_any ⟨r0, r1, r2, r3, r4, r5, r6⟩ x W7 eP7).mono ?_
  clear H7
  rintro e w8 ⟨⟨t0, t1, t2, t3, t4, t5, t6⟩, rfl, hE8, hb8⟩
  obtain ⟨W9, hW9⟩ : ∃ W9, w8.alloc (.cells #[.pointer t0, .pointer t1, .pointer t2, .pointer t3, .pointer t4, .pointer t5, .pointer t6] 34) = W9 := ⟨_, rfl⟩
  have H9 : Hid (BoxAt W9 (w.heap.size) 26 ⟨r0, r1, r2, r3, r4, r5, r6⟩ ∧ BoxAt W9 (w.heap.size + 1) 26 ⟨s0, s1, s2, s3, s4, s5, s6⟩ ∧ BoxAt W9 w8.heap.size 34 ⟨t0, t1, t2, t3, t4, t5, t6⟩ ∧ EnvIs W9 ⟨r0, r1, r2, r3, r4, r5, r6⟩ x ∧ EnvIs W9 ⟨s0, s1, s2, s3, s4, s5, s6⟩ y ∧ EnvIs W9 ⟨t0, t1, t2, t3, t4, t5, t6⟩ x ∧ Below w.heap.size w W9) := by
    subst hW9
    have bel8 := bel7.trans (hb8.mono bel7.size)
    have bn : Below w8.heap.size w8 (w8.alloc (.cells #[.pointer t0, .pointer t1, .pointer t2, .pointer t3, .pointer t4, .pointer t5, .pointer t6] 34)) := (Below.refl _ _).alloc (Nat.le_refl _) _
    exact ⟨(bA7.below hb8).below bn, (bB7.below hb8).below bn, box_new w8 34 ⟨t0, t1, t2, t3, t4, t5, t6⟩, (eP7.below hb8).below bn, (eQ7.below hb8).below bn, hE8.below bn, bel8.trans (bn.mono bel8.size)⟩
  obtain ⟨b0, b1, b2, b3, b4, b5, b6⟩ := cells_of H9.out.2.1
  clear bA7 bB7 eP7 eQ7 bel7 hE8 hb8
  unfold Ptrs.val
  go_wp2_with fail
  clear hW9 b0 b1 b2 b3 b4 b5 b6
  generalize w8.heap.size = ZC at *
  obtain ⟨bA9, bB9, bC9, eP9, eQ9, eR9, bel9⟩ := H9.out
  refine (toEnv_any ⟨s0, s1, s2, s3, s4, s5, s6⟩ y W9 eQ9).mono ?_
  clear H9
  rintro e w10 ⟨⟨u0, u1, u2, u3, u4, u5, u6⟩, rfl, hE10, hb10⟩
  obtain ⟨W12, hW12⟩ : ∃ W12, (w10.alloc (.cells #[.pointer u0, .pointer u1, .pointer u2, .pointer u3, .pointer u4, .pointer u5, .pointer u6] 34)).alloc (.cells #[.pointer none, .pointer none, .pointer none, .pointer none, .pointer none, .pointer none, .pointer none] 34) = W12 := ⟨_, rfl⟩
  have H12 : Hid (BoxAt W12 (w.heap.size) 26 ⟨r0, r1, r2, r3, r4, r5, r6⟩ ∧ BoxAt W12 (w.heap.size + 1) 26 ⟨s0, s1, s2, s3, s4, s5, s6⟩ ∧ BoxAt W12 ZC 34 ⟨t0, t1, t2, t3, t4, t5, t6⟩ ∧ BoxAt W12 w10.heap.size 34 ⟨u0, u1, u2, u3, u4, u5, u6⟩ ∧ BoxAt W12 (w10.heap.size + 1) 34 Ptrs.none ∧ EnvIs W12 ⟨r0, r1, r2, r3, r4, r5, r6⟩ x ∧ EnvIs W12 ⟨s0, s1, s2, s3, s4, s5, s6⟩ y ∧ EnvIs W12 ⟨t0, t1, t2, t3, t4, t5, t6⟩ x ∧ EnvIs W12 ⟨u0, u1, u2, u3, u4, u5, u6⟩ y ∧ Below w.heap.size w W12) := by
    subst hW12
    have bel10 := bel9.trans (hb10.mono bel9.size)
    have bn : Below w10.heap.size w10 ((w10.alloc (.cells #[.pointer u0, .pointer u1, .pointer u2, .pointer u3, .pointer u4, .pointer u5, .pointer u6] 34)).alloc (.cells #[.pointer none, .pointer none, .pointer none, .pointer none, .pointer none, .pointer none, .pointer none] 34)) := ((Below.refl _ _).alloc (Nat.le_refl _) _).alloc (by simp) _
    have hN := box_new (w10.alloc (.cells #[.pointer u0, .pointer u1, .pointer u2, .pointer u3, .pointer u4, .pointer u5, .pointer u6] 34)) 34 Ptrs.none
    exact ⟨(bA9.below hb10).below bn, (bB9.below hb10).below bn, (bC9.below hb10).below bn, box_old (box_new w10 34 ⟨u0, u1, u2, u3, u4, u5, u6⟩) _, by simpa [seven, Ptrs.none] using hN, (eP9.below hb10).below bn, (eQ9.below hb10).below bn, (eR9.below hb10).below bn, hE10.below bn, bel10.trans (bn.mono bel10.size)⟩
  clear bA9 bB9 bC9 eP9 eQ9 eR9 bel9 hE10 hb10
  unfold Ptrs.val
  go_upto_region 10 with fail
  clear hW12
  generalize w10.heap.size = ZD at *
  have HI2 : Hid (∀ wx : World, Below W12.heap.size W12 wx → BoxAt wx (w.heap.size) 26 ⟨r0, r1, r2, r3, r4, r5, r6⟩ ∧ BoxAt wx (w.heap.size + 1) 26 ⟨s0, s1, s2, s3, s4, s5, s6⟩ ∧ BoxAt wx ZC 34 ⟨t0, t1, t2, t3, t4, t5, t6⟩ ∧ BoxAt wx ZD 34 ⟨u0, u1, u2, u3, u4, u5, u6⟩ ∧ BoxAt wx (ZD + 1) 34 ⟨none, none, none, none, none, none, none⟩ ∧ Below w.heap.size w wx) := by
    obtain ⟨h1, h2, h3, h4, h5, _, _, _, _, h10⟩ := H12.out
    exact fun wx hb => ⟨h1.below hb, h2.below hb, h3.below hb, h4.below hb, BoxAt.below (p := Ptrs.none) h5 hb, h10.trans (hb.mono h10.size)⟩
  have HC1 : Hid (∀ wx : World, Below W12.heap.size W12 wx → Calls Try.prog 12 #[.agg #[.pointer t0, .pointer t1, .pointer t2, .pointer t3, .pointer t4, .pointer t5, .pointer t6], .agg #[.pointer u0, .pointer u1, .pointer u2, .pointer u3, .pointer u4, .pointer u5, .pointer u6]] wx fun e w' => e = .returned (.bool (contB x y)) ∧ Below W12.heap.size W12 w') := fun wx hb =>
    (zzContains_any ⟨t0, t1, t2, t3, t4, t5, t6⟩ ⟨u0, u1, u2, u3, u4, u5, u6⟩ x y wx (H12.out.2.2.2.2.2.2.2.1.below hb) (H12.out.2.2.2.2.2.2.2.2.1.below hb)).mono (fun e w' ⟨h1, h3⟩ => ⟨h1, hb.trans (h3.mono hb.size)⟩)
  have HC2 : Hid (∀ wx : World, Below W12.heap.size W12 wx → Calls Try.prog 12 #[.agg #[.pointer u0, .pointer u1, .pointer u2, .pointer u3, .pointer u4, .pointer u5, .pointer u6], .agg #[.pointer t0, .pointer t1, .pointer t2, .pointer t3, .pointer t4, .pointer t5, .pointer t6]] wx fun e w' => e = .returned (.bool (contB y x)) ∧ Below W12.heap.size W12 w') := fun wx hb =>
    (zzContains_any ⟨u0, u1, u2, u3, u4, u5, u6⟩ ⟨t0, t1, t2, t3, t4, t5, t6⟩ y x wx (H12.out.2.2.2.2.2.2.2.2.1.below hb) (H12.out.2.2.2.2.2.2.2.1.below hb)).mono (fun e w' ⟨h1, h3⟩ => ⟨h1, hb.trans (h3.mono hb.size)⟩)
  have HC3 : Hid (∀ wx : World, Below W12.heap.size W12 wx → Calls Try.prog 14 #[.agg #[.pointer r0, .pointer r1, .pointer r2, .pointer r3, .pointer r4, .pointer r5, .pointer r6], .agg #[.pointer s0, .pointer s1, .pointer s2, .pointer s3, .pointer s4, .pointer s5, .pointer s6]] wx fun e w' => e = .returned (.bool (sameB x y)) ∧ Below W12.heap.size W12 w') := fun wx hb =>
    (sameEnv_any ⟨r0, r1, r2, r3, r4, r5, r6⟩ ⟨s0, s1, s2, s3, s4, s5, s6⟩ x y wx (H12.out.2.2.2.2.2.1.below hb) (H12.out.2.2.2.2.2.2.1.below hb) HFY.out.1).mono (fun e w' ⟨h1, h3⟩ => ⟨h1, hb.trans (h3.mono hb.size)⟩)
  have HC4 : Hid (∀ wx : World, Below W12.heap.size W12 wx → Calls Try.prog 12 #[.agg #[.pointer t0, .pointer t1, .pointer t2, .pointer t3, .pointer t4, .pointer t5, .pointer t6], .agg #[.pointer none, .pointer none, .pointer none, .pointer none, .pointer none, .pointer none, .pointer none]] wx fun e w' => e = .returned (.bool true) ∧ Below W12.heap.size W12 w') := fun wx hb =>
    (zzContains_any ⟨t0, t1, t2, t3, t4, t5, t6⟩ Ptrs.none x EnvV.none wx (H12.out.2.2.2.2.2.2.2.1.below hb) (EnvIs.none wx)).mono (fun e w' ⟨h1, h3⟩ => ⟨h1.trans (by rw [cont_none]), hb.trans (h3.mono hb.size)⟩)
  have HC5 : Hid (∀ wx : World, Below W12.heap.size W12 wx → Calls Try.prog 12 #[.agg #[.pointer none, .pointer none, .pointer none, .pointer none, .pointer none, .pointer none, .pointer none], .agg #[.pointer u0, .pointer u1, .pointer u2, .pointer u3, .pointer u4, .pointer u5, .pointer u6]] wx fun e w' => e = .returned (.bool (sameB y EnvV.none)) ∧ Below W12.heap.size W12 w') := fun wx hb =>
    (zzContains_any Ptrs.none ⟨u0, u1, u2, u3, u4, u5, u6⟩ EnvV.none y wx (EnvIs.none wx) (H12.out.2.2.2.2.2.2.2.2.1.below hb)).mono (fun e w' ⟨h1, h3⟩ => ⟨h1.trans (by rw [none_cont]), hb.trans (h3.mono hb.size)⟩)
  have HC6 : Hid (∀ wx : World, Below W12.heap.size W12 wx → Calls Try.prog 14 #[.agg #[.pointer s0, .pointer s1, .pointer s2, .pointer s3, .pointer s4, .pointer s5, .pointer s6], .agg #[.pointer none, .pointer none, .pointer none, .pointer none, .pointer none, .pointer none, .pointer none]] wx fun e w' => e = .returned (.bool (sameB y EnvV.none)) ∧ Below W12.heap.size W12 w') := fun wx hb =>
    (sameEnv_any ⟨s0, s1, s2, s3, s4, s5, s6⟩ Ptrs.none y EnvV.none wx (H12.out.2.2.2.2.2.2.1.below hb) (EnvIs.none wx) HFY.out.2).mono (fun e w' ⟨h1, h3⟩ => ⟨h1, hb.trans (h3.mono hb.size)⟩)
  have HM : Hid ((contB x y && contB y x) = sameB x y) := mutual_law x y
  have HX : Hid (∀ wx : World, Below W12.heap.size W12 wx → (wx.cell? ⟨w.heap.size, 0, none⟩ = some (.pointer r0) ∧ wx.cell? ⟨w.heap.size, 1, none⟩ = some (.pointer r1) ∧ wx.cell? ⟨w.heap.size, 2, none⟩ = some (.pointer r2) ∧ wx.cell? ⟨w.heap.size, 3, none⟩ = some (.pointer r3) ∧ wx.cell? ⟨w.heap.size, 4, none⟩ = some (.pointer r4) ∧ wx.cell? ⟨w.heap.size, 5, none⟩ = some (.pointer r5) ∧ wx.cell? ⟨w.heap.size, 6, none⟩ = some (.pointer r6)) ∧ (wx.cell? ⟨w.heap.size + 1, 0, none⟩ = some (.pointer s0) ∧ wx.cell? ⟨w.heap.size + 1, 1, none⟩ = some (.pointer s1) ∧ wx.cell? ⟨w.heap.size + 1, 2, none⟩ = some (.pointer s2) ∧ wx.cell? ⟨w.heap.size + 1, 3, none⟩ = some (.pointer s3) ∧ wx.cell? ⟨w.heap.size + 1, 4, none⟩ = some (.pointer s4) ∧ wx.cell? ⟨w.heap.size + 1, 5, none⟩ = some (.pointer s5) ∧ wx.cell? ⟨w.heap.size + 1, 6, none⟩ = some (.pointer s6)) ∧ (wx.cell? ⟨ZC, 0, none⟩ = some (.pointer t0) ∧ wx.cell? ⟨ZC, 1, none⟩ = some (.pointer t1) ∧ wx.cell? ⟨ZC, 2, none⟩ = some (.pointer t2) ∧ wx.cell? ⟨ZC, 3, none⟩ = some (.pointer t3) ∧ wx.cell? ⟨ZC, 4, none⟩ = some (.pointer t4) ∧ wx.cell? ⟨ZC, 5, none⟩ = some (.pointer t5) ∧ wx.cell? ⟨ZC, 6, none⟩ = some (.pointer t6)) ∧ (wx.cell? ⟨ZD, 0, none⟩ = some (.pointer u0) ∧ wx.cell? ⟨ZD, 1, none⟩ = some (.pointer u1) ∧ wx.cell? ⟨ZD, 2, none⟩ = some (.pointer u2) ∧ wx.cell? ⟨ZD, 3, none⟩ = some (.pointer u3) ∧ wx.cell? ⟨ZD, 4, none⟩ = some (.pointer u4) ∧ wx.cell? ⟨ZD, 5, none⟩ = some (.pointer u5) ∧ wx.cell? ⟨ZD, 6, none⟩ = some (.pointer u6))) := fun wx hb =>
    ⟨cells_of (HI2.out wx hb).1, cells_of (HI2.out wx hb).2.1, cells_of (HI2.out wx hb).2.2.1, cells_of (HI2.out wx hb).2.2.2.1⟩
  clear H12 HFY
  generalize contB x y = B1 at *
  generalize contB y x = B2 at *
  generalize sameB x y = B3 at *
  generalize sameB y EnvV.none = B4 at *
  have hb12 : Below W12.heap.size W12 W12.drew := (Below.refl _ _).drew
  go_cut [37] (fun s wx => s = .bool false ∧ Below W12.heap.size W12 wx)
  case first =>
    have hm := HM.out
    obtain ⟨⟨a0, a1, a2, a3, a4, a5, a6⟩, ⟨b0, b1, b2, b3, b4, b5, b6⟩, ⟨c0, c1, c2, c3, c4, c5, c6⟩, ⟨d0, d1, d2, d3, d4, d5, d6⟩⟩ := HX.out W12 (Below.refl _ _)
    cases B1
    · have hb3 : B3 = false := hm.symm
      subst hb3
      clear hm
      refine wp_region_class (C := fun wx => Below W12.heap.size W12 wx) (by kernel_rfl) (by kernel_rfl) hb12 ?_
      refine Go.BigFrame.wpQuiet_want (by rfl) (fun K hK => ⟨Value.agg #[Value.pointer t0, Value.pointer t1, Value.pointer t2, Value.pointer t3, Value.pointer t4, Value.pointer t5, Value.pointer t6], fun wx hx => ?_, hK _ ?_⟩)
      · (obtain ⟨_, _, ⟨z0, z1, z2, z3, z4, z5, z6⟩, _⟩ := HX.out wx hx; go_simp)
      clear hK K
      simp only [Act.put, List.setIfInBounds_toArray, List.set_cons_zero, List.set_cons_succ]
      refine Go.BigFrame.wpQuiet_want (by rfl) (fun K hK => ⟨Value.agg #[Value.pointer u0, Value.pointer u1, Value.pointer u2, Value.pointer u3, Value.pointer u4, Value.pointer u5, Value.pointer u6], fun wx hx => ?_, hK _ ?_⟩)
      · (obtain ⟨_, _, _, ⟨z0, z1, z2, z3, z4, z5, z6⟩⟩ := HX.out wx hx; go_simp)
      clear hK K
      simp only [Act.put, List.setIfInBounds_toArray, List.set_cons_zero, List.set_cons_succ]
      refine Go.BigFrame.wpQuiet_want (by rfl) (fun K hK => ⟨Value.bool false, fun wx hx => ?_, hK _ ?_⟩)
      · (go_simp; exact HC1.out wx hx)
      clear hK K
      simp only [Act.put, List.setIfInBounds_toArray, List.set_cons_zero, List.set_cons_succ]
      refine Go.BigFrame.wpQuiet_want (by rfl) (fun K hK => ⟨Value.bool false, fun wx hx => ?_, hK _ ?_⟩)
      · go_simp
      clear hK K
      simp only [Act.put, List.setIfInBounds_toArray, List.set_cons_zero, List.set_cons_succ]
      refine Go.BigFrame.wpQuiet_skip (by rfl) ?_
      simp only [Act.put, List.setIfInBounds_toArray, List.set_cons_zero, List.set_cons_succ]
      refine Go.BigFrame.wpQuiet_skip (by rfl) ?_
      simp only [Act.put, List.setIfInBounds_toArray, List.set_cons_zero, List.set_cons_succ]
      refine Go.BigFrame.wpQuiet_skip (by rfl) ?_
      simp only [Act.put, List.setIfInBounds_toArray, List.set_cons_zero, List.set_cons_succ]
      refine Go.BigFrame.wpQuiet_want (by rfl) (fun K hK => ⟨Value.bool false, fun wx hx => ?_, hK _ ?_⟩)
      · go_simp
      clear hK K
      simp only [Act.put, List.setIfInBounds_toArray, List.set_cons_zero, List.set_cons_succ]
      refine Go.BigFrame.wpQuiet_want (by rfl) (fun K hK => ⟨Value.agg #[Value.pointer r0, Value.pointer r1, Value.pointer r2, Value.pointer r3, Value.pointer r4, Value.pointer r5, Value.pointer r6], fun wx hx => ?_, hK _ ?_⟩)
      · (obtain ⟨⟨z0, z1, z2, z3, z4, z5, z6⟩, _, _, _⟩ := HX.out wx hx; go_simp)
      clear hK K
      simp only [Act.put, List.setIfInBounds_toArray, List.set_cons_zero, List.set_cons_succ]
      refine Go.BigFrame.wpQuiet_want (by rfl) (fun K hK => ⟨Value.agg #[Value.pointer s0, Value.pointer s1, Value.pointer s2, Value.pointer s3, Value.pointer s4, Value.pointer s5, Value.pointer s6], fun wx hx => ?_, hK _ ?_⟩)
      · (obtain ⟨_, ⟨z0, z1, z2, z3, z4, z5, z6⟩, _, _⟩ := HX.out wx hx; go_simp)
      clear hK K
      simp only [Act.put, List.setIfInBounds_toArray, List.set_cons_zero, List.set_cons_succ]
      refine Go.BigFrame.wpQuiet_want (by rfl) (fun K hK => ⟨Value.bool false, fun wx hx => ?_, hK _ ?_⟩)
      · (go_simp; exact HC3.out wx hx)
      clear hK K
      simp only [Act.put, List.setIfInBounds_toArray, List.set_cons_zero, List.set_cons_succ]
      refine Go.BigFrame.wpQuiet_want (by rfl) (fun K hK => ⟨Value.bool false, fun wx hx => ?_, hK _ ?_⟩)
      · go_simp
      clear hK K
      simp only [Act.put, List.setIfInBounds_toArray, List.set_cons_zero, List.set_cons_succ]
      refine wpQuiet_nil ?_
      intro wz hwz
      go_wp2_with fail
      go_meet
      exact ⟨rfl, hwz⟩
    · have hb3 : B3 = B2 := hm.symm
      subst hb3
      clear hm
      cases B3
      · go_region_held3 (fun w' => w'.cell? ⟨w.heap.size, 0, none⟩ = some (.pointer r0) ∧ w'.cell? ⟨w.heap.size, 1, none⟩ = some (.pointer r1) ∧ w'.cell? ⟨w.heap.size, 2, none⟩ = some (.pointer r2) ∧ w'.cell? ⟨w.heap.size, 3, none⟩ = some (.pointer r3) ∧ w'.cell? ⟨w.heap.size, 4, none⟩ = some (.pointer r4) ∧ w'.cell? ⟨w.heap.size, 5, none⟩ = some (.pointer r5) ∧ w'.cell? ⟨w.heap.size, 6, none⟩ = some (.pointer r6) ∧ w'.cell? ⟨w.heap.size + 1, 0, none⟩ = some (.pointer s0) ∧ w'.cell? ⟨w.heap.size + 1, 1, none⟩ = some (.pointer s1) ∧ w'.cell? ⟨w.heap.size + 1, 2, none⟩ = some (.pointer s2) ∧ w'.cell? ⟨w.heap.size + 1, 3, none⟩ = some (.pointer s3) ∧ w'.cell? ⟨w.heap.size + 1, 4, none⟩ = some (.pointer s4) ∧ w'.cell? ⟨w.heap.size + 1, 5, none⟩ = some (.pointer s5) ∧ w'.cell? ⟨w.heap.size + 1, 6, none⟩ = some (.pointer s6) ∧ w'.cell? ⟨ZC, 0, none⟩ = some (.pointer t0) ∧ w'.cell? ⟨ZC, 1, none⟩ = some (.pointer t1) ∧ w'.cell? ⟨ZC, 2, none⟩ = some (.pointer t2) ∧ w'.cell? ⟨ZC, 3, none⟩ = some (.pointer t3) ∧ w'.cell? ⟨ZC, 4, none⟩ = some (.pointer t4) ∧ w'.cell? ⟨ZC, 5, none⟩ = some (.pointer t5) ∧ w'.cell? ⟨ZC, 6, none⟩ = some (.pointer t6) ∧ w'.cell? ⟨ZD, 0, none⟩ = some (.pointer u0) ∧ w'.cell? ⟨ZD, 1, none⟩ = some (.pointer u1) ∧ w'.cell? ⟨ZD, 2, none⟩ = some (.pointer u2) ∧ w'.cell? ⟨ZD, 3, none⟩ = some (.pointer u3) ∧ w'.cell? ⟨ZD, 4, none⟩ = some (.pointer u4) ∧ w'.cell? ⟨ZD, 5, none⟩ = some (.pointer u5) ∧ w'.cell? ⟨ZD, 6, none⟩ = some (.pointer u6)) (go_keep)
          (first
            | (go_at_call_of 12 (Value.agg #[Value.pointer t0, Value.pointer t1, Value.pointer t2, Value.pointer t3, Value.pointer t4, Value.pointer t5, Value.pointer t6]); refine (HC1.out _ (by assumption)).mono ?_; rintro e wx1 ⟨rfl, hwx1⟩; obtain ⟨⟨ax0, ax1, ax2, ax3, ax4, ax5, ax6⟩, ⟨bx0, bx1, bx2, bx3, bx4, bx5, bx6⟩, ⟨cx0, cx1, cx2, cx3, cx4, cx5, cx6⟩, ⟨dx0, dx1, dx2, dx3, dx4, dx5, dx6⟩⟩ := HX.out _ hwx1)
            | (go_at_call_of 12 (Value.agg #[Value.pointer u0, Value.pointer u1, Value.pointer u2, Value.pointer u3, Value.pointer u4, Value.pointer u5, Value.pointer u6]); refine (HC2.out _ (by assumption)).mono ?_; rintro e wx2 ⟨rfl, hwx2⟩; obtain ⟨⟨ay0, ay1, ay2, ay3, ay4, ay5, ay6⟩, ⟨by0, by1, by2, by3, by4, by5, by6⟩, ⟨cy0, cy1, cy2, cy3, cy4, cy5, cy6⟩, ⟨dy0, dy1, dy2, dy3, dy4, dy5, dy6⟩⟩ := HX.out _ hwx2)
            | (go_at_call 14; refine (HC3.out _ (by assumption)).mono ?_; rintro e wz ⟨rfl, hwz⟩; obtain ⟨⟨az0, az1, az2, az3, az4, az5, az6⟩, ⟨bz0, bz1, bz2, bz3, bz4, bz5, bz6⟩, ⟨cz0, cz1, cz2, cz3, cz4, cz5, cz6⟩, ⟨dz0, dz1, dz2, dz3, dz4, dz5, dz6⟩⟩ := HX.out _ hwz))
        go_wp2_with fail
        go_meet
        exact ⟨rfl, hwz⟩
      · go_region_held3 (fun w' => w'.cell? ⟨w.heap.size, 0, none⟩ = some (.pointer r0) ∧ w'.cell? ⟨w.heap.size, 1, none⟩ = some (.pointer r1) ∧ w'.cell? ⟨w.heap.size, 2, none⟩ = some (.pointer r2) ∧ w'.cell? ⟨w.heap.size, 3, none⟩ = some (.pointer r3) ∧ w'.cell? ⟨w.heap.size, 4, none⟩ = some (.pointer r4) ∧ w'.cell? ⟨w.heap.size, 5, none⟩ = some (.pointer r5) ∧ w'.cell? ⟨w.heap.size, 6, none⟩ = some (.pointer r6) ∧ w'.cell? ⟨w.heap.size + 1, 0, none⟩ = some (.pointer s0) ∧ w'.cell? ⟨w.heap.size + 1, 1, none⟩ = some (.pointer s1) ∧ w'.cell? ⟨w.heap.size + 1, 2, none⟩ = some (.pointer s2) ∧ w'.cell? ⟨w.heap.size + 1, 3, none⟩ = some (.pointer s3) ∧ w'.cell? ⟨w.heap.size + 1, 4, none⟩ = some (.pointer s4) ∧ w'.cell? ⟨w.heap.size + 1, 5, none⟩ = some (.pointer s5) ∧ w'.cell? ⟨w.heap.size + 1, 6, none⟩ = some (.pointer s6) ∧ w'.cell? ⟨ZC, 0, none⟩ = some (.pointer t0) ∧ w'.cell? ⟨ZC, 1, none⟩ = some (.pointer t1) ∧ w'.cell? ⟨ZC, 2, none⟩ = some (.pointer t2) ∧ w'.cell? ⟨ZC, 3, none⟩ = some (.pointer t3) ∧ w'.cell? ⟨ZC, 4, none⟩ = some (.pointer t4) ∧ w'.cell? ⟨ZC, 5, none⟩ = some (.pointer t5) ∧ w'.cell? ⟨ZC, 6, none⟩ = some (.pointer t6) ∧ w'.cell? ⟨ZD, 0, none⟩ = some (.pointer u0) ∧ w'.cell? ⟨ZD, 1, none⟩ = some (.pointer u1) ∧ w'.cell? ⟨ZD, 2, none⟩ = some (.pointer u2) ∧ w'.cell? ⟨ZD, 3, none⟩ = some (.pointer u3) ∧ w'.cell? ⟨ZD, 4, none⟩ = some (.pointer u4) ∧ w'.cell? ⟨ZD, 5, none⟩ = some (.pointer u5) ∧ w'.cell? ⟨ZD, 6, none⟩ = some (.pointer u6)) (go_keep)
          (first
            | (go_at_call_of 12 (Value.agg #[Value.pointer t0, Value.pointer t1, Value.pointer t2, Value.pointer t3, Value.pointer t4, Value.pointer t5, Value.pointer t6]); refine (HC1.out _ (by assumption)).mono ?_; rintro e wx1 ⟨rfl, hwx1⟩; obtain ⟨⟨ax0, ax1, ax2, ax3, ax4, ax5, ax6⟩, ⟨bx0, bx1, bx2, bx3, bx4, bx5, bx6⟩, ⟨cx0, cx1, cx2, cx3, cx4, cx5, cx6⟩, ⟨dx0, dx1, dx2, dx3, dx4, dx5, dx6⟩⟩ := HX.out _ hwx1)
            | (go_at_call_of 12 (Value.agg #[Value.pointer u0, Value.pointer u1, Value.pointer u2, Value.pointer u3, Value.pointer u4, Value.pointer u5, Value.pointer u6]); refine (HC2.out _ (by assumption)).mono ?_; rintro e wx2 ⟨rfl, hwx2⟩; obtain ⟨⟨ay0, ay1, ay2, ay3, ay4, ay5, ay6⟩, ⟨by0, by1, by2, by3, by4, by5, by6⟩, ⟨cy0, cy1, cy2, cy3, cy4, cy5, cy6⟩, ⟨dy0, dy1, dy2, dy3, dy4, dy5, dy6⟩⟩ := HX.out _ hwx2)
            | (go_at_call 14; refine (HC3.out _ (by assumption)).mono ?_; rintro e wz ⟨rfl, hwz⟩; obtain ⟨⟨az0, az1, az2, az3, az4, az5, az6⟩, ⟨bz0, bz1, bz2, bz3, bz4, bz5, bz6⟩, ⟨cz0, cz1, cz2, cz3, cz4, cz5, cz6⟩, ⟨dz0, dz1, dz2, dz3, dz4, dz5, dz6⟩⟩ := HX.out _ hwz))
        go_wp2_with fail
        go_meet
        exact ⟨rfl, hwz⟩
  case rest =>
    obtain ⟨rfl, hbc⟩ := hcut
    obtain ⟨c0, c1, c2, c3, c4, c5, c6⟩ := cells_of (HI2.out wc hbc).2.2.1
    obtain ⟨d0, d1, d2, d3, d4, d5, d6⟩ := cells_of (HI2.out wc hbc).2.2.2.2.1
    go_wp2_with fail
    refine (HC4.out _ hbc).mono ?_
    rintro e w13 ⟨rfl, hb13⟩
    clear hbc c0 d0 c1 d1 c2 d2 c3 d3 c4 d4 c5 d5 c6 d6
    go_wp2_with fail
    have hb14 : Below W12.heap.size W12 w13.drew := hb13.drew
    refine wp_region_class (C := fun wx => Below W12.heap.size W12 wx) (by kernel_rfl) (by kernel_rfl) hb14 ?_
    refine Go.BigFrame.wpQuiet_want (by rfl) (fun K hK => ⟨Value.agg #[Value.pointer none, Value.pointer none, Value.pointer none, Value.pointer none, Value.pointer none, Value.pointer none, Value.pointer none], fun wx hx => ?_, hK _ ?_⟩)
    · (obtain ⟨z0, z1, z2, z3, z4, z5, z6⟩ := cells_of (HI2.out wx hx).2.2.2.2.1; go_simp)
    clear hK K
    simp only [Act.put, List.setIfInBounds_toArray, List.set_cons_zero, List.set_cons_succ]
    refine Go.BigFrame.wpQuiet_want (by rfl) (fun K hK => ⟨Value.agg #[Value.pointer u0, Value.pointer u1, Value.pointer u2, Value.pointer u3, Value.pointer u4, Value.pointer u5, Value.pointer u6], fun wx hx => ?_, hK _ ?_⟩)
    · (obtain ⟨z0, z1, z2, z3, z4, z5, z6⟩ := cells_of (HI2.out wx hx).2.2.2.1; go_simp)
    clear hK K
    simp only [Act.put, List.setIfInBounds_toArray, List.set_cons_zero, List.set_cons_succ]
    refine Go.BigFrame.wpQuiet_want (by rfl) (fun K hK => ⟨Value.bool B4, fun wx hx => ?_, hK _ ?_⟩)
    · (go_simp; exact HC5.out wx hx)
    clear hK K
    simp only [Act.put, List.setIfInBounds_toArray, List.set_cons_zero, List.set_cons_succ]
    refine Go.BigFrame.wpQuiet_want (by rfl) (fun K hK => ⟨Value.agg #[Value.pointer s0, Value.pointer s1, Value.pointer s2, Value.pointer s3, Value.pointer s4, Value.pointer s5, Value.pointer s6], fun wx hx => ?_, hK _ ?_⟩)
    · (obtain ⟨z0, z1, z2, z3, z4, z5, z6⟩ := cells_of (HI2.out wx hx).2.1; go_simp)
    clear hK K
    simp only [Act.put, List.setIfInBounds_toArray, List.set_cons_zero, List.set_cons_succ]
    refine Go.BigFrame.wpQuiet_want (by rfl) (fun K hK => ⟨Value.agg #[Value.pointer none, Value.pointer none, Value.pointer none, Value.pointer none, Value.pointer none, Value.pointer none, Value.pointer none], fun wx hx => ?_, hK _ ?_⟩)
    · go_simp
    clear hK K
    simp only [Act.put, List.setIfInBounds_toArray, List.set_cons_zero, List.set_cons_succ]
    refine Go.BigFrame.wpQuiet_want (by rfl) (fun K hK => ⟨Value.bool B4, fun wx hx => ?_, hK _ ?_⟩)
    · (go_simp; exact HC6.out wx hx)
    clear hK K
    simp only [Act.put, List.setIfInBounds_toArray, List.set_cons_zero, List.set_cons_succ]
    refine Go.BigFrame.wpQuiet_want (by rfl) (fun K hK => ⟨Value.bool true, fun wx hx => ?_, hK _ ?_⟩)
    · go_simp
    clear hK K
    simp only [Act.put, List.setIfInBounds_toArray, List.set_cons_zero, List.set_cons_succ]
    refine Go.BigFrame.wpQuiet_want (by rfl) (fun K hK => ⟨Value.bool true, fun wx hx => ?_, hK _ ?_⟩)
    · go_simp
    clear hK K
    simp only [Act.put, List.setIfInBounds_toArray, List.set_cons_zero, List.set_cons_succ]
    refine wpQuiet_nil ?_
    intro wz hwz
    go_wp2_with fail
    go_ret
    exact ⟨rfl, (HI2.out _ hwz).2.2.2.2.2⟩
end Go.Proofs.Qxb6603359a
