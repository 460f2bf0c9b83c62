/-
  The bounds: zzTagSize (25), zzStrSize (26), zzEnvSize (10), zzBytes_FnContainsMutualIsEquality (17).
-/
import Derived.Test.Qxb6603359aEnv
import Derived.Deep.DeepCutAuto
namespace Go.Proofs.Qxb6603359a
open Go.RowKit
set_option linter.unusedVariables false
def tagN : Option TagV → Nat
  | none => 0
  | some v => satAdd 8 v.len
def strN : Option ByteArray → Nat
  | none => 0
  | some s => s.size
theorem tagSize_any (p : Option Addr) (t : Option TagV) (w : World) (h : TagIs w p t) :
    Calls Try.prog 25 #[.pointer p] w fun e w' => e = .returned (.int .i64 (tagN t)) ∧ Below w.heap.size w w' := by
  rcases h with ⟨rfl, rfl⟩ | ⟨b, off, sa, sc, v, rfl, rfl, h3, h4, h5, h6, h7⟩
  · show Calls Try.prog 25 _ w fun e w' => e = .returned (.int .i64 0) ∧ _
    go_enter Try.func25, Try.ntmps25
    go_wp2
    go_ret
    exact ⟨rfl, Below.refl _ _⟩
  · show Calls Try.prog 25 _ w fun e w' => e = .returned (.int .i64 (satAdd 8 v.len)) ∧ _
    have HC : Hid (Calls Try.prog 9 #[.int .i64 8, .int .i64 v.len] w fun e w' => e = .returned (.int .i64 (satAdd 8 v.len)) ∧ w' = w) := add_any 8 v.len w
    clear h5 h6 h7
    generalize satAdd 8 v.len = S at *
    generalize v.len = l at *
    go_enter Try.func25, Try.ntmps25
    go_wp2_with fail
    refine HC.out.mono ?_
    rintro e w1 ⟨rfl, rfl⟩
    go_wp2_with fail
    go_ret
    exact ⟨rfl, Below.refl _ _⟩
theorem strSize_any (p : Option Addr) (t : Option ByteArray) (w : World) (h : StrIs w p t) :
    Calls Try.prog 26 #[.pointer p] w fun e w' => e = .returned (.int .i64 (strN t)) ∧ Below w.heap.size w w' := by
  rcases h with ⟨rfl, rfl⟩ | ⟨b, off, s, rfl, rfl, h3⟩
  · show Calls Try.prog 26 _ w fun e w' => e = .returned (.int .i64 0) ∧ _
    go_enter Try.func26, Try.ntmps26
    go_wp2
    go_ret
    exact ⟨rfl, Below.refl _ _⟩
  · show Calls Try.prog 26 _ w fun e w' => e = .returned (.int .i64 s.size) ∧ _
    go_enter Try.func26, Try.ntmps26
    go_wp2
    go_ret
    exact ⟨rfl, Below.refl _ _⟩

def envN (e : EnvV) : Nat := satAdd (satAdd (satAdd (satAdd (satAdd 0 (tagN e.cls)) (strN e.ven)) (strN e.mod)) (tagN e.ins)) (tagN e.grp)
theorem satAdd_fits {a n : Nat} (h : satAdd a n ≤ 1048576) : a ≤ 1048576 ∧ n ≤ 1048576 := by
  unfold satAdd at h
  split at h <;> omega
theorem tagN_fits {t : Option TagV} (h : tagN t ≤ 1048576) : ∀ v, t = some v → v.len ≤ 1048576 := by
  intro v hv; subst hv
  exact (satAdd_fits h).2
theorem envN_fits {e : EnvV} (h : envN e ≤ 1048576) : e.Fits := by
  unfold envN at h
  obtain ⟨h, h6⟩ := satAdd_fits h
  obtain ⟨h, h5⟩ := satAdd_fits h
  obtain ⟨h, _⟩ := satAdd_fits h
  obtain ⟨h, _⟩ := satAdd_fits h
  obtain ⟨_, h0⟩ := satAdd_fits h
  exact ⟨tagN_fits h0, tagN_fits h5, tagN_fits h6⟩

set_option maxHeartbeats 4000000 in
/-- zzEnvSize. -/
theorem envSize_any (p : Ptrs) (x : EnvV) (w : World) (h1 : EnvIs w p x) :
    Calls Try.prog 10 #[p.val] w fun e w' => e = .returned (.int .i64 (envN x)) ∧ Below w.heap.size w w' := by
  obtain ⟨p0, p1, p2, p3, p4, p5, p6⟩ := p
  obtain ⟨W0, hW0⟩ : ∃ W0, w.alloc (.cells #[.pointer p0, .pointer p1, .pointer p2, .pointer p3, .pointer p4, .pointer p5, .pointer p6] 26) = W0 := ⟨_, rfl⟩
  obtain ⟨hp, hbw⟩ : (W0.cell? ⟨w.heap.size, 0, none⟩ = some (.pointer p0) ∧ W0.cell? ⟨w.heap.size, 1, none⟩ = some (.pointer p1) ∧ W0.cell? ⟨w.heap.size, 2, none⟩ = some (.pointer p2) ∧ W0.cell? ⟨w.heap.size, 3, none⟩ = some (.pointer p3) ∧ W0.cell? ⟨w.heap.size, 4, none⟩ = some (.pointer p4) ∧ W0.cell? ⟨w.heap.size, 5, none⟩ = some (.pointer p5) ∧ W0.cell? ⟨w.heap.size, 6, none⟩ = some (.pointer p6)) ∧ Below w.heap.size w W0 := by
    subst hW0
    refine ⟨⟨?_, ?_, ?_, ?_, ?_, ?_, ?_⟩, (Below.refl _ _).alloc (Nat.le_refl _) _⟩ <;> simp [go_sem]
  have hE1 := h1.below hbw
  obtain ⟨c0, c1, c2, c3, c4, c5, c6⟩ := hp
  have HX1 : Hid (∀ wx : World, Below W0.heap.size W0 wx → wx.cell? ⟨w.heap.size, 1, none⟩ = some (.pointer p1)) := fun wx hb => cell_keep hb c1
  have HX2 : Hid (∀ wx : World, Below W0.heap.size W0 wx → wx.cell? ⟨w.heap.size, 2, none⟩ = some (.pointer p2)) := fun wx hb => cell_keep hb c2
  have HX5 : Hid (∀ wx : World, Below W0.heap.size W0 wx → wx.cell? ⟨w.heap.size, 5, none⟩ = some (.pointer p5)) := fun wx hb => cell_keep hb c5
  have HX6 : Hid (∀ wx : World, Below W0.heap.size W0 wx → wx.cell? ⟨w.heap.size, 6, none⟩ = some (.pointer p6)) := fun wx hb => cell_keep hb c6
  have HC0 : Hid (∀ wx : World, Below W0.heap.size W0 wx → Calls Try.prog 25 #[.pointer p0] wx fun e w' => e = .returned (.int .i64 (tagN x.cls)) ∧ Below W0.heap.size W0 w') := fun wx hb =>
    (tagSize_any p0 x.cls wx (hE1.cls.below hb)).mono (fun e w' ⟨h1, h3⟩ => ⟨h1, hb.trans (h3.mono hb.size)⟩)
  have HA0 : Hid (∀ wx : World, Calls Try.prog 9 #[.int .i64 0, .int .i64 (tagN x.cls)] wx fun e w' => e = .returned (.int .i64 (satAdd 0 (tagN x.cls))) ∧ w' = wx) := fun wx => add_any 0 _ wx
  have HC1 : Hid (∀ wx : World, Below W0.heap.size W0 wx → Calls Try.prog 26 #[.pointer p1] wx fun e w' => e = .returned (.int .i64 (strN x.ven)) ∧ Below W0.heap.size W0 w') := fun wx hb =>
    (strSize_any p1 x.ven wx (hE1.ven.below hb)).mono (fun e w' ⟨h1, h3⟩ => ⟨h1, hb.trans (h3.mono hb.size)⟩)
  have HA1 : Hid (∀ wx : World, Calls Try.prog 9 #[.int .i64 (((satAdd 0 (tagN x.cls)) : Nat) : Int), .int .i64 (strN x.ven)] wx fun e w' => e = .returned (.int .i64 (satAdd (satAdd 0 (tagN x.cls)) (strN x.ven))) ∧ w' = wx) := fun wx => add_any (satAdd 0 (tagN x.cls)) _ wx
  have HC2 : Hid (∀ wx : World, Below W0.heap.size W0 wx → Calls Try.prog 26 #[.pointer p2] wx fun e w' => e = .returned (.int .i64 (strN x.mod)) ∧ Below W0.heap.size W0 w') := fun wx hb =>
    (strSize_any p2 x.mod wx (hE1.mod.below hb)).mono (fun e w' ⟨h1, h3⟩ => ⟨h1, hb.trans (h3.mono hb.size)⟩)
  have HA2 : Hid (∀ wx : World, Calls Try.prog 9 #[.int .i64 (((satAdd (satAdd 0 (tagN x.cls)) (strN x.ven)) : Nat) : Int), .int .i64 (strN x.mod)] wx fun e w' => e = .returned (.int .i64 (satAdd (satAdd (satAdd 0 (tagN x.cls)) (strN x.ven)) (strN x.mod))) ∧ w' = wx) := fun wx => add_any (satAdd (satAdd 0 (tagN x.cls)) (strN x.ven)) _ wx
  have HC5 : Hid (∀ wx : World, Below W0.heap.size W0 wx → Calls Try.prog 25 #[.pointer p5] wx fun e w' => e = .returned (.int .i64 (tagN x.ins)) ∧ Below W0.heap.size W0 w') := fun wx hb =>
    (tagSize_any p5 x.ins wx (hE1.ins.below hb)).mono (fun e w' ⟨h1, h3⟩ => ⟨h1, hb.trans (h3.mono hb.size)⟩)
  have HA5 : Hid (∀ wx : World, Calls Try.prog 9 #[.int .i64 (((satAdd (satAdd (satAdd 0 (tagN x.cls)) (strN x.ven)) (strN x.mod)) : Nat) : Int), .int .i64 (tagN x.ins)] wx fun e w' => e = .returned (.int .i64 (satAdd (satAdd (satAdd (satAdd 0 (tagN x.cls)) (strN x.ven)) (strN x.mod)) (tagN x.ins))) ∧ w' = wx) := fun wx => add_any (satAdd (satAdd (satAdd 0 (tagN x.cls)) (strN x.ven)) (strN x.mod)) _ wx
  have HC6 : Hid (∀ wx : World, Below W0.heap.size W0 wx → Calls Try.prog 25 #[.pointer p6] wx fun e w' => e = .returned (.int .i64 (tagN x.grp)) ∧ Below W0.heap.size W0 w') := fun wx hb =>
    (tagSize_any p6 x.grp wx (hE1.grp.below hb)).mono (fun e w' ⟨h1, h3⟩ => ⟨h1, hb.trans (h3.mono hb.size)⟩)
  have HA6 : Hid (∀ wx : World, Calls Try.prog 9 #[.int .i64 (((satAdd (satAdd (satAdd (satAdd 0 (tagN x.cls)) (strN x.ven)) (strN x.mod)) (tagN x.ins)) : Nat) : Int), .int .i64 (tagN x.grp)] wx fun e w' => e = .returned (.int .i64 (satAdd (satAdd (satAdd (satAdd (satAdd 0 (tagN x.cls)) (strN x.ven)) (strN x.mod)) (tagN x.ins)) (tagN x.grp))) ∧ w' = wx) := fun wx => add_any (satAdd (satAdd (satAdd (satAdd 0 (tagN x.cls)) (strN x.ven)) (strN x.mod)) (tagN x.ins)) _ wx
  have HB : Hid (∀ wx : World, Below W0.heap.size W0 wx → Below w.heap.size w wx) := fun wx hb => hbw.trans (hb.mono hbw.size)
  have b0 : Below W0.heap.size W0 W0 := Below.refl _ _
  clear c1 c2 c3 c4 c5 c6 hE1 h1 hbw
  unfold envN Ptrs.val
  generalize tagN x.cls = N0 at *
  generalize strN x.ven = N1 at *
  generalize strN x.mod = N2 at *
  generalize tagN x.ins = N5 at *
  generalize tagN x.grp = N6 at *
  generalize satAdd 0 N0 = S0 at *
  generalize satAdd S0 N1 = S1 at *
  generalize satAdd S1 N2 = S2 at *
  generalize satAdd S2 N5 = S5 at *
  generalize satAdd S5 N6 = S6 at *
  go_enter Try.func10, Try.ntmps10
  go_wp2_with fail
  clear hW0
  refine (HC0.out _ b0).mono ?_
  rintro e w1 ⟨rfl, b1⟩
  clear b0
  go_wp2_with fail
  refine (HA0.out _).mono ?_
  rintro e w' ⟨rfl, rfl⟩
  have k0 := HX1.out _ b1
  go_wp2_with fail
  refine (HC1.out _ b1).mono ?_
  rintro e w2 ⟨rfl, b2⟩
  clear b1
  go_wp2_with fail
  refine (HA1.out _).mono ?_
  rintro e w' ⟨rfl, rfl⟩
  have k1 := HX2.out _ b2
  go_wp2_with fail
  refine (HC2.out _ b2).mono ?_
  rintro e w3 ⟨rfl, b3⟩
  clear b2
  go_wp2_with fail
  refine (HA2.out _).mono ?_
  rintro e w' ⟨rfl, rfl⟩
  have k2 := HX5.out _ b3
  go_wp2_with fail
  refine (HC5.out _ b3).mono ?_
  rintro e w4 ⟨rfl, b4⟩
  clear b3
  go_wp2_with fail
  refine (HA5.out _).mono ?_
  rintro e w' ⟨rfl, rfl⟩
  have k3 := HX6.out _ b4
  go_wp2_with fail
  refine (HC6.out _ b4).mono ?_
  rintro e w5 ⟨rfl, b5⟩
  clear b4
  go_wp2_with fail
  refine (HA6.out _).mono ?_
  rintro e w' ⟨rfl, rfl⟩
  go_wp2_with fail
  go_ret
  exact ⟨rfl, HB.out _ b5⟩

set_option maxHeartbeats 16000000 in
set_option maxRecDepth 100000 in
/-- zzBytes_FnContainsMutualIsEquality. -/
theorem bytes17_any (p q : Ptrs) (x y : EnvV) (w : World) (h1 : EnvIs w p x) (h2 : EnvIs w q y) :
    Calls Try.prog 17 #[p.val, q.val] w fun e w' => (∃ r : Bool, e = .returned (.bool r)) ∧ Below w.heap.size w w' := by
  obtain ⟨p0, p1, p2, p3, p4, p5, p6⟩ := p
  obtain ⟨q0, q1, q2, q3, q4, q5, q6⟩ := q
  obtain ⟨W0, hW0⟩ : ∃ W0, (w.alloc (.cells #[.pointer p0, .pointer p1, .pointer p2, .pointer p3, .pointer p4, .pointer p5, .pointer p6] 26)).alloc (.cells #[.pointer q0, .pointer q1, .pointer q2, .pointer q3, .pointer q4, .pointer q5, .pointer q6] 26) = W0 := ⟨_, rfl⟩
  obtain ⟨hp, hq, hbw⟩ : (W0.cell? ⟨w.heap.size, 0, none⟩ = some (.pointer p0) ∧ W0.cell? ⟨w.heap.size, 1, none⟩ = some (.pointer p1) ∧ W0.cell? ⟨w.heap.size, 2, none⟩ = some (.pointer p2) ∧ W0.cell? ⟨w.heap.size, 3, none⟩ = some (.pointer p3) ∧ W0.cell? ⟨w.heap.size, 4, none⟩ = some (.pointer p4) ∧ W0.cell? ⟨w.heap.size, 5, none⟩ = some (.pointer p5) ∧ W0.cell? ⟨w.heap.size, 6, none⟩ = some (.pointer p6)) ∧ (W0.cell? ⟨w.heap.size + 1, 0, none⟩ = some (.pointer q0) ∧ W0.cell? ⟨w.heap.size + 1, 1, none⟩ = some (.pointer q1) ∧ W0.cell? ⟨w.heap.size + 1, 2, none⟩ = some (.pointer q2) ∧ W0.cell? ⟨w.heap.size + 1, 3, none⟩ = some (.pointer q3) ∧ W0.cell? ⟨w.heap.size + 1, 4, none⟩ = some (.pointer q4) ∧ W0.cell? ⟨w.heap.size + 1, 5, none⟩ = some (.pointer q5) ∧ W0.cell? ⟨w.heap.size + 1, 6, none⟩ = some (.pointer q6)) ∧ Below w.heap.size w W0 := by
    subst hW0
    refine ⟨⟨?_, ?_, ?_, ?_, ?_, ?_, ?_⟩, ⟨?_, ?_, ?_, ?_, ?_, ?_, ?_⟩, ((Below.refl _ _).alloc (Nat.le_refl _) _).alloc (by simp) _⟩ <;> simp [go_sem]
  obtain ⟨c0, c1, c2, c3, c4, c5, c6⟩ := hp
  obtain ⟨d0, d1, d2, d3, d4, d5, d6⟩ := hq
  have HB : Hid (Below w.heap.size w W0) := hbw
  have Hp0 : Hid (TagIs W0 p0 x.cls) := h1.cls.below hbw
  have Cp0 : Hid (W0.cell? ⟨w.heap.size, 0, none⟩ = some (.pointer p0)) := c0
  have Hp1 : Hid (StrIs W0 p1 x.ven) := h1.ven.below hbw
  have Cp1 : Hid (W0.cell? ⟨w.heap.size, 1, none⟩ = some (.pointer p1)) := c1
  have Hp2 : Hid (StrIs W0 p2 x.mod) := h1.mod.below hbw
  have Cp2 : Hid (W0.cell? ⟨w.heap.size, 2, none⟩ = some (.pointer p2)) := c2
  have Hp5 : Hid (TagIs W0 p5 x.ins) := h1.ins.below hbw
  have Cp5 : Hid (W0.cell? ⟨w.heap.size, 5, none⟩ = some (.pointer p5)) := c5
  have Hp6 : Hid (TagIs W0 p6 x.grp) := h1.grp.below hbw
  have Cp6 : Hid (W0.cell? ⟨w.heap.size, 6, none⟩ = some (.pointer p6)) := c6
  have Hq0 : Hid (TagIs W0 q0 y.cls) := h2.cls.below hbw
  have Cq0 : Hid (W0.cell? ⟨w.heap.size + 1, 0, none⟩ = some (.pointer q0)) := d0
  have Hq1 : Hid (StrIs W0 q1 y.ven) := h2.ven.below hbw
  have Cq1 : Hid (W0.cell? ⟨w.heap.size + 1, 1, none⟩ = some (.pointer q1)) := d1
  have Hq2 : Hid (StrIs W0 q2 y.mod) := h2.mod.below hbw
  have Cq2 : Hid (W0.cell? ⟨w.heap.size + 1, 2, none⟩ = some (.pointer q2)) := d2
  have Hq5 : Hid (TagIs W0 q5 y.ins) := h2.ins.below hbw
  have Cq5 : Hid (W0.cell? ⟨w.heap.size + 1, 5, none⟩ = some (.pointer q5)) := d5
  have Hq6 : Hid (TagIs W0 q6 y.grp) := h2.grp.below hbw
  have Cq6 : Hid (W0.cell? ⟨w.heap.size + 1, 6, none⟩ = some (.pointer q6)) := d6
  clear c0 c1 c2 c3 c4 c5 c6 d0 d1 d2 d3 d4 d5 d6 h1 h2 hbw
  unfold Ptrs.val
  go_enter Try.func17, Try.ntmps17
  have cx := Cp0.out
  go_upto_if 8 with fail
  clear hW0
  go_cut [5] (fun s wx => ∃ n : Nat, n ≤ 1048576 ∧ s = .int .i64 n ∧ W0 = wx)
  case first => as_aux_lemma =>
    rcases Hp0.out with ⟨e1, _⟩ | ⟨b1, o1, sa1, sc1, v1, e1, _, cc1, cd1, _, _, _⟩
    · subst e1
      go_wp2_with fail
      go_meet
      exact ⟨0, by omega, rfl, rfl⟩
    · subst e1
      generalize v1.len = l1 at *
      by_cases hl : 1048576 < l1
      · go_wp2_with fail
        go_ret
        exact ⟨⟨false, rfl⟩, HB.out⟩
      · go_wp2_with fail
        go_meet
        exact ⟨l1, by omega, rfl, rfl⟩
  obtain ⟨n0, hn0, rfl, hwc0⟩ := hcut
  subst hwc0
  clear cx
  have cx := Cp1.out
  go_upto_if 28 with fail
  go_cut [5] (fun s wx => ∃ n : Nat, n ≤ 1048576 ∧ s = .int .i64 n ∧ W0 = wx)
  case first => as_aux_lemma =>
    rcases Hp1.out with ⟨e1, _⟩ | ⟨b1, o1, s1, e1, _, cc1⟩
    · subst e1
      go_wp2_with fail
      go_meet
      exact ⟨n0, by omega, rfl, rfl⟩
    · subst e1
      skip
      by_cases hl : 1048576 < s1.size
      · go_wp2_with fail
        go_ret
        exact ⟨⟨false, rfl⟩, HB.out⟩
      · by_cases hs : 1048576 < n0 + s1.size
        · go_wp2_with fail
          go_ret
          exact ⟨⟨false, rfl⟩, HB.out⟩
        · go_wp2_with fail
          go_meet
          exact ⟨n0 + s1.size, by omega, rfl, rfl⟩
  obtain ⟨n1, hn1, rfl, hwc1⟩ := hcut
  subst hwc1
  clear cx
  have cx := Cp2.out
  go_upto_if 46 with fail
  go_cut [5] (fun s wx => ∃ n : Nat, n ≤ 1048576 ∧ s = .int .i64 n ∧ W0 = wx)
  case first => as_aux_lemma =>
    rcases Hp2.out with ⟨e1, _⟩ | ⟨b1, o1, s1, e1, _, cc1⟩
    · subst e1
      go_wp2_with fail
      go_meet
      exact ⟨n1, by omega, rfl, rfl⟩
    · subst e1
      skip
      by_cases hl : 1048576 < s1.size
      · go_wp2_with fail
        go_ret
        exact ⟨⟨false, rfl⟩, HB.out⟩
      · by_cases hs : 1048576 < n1 + s1.size
        · go_wp2_with fail
          go_ret
          exact ⟨⟨false, rfl⟩, HB.out⟩
        · go_wp2_with fail
          go_meet
          exact ⟨n1 + s1.size, by omega, rfl, rfl⟩
  obtain ⟨n2, hn2, rfl, hwc2⟩ := hcut
  subst hwc2
  clear cx
  have cx := Cp5.out
  go_upto_if 64 with fail
  go_cut [5] (fun s wx => ∃ n : Nat, n ≤ 1048576 ∧ s = .int .i64 n ∧ W0 = wx)
  case first => as_aux_lemma =>
    rcases Hp5.out with ⟨e1, _⟩ | ⟨b1, o1, sa1, sc1, v1, e1, _, cc1, cd1, _, _, _⟩
    · subst e1
      go_wp2_with fail
      go_meet
      exact ⟨n2, by omega, rfl, rfl⟩
    · subst e1
      generalize v1.len = l1 at *
      by_cases hl : 1048576 < l1
      · go_wp2_with fail
        go_ret
        exact ⟨⟨false, rfl⟩, HB.out⟩
      · by_cases hs : 1048576 < n2 + l1
        · go_wp2_with fail
          go_ret
          exact ⟨⟨false, rfl⟩, HB.out⟩
        · go_wp2_with fail
          go_meet
          exact ⟨n2 + l1, by omega, rfl, rfl⟩
  obtain ⟨n3, hn3, rfl, hwc3⟩ := hcut
  subst hwc3
  clear cx
  have cx := Cp6.out
  go_upto_if 84 with fail
  go_cut [5] (fun s wx => ∃ n : Nat, n ≤ 1048576 ∧ s = .int .i64 n ∧ W0 = wx)
  case first => as_aux_lemma =>
    rcases Hp6.out with ⟨e1, _⟩ | ⟨b1, o1, sa1, sc1, v1, e1, _, cc1, cd1, _, _, _⟩
    · subst e1
      go_wp2_with fail
      go_meet
      exact ⟨n3, by omega, rfl, rfl⟩
    · subst e1
      generalize v1.len = l1 at *
      by_cases hl : 1048576 < l1
      · go_wp2_with fail
        go_ret
        exact ⟨⟨false, rfl⟩, HB.out⟩
      · by_cases hs : 1048576 < n3 + l1
        · go_wp2_with fail
          go_ret
          exact ⟨⟨false, rfl⟩, HB.out⟩
        · go_wp2_with fail
          go_meet
          exact ⟨n3 + l1, by omega, rfl, rfl⟩
  obtain ⟨n4, hn4, rfl, hwc4⟩ := hcut
  subst hwc4
  clear cx
  have cx := Cq0.out
  go_upto_if 104 with fail
  go_cut [5] (fun s wx => ∃ n : Nat, n ≤ 1048576 ∧ s = .int .i64 n ∧ W0 = wx)
  case first => as_aux_lemma =>
    rcases Hq0.out with ⟨e1, _⟩ | ⟨b1, o1, sa1, sc1, v1, e1, _, cc1, cd1, _, _, _⟩
    · subst e1
      go_wp2_with fail
      go_meet
      exact ⟨n4, by omega, rfl, rfl⟩
    · subst e1
      generalize v1.len = l1 at *
      by_cases hl : 1048576 < l1
      · go_wp2_with fail
        go_ret
        exact ⟨⟨false, rfl⟩, HB.out⟩
      · by_cases hs : 1048576 < n4 + l1
        · go_wp2_with fail
          go_ret
          exact ⟨⟨false, rfl⟩, HB.out⟩
        · go_wp2_with fail
          go_meet
          exact ⟨n4 + l1, by omega, rfl, rfl⟩
  obtain ⟨n5, hn5, rfl, hwc5⟩ := hcut
  subst hwc5
  clear cx
  have cx := Cq1.out
  go_upto_if 124 with fail
  go_cut [5] (fun s wx => ∃ n : Nat, n ≤ 1048576 ∧ s = .int .i64 n ∧ W0 = wx)
  case first => as_aux_lemma =>
    rcases Hq1.out with ⟨e1, _⟩ | ⟨b1, o1, s1, e1, _, cc1⟩
    · subst e1
      go_wp2_with fail
      go_meet
      exact ⟨n5, by omega, rfl, rfl⟩
    · subst e1
      skip
      by_cases hl : 1048576 < s1.size
      · go_wp2_with fail
        go_ret
        exact ⟨⟨false, rfl⟩, HB.out⟩
      · by_cases hs : 1048576 < n5 + s1.size
        · go_wp2_with fail
          go_ret
          exact ⟨⟨false, rfl⟩, HB.out⟩
        · go_wp2_with fail
          go_meet
          exact ⟨n5 + s1.size, by omega, rfl, rfl⟩
  obtain ⟨n6, hn6, rfl, hwc6⟩ := hcut
  subst hwc6
  clear cx
  have cx := Cq2.out
  go_upto_if 142 with fail
  go_cut [5] (fun s wx => ∃ n : Nat, n ≤ 1048576 ∧ s = .int .i64 n ∧ W0 = wx)
  case first => as_aux_lemma =>
    rcases Hq2.out with ⟨e1, _⟩ | ⟨b1, o1, s1, e1, _, cc1⟩
    · subst e1
      go_wp2_with fail
      go_meet
      exact ⟨n6, by omega, rfl, rfl⟩
    · subst e1
      skip
      by_cases hl : 1048576 < s1.size
      · go_wp2_with fail
        go_ret
        exact ⟨⟨false, rfl⟩, HB.out⟩
      · by_cases hs : 1048576 < n6 + s1.size
        · go_wp2_with fail
          go_ret
          exact ⟨⟨false, rfl⟩, HB.out⟩
        · go_wp2_with fail
          go_meet
          exact ⟨n6 + s1.size, by omega, rfl, rfl⟩
  obtain ⟨n7, hn7, rfl, hwc7⟩ := hcut
  subst hwc7
  clear cx
  have cx := Cq5.out
  go_upto_if 160 with fail
  go_cut [5] (fun s wx => ∃ n : Nat, n ≤ 1048576 ∧ s = .int .i64 n ∧ W0 = wx)
  case first => as_aux_lemma =>
    rcases Hq5.out with ⟨e1, _⟩ | ⟨b1, o1, sa1, sc1, v1, e1, _, cc1, cd1, _, _, _⟩
    · subst e1
      go_wp2_with fail
      go_meet
      exact ⟨n7, by omega, rfl, rfl⟩
    · subst e1
      generalize v1.len = l1 at *
      by_cases hl : 1048576 < l1
      · go_wp2_with fail
        go_ret
        exact ⟨⟨false, rfl⟩, HB.out⟩
      · by_cases hs : 1048576 < n7 + l1
        · go_wp2_with fail
          go_ret
          exact ⟨⟨false, rfl⟩, HB.out⟩
        · go_wp2_with fail
          go_meet
          exact ⟨n7 + l1, by omega, rfl, rfl⟩
  obtain ⟨n8, hn8, rfl, hwc8⟩ := hcut
  subst hwc8
  clear cx
  have cx := Cq6.out
  go_upto_if 180 with fail
  go_cut [5] (fun s wx => ∃ n : Nat, n ≤ 1048576 ∧ s = .int .i64 n ∧ W0 = wx)
  case first => as_aux_lemma =>
    rcases Hq6.out with ⟨e1, _⟩ | ⟨b1, o1, sa1, sc1, v1, e1, _, cc1, cd1, _, _, _⟩
    · subst e1
      go_wp2_with fail
      go_meet
      exact ⟨n8, by omega, rfl, rfl⟩
    · subst e1
      generalize v1.len = l1 at *
      by_cases hl : 1048576 < l1
      · go_wp2_with fail
        go_ret
        exact ⟨⟨false, rfl⟩, HB.out⟩
      · by_cases hs : 1048576 < n8 + l1
        · go_wp2_with fail
          go_ret
          exact ⟨⟨false, rfl⟩, HB.out⟩
        · go_wp2_with fail
          go_meet
          exact ⟨n8 + l1, by omega, rfl, rfl⟩
  obtain ⟨n9, hn9, rfl, hwc9⟩ := hcut
  subst hwc9
  clear cx
  go_wp2_with fail
  go_ret
  exact ⟨⟨true, rfl⟩, HB.out⟩
end Go.Proofs.Qxb6603359a
