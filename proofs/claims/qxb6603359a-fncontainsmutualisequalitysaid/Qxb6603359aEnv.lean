/-
  An environment as the walks see it; the walks that copy it: zzCopyTagged (27), zzCopyStr (28), zzCopyU64 (29), zzToTagged (31).
-/
import Derived.Test.Qxb6603359aSizes
import Derived.Deep.RegionHeld3
import Derived.BigQuiet
import Derived.Deep.QuietTactic
import Derived.WalkSmall
namespace Go.Proofs.Qxb6603359a
open Go.RowKit

/-- A tagged value: its tag, its length, its bytes. -/
structure TagV where
  tag : Int
  len : Nat
  byte : Nat → Int

/-- A pointer to a tagged value; nil: not stated. -/
def TagIs (w : World) (p : Option Addr) (t : Option TagV) : Prop :=
  (p = none ∧ t = none) ∨ ∃ (b off : Nat) (sa : Option Addr) (sc : Nat) (v : TagV), p = some ⟨b, off, none⟩ ∧ t = some v ∧ w.cell? ⟨b, off, none⟩ = some (.int .u64 v.tag) ∧ w.cell? ⟨b, off + 1, none⟩ = some (.slice sa v.len sc) ∧
    (sa = none → v.len = 0 ∧ sc = 0) ∧ View w sa v.len v.byte ∧ ∀ i, i < v.len → 0 ≤ v.byte i ∧ v.byte i < 256
def StrIs (w : World) (p : Option Addr) (t : Option ByteArray) : Prop :=
  (p = none ∧ t = none) ∨ ∃ (b off : Nat) (s : ByteArray), p = some ⟨b, off, none⟩ ∧ t = some s ∧ w.cell? ⟨b, off, none⟩ = some (.string s)
def U64Is (w : World) (p : Option Addr) (t : Option Int) : Prop :=
  (p = none ∧ t = none) ∨ ∃ (b off : Nat) (n : Int), p = some ⟨b, off, none⟩ ∧ t = some n ∧ w.cell? ⟨b, off, none⟩ = some (.int .u64 n)

theorem cell_keep {w w' : World} (hb : Below w.heap.size w w') {a : Addr} {v : Value} (h : w.cell? a = some v) : w'.cell? a = some v := (hb.cell (World.block_lt_of_cell? _ _ h)).trans h
theorem TagIs.below {w w' : World} {p : Option Addr} {t : Option TagV} (h : TagIs w p t) (hb : Below w.heap.size w w') : TagIs w' p t := by
  rcases h with h | ⟨b, off, sa, sc, v, h1, h2, h3, h4, h5, h6, h7⟩
  · exact Or.inl h
  · exact Or.inr ⟨b, off, sa, sc, v, h1, h2, cell_keep hb h3, cell_keep hb h4, h5, h6.below hb, h7⟩
theorem StrIs.below {w w' : World} {p : Option Addr} {t : Option ByteArray} (h : StrIs w p t) (hb : Below w.heap.size w w') : StrIs w' p t := by
  rcases h with h | ⟨b, off, s, h1, h2, h3⟩
  · exact Or.inl h
  · exact Or.inr ⟨b, off, s, h1, h2, cell_keep hb h3⟩
theorem U64Is.below {w w' : World} {p : Option Addr} {t : Option Int} (h : U64Is w p t) (hb : Below w.heap.size w w') : U64Is w' p t := by
  rcases h with h | ⟨b, off, s, h1, h2, h3⟩
  · exact Or.inl h
  · exact Or.inr ⟨b, off, s, h1, h2, cell_keep hb h3⟩

/-- zzCopyStr. -/
theorem copyStr_any (p : Option Addr) (t : Option ByteArray) (w : World) (h : StrIs w p t) :
    Calls Try.prog 28 #[.pointer p] w fun e w' => ∃ p', e = .returned (.pointer p') ∧ StrIs w' p' t ∧ Below w.heap.size w w' := by
  rcases h with ⟨rfl, rfl⟩ | ⟨b, off, s, rfl, rfl, h3⟩
  · go_enter Try.func28, Try.ntmps28
    go_wp2
    go_ret
    exact ⟨none, rfl, Or.inl ⟨rfl, rfl⟩, Below.refl _ _⟩
  · go_enter Try.func28, Try.ntmps28
    go_wp2
    go_ret
    refine ⟨some ⟨w.heap.size, 0, none⟩, rfl, Or.inr ⟨w.heap.size, 0, s, rfl, rfl, ?_⟩, (Below.refl _ _).alloc (Nat.le_refl _) _⟩
    simp [go_sem]

/-- zzCopyU64. -/
theorem copyU64_any (p : Option Addr) (t : Option Int) (w : World) (h : U64Is w p t) :
    Calls Try.prog 29 #[.pointer p] w fun e w' => ∃ p', e = .returned (.pointer p') ∧ U64Is w' p' t ∧ Below w.heap.size w w' := by
  rcases h with ⟨rfl, rfl⟩ | ⟨b, off, s, rfl, rfl, h3⟩
  · go_enter Try.func29, Try.ntmps29
    go_wp2
    go_ret
    exact ⟨none, rfl, Or.inl ⟨rfl, rfl⟩, Below.refl _ _⟩
  · go_enter Try.func29, Try.ntmps29
    go_wp2
    go_ret
    refine ⟨some ⟨w.heap.size, 0, none⟩, rfl, Or.inr ⟨w.heap.size, 0, s, rfl, rfl, ?_⟩, (Below.refl _ _).alloc (Nat.le_refl _) _⟩
    simp [go_sem]

set_option maxHeartbeats 1000000 in
/-- zzCopyTagged. -/
theorem copyTag_any (p : Option Addr) (t : Option TagV) (w : World) (h : TagIs w p t) (hl : ∀ v, t = some v → v.len ≤ 1048576) :
    Calls Try.prog 27 #[.pointer p] w fun e w' => ∃ p', e = .returned (.pointer p') ∧ TagIs w' p' t ∧ Below w.heap.size w w' := by
  rcases h with ⟨rfl, rfl⟩ | ⟨b, off, sa, sc, v, rfl, rfl, h3, h4, h5, h6, h7⟩
  · go_enter Try.func27, Try.ntmps27
    go_wp2
    go_ret
    exact ⟨none, rfl, Or.inl ⟨rfl, rfl⟩, Below.refl _ _⟩
  · have hv := hl v rfl
    have HC : Hid (Calls Try.prog 35 #[.slice sa v.len sc] w.drew fun e w' => ∃ a', e = .returned (.slice a' v.len v.len) ∧ View w' a' v.len v.byte ∧ Below w.drew.heap.size w.drew w') :=
      clone_view sa v.len sc v.byte w.drew (by omega) h5 h6
    have H7 : Hid (∀ i, i < v.len → 0 ≤ v.byte i ∧ v.byte i < 256) := h7
    have HX : Hid (∀ w1 : World, Below w.drew.heap.size w.drew w1 → w1.cell? ⟨b, off, none⟩ = some (.int .u64 v.tag) ∧ w1.cell? ⟨b, off + 1, none⟩ = some (.slice sa v.len sc)) := fun w1 hb =>
      ⟨cell_keep (w := w.drew) hb h3, cell_keep (w := w.drew) hb h4⟩
    have hne : w.heap.size ≠ b := by have := World.block_lt_of_cell? _ _ h3; exact Nat.ne_of_gt this
    clear h5 h6 h7 hl
    generalize hvl : v.len = l at *
    generalize hvt : v.tag = tg at *
    generalize hvb : v.byte = g at *
    have HV : Hid (v.len = l ∧ v.tag = tg ∧ v.byte = g) := ⟨hvl, hvt, hvb⟩
    clear hvl hvt hvb
    go_enter Try.func27, Try.ntmps27
    go_wp2_with fail
    go_region_held3 (fun w' => w'.cell? ⟨b, off, none⟩ = some (.int .u64 tg) ∧ w'.cell? ⟨b, off + 1, none⟩ = some (.slice sa l sc)) (go_keep)
      (first | (go_at_call 35; refine (Hid.out HC).mono ?_; rintro e w1 ⟨a1, rfl, hv1, hb1⟩; obtain ⟨k1, k2⟩ := HX.out _ hb1; have HV1 : Hid (View w1 a1 l g) := hv1; have HB1 : Hid (Below w.heap.size w w1) := ⟨hb1.os, hb1.tape, hb1.output, hb1.size, hb1.block⟩; have hn1 : w1.heap.size ≠ b := (by have := World.block_lt_of_cell? _ _ k1; exact Nat.ne_of_gt this); clear hv1 hb1))
    go_wp2_with fail
    go_ret
    obtain ⟨e1, e2, e3⟩ := HV.out
    have hba : Below w1.heap.size w1 (w1.alloc (.cells #[.int .u64 tg, .slice a1 l l] 53)) := (Below.refl _ _).alloc (Nat.le_refl _) _
    refine ⟨some ⟨w1.heap.size, 0, none⟩, rfl, Or.inr ⟨w1.heap.size, 0, a1, l, v, rfl, rfl, ?_, ?_, ?_, ?_, ?_⟩, HB1.out.trans (hba.mono HB1.out.size)⟩
    · rw [e2]; simp [go_sem]
    · rw [e1]; simp [go_sem]
    · intro ha
      have : l = 0 := by
        rcases Nat.eq_zero_or_pos l with h | h
        · exact h
        · obtain ⟨b', off', e', _⟩ := HV1.out h
          rw [ha] at e'; cases e'
      rw [e1]; exact ⟨this, this⟩
    · rw [e1, e3]; exact HV1.out.below hba
    · rw [e1, e3]; exact H7.out

set_option maxHeartbeats 1000000 in
/-- zzToTagged. -/
theorem toTag_any (p : Option Addr) (t : Option TagV) (w : World) (h : TagIs w p t) :
    Calls Try.prog 31 #[.pointer p] w fun e w' => ∃ p', e = .returned (.pointer p') ∧ TagIs w' p' t ∧ Below w.heap.size w w' := by
  rcases h with ⟨rfl, rfl⟩ | ⟨b, off, sa, sc, v, rfl, rfl, h3, h4, h5, h6, h7⟩
  · go_enter Try.func31, Try.ntmps31
    go_wp2
    go_ret
    exact ⟨none, rfl, Or.inl ⟨rfl, rfl⟩, Below.refl _ _⟩
  · have H5 : Hid (sa = none → v.len = 0 ∧ sc = 0) := h5
    have H6 : Hid (View w sa v.len v.byte) := h6
    have H7 : Hid (∀ i, i < v.len → 0 ≤ v.byte i ∧ v.byte i < 256) := h7
    have hne : w.heap.size ≠ b := by have := World.block_lt_of_cell? _ _ h3; exact Nat.ne_of_gt this
    clear h5 h6 h7
    generalize hvl : v.len = l at *
    generalize hvt : v.tag = tg at *
    generalize hvb : v.byte = g at *
    have HV : Hid (v.len = l ∧ v.tag = tg ∧ v.byte = g) := ⟨hvl, hvt, hvb⟩
    clear hvl hvt hvb
    go_enter Try.func31, Try.ntmps31
    go_wp2_with fail
    go_region_held3 (fun w' => w'.cell? ⟨b, off, none⟩ = some (.int .u64 tg) ∧ w'.cell? ⟨b, off + 1, none⟩ = some (.slice sa l sc)) (go_keep) (fail)
    go_wp2_with fail
    go_ret
    obtain ⟨e1, e2, e3⟩ := HV.out
    have hba : Below w.heap.size w (w.alloc (.cells #[.int .u64 tg, .slice sa l sc] 67)).drew := ((Below.refl _ _).alloc (Nat.le_refl _) _).drew
    refine ⟨some ⟨w.heap.size, 0, none⟩, rfl, Or.inr ⟨w.heap.size, 0, sa, sc, v, rfl, rfl, ?_, ?_, ?_, ?_, ?_⟩, hba⟩
    · rw [e2]; simp [go_sem]
    · rw [e1]; simp [go_sem]
    · rw [e1]; exact H5.out
    · rw [e1, e3]; exact H6.out.below hba
    · rw [e1, e3]; exact H7.out

/-! ### The environment -/
structure EnvV where
  cls : Option TagV
  ven : Option ByteArray
  mod : Option ByteArray
  lay : Option Int
  idx : Option Int
  ins : Option TagV
  grp : Option TagV
/-- The seven pointers. -/
structure Ptrs where
  cls : Option Addr
  ven : Option Addr
  mod : Option Addr
  lay : Option Addr
  idx : Option Addr
  ins : Option Addr
  grp : Option Addr
def Ptrs.val (p : Ptrs) : Value := .agg #[.pointer p.cls, .pointer p.ven, .pointer p.mod, .pointer p.lay, .pointer p.idx, .pointer p.ins, .pointer p.grp]
structure EnvIs (w : World) (p : Ptrs) (e : EnvV) : Prop where
  cls : TagIs w p.cls e.cls
  ven : StrIs w p.ven e.ven
  mod : StrIs w p.mod e.mod
  lay : U64Is w p.lay e.lay
  idx : U64Is w p.idx e.idx
  ins : TagIs w p.ins e.ins
  grp : TagIs w p.grp e.grp
theorem EnvIs.below {w w' : World} {p : Ptrs} {e : EnvV} (h : EnvIs w p e) (hb : Below w.heap.size w w') : EnvIs w' p e :=
  ⟨h.cls.below hb, h.ven.below hb, h.mod.below hb, h.lay.below hb, h.idx.below hb, h.ins.below hb, h.grp.below hb⟩
/-- The bounds on the tagged values' lengths. -/
structure EnvV.Fits (e : EnvV) : Prop where
  cls : ∀ v, e.cls = some v → v.len ≤ 1048576
  ins : ∀ v, e.ins = some v → v.len ≤ 1048576
  grp : ∀ v, e.grp = some v → v.len ≤ 1048576
end Go.Proofs.Qxb6603359a
