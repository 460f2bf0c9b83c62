/-
  A variable of seven pointers in its box; what a store into it turns.
-/
import Derived.Test.Qxb6603359aCopyEnv
namespace Go.Proofs.Qxb6603359a
open Go.RowKit
set_option linter.unusedVariables false
def seven (p : Ptrs) : Array Value := #[.pointer p.cls, .pointer p.ven, .pointer p.mod, .pointer p.lay, .pointer p.idx, .pointer p.ins, .pointer p.grp]
def BoxAt (w : World) (Z : Nat) (t : TypeId) (p : Ptrs) : Prop := w.heap[Z]? = some (.cells (seven p) t)
structure Cells7 (w : World) (Z : Nat) (p : Ptrs) : Prop where
  c0 : w.cell? ⟨Z, 0, none⟩ = some (.pointer p.cls)
  c1 : w.cell? ⟨Z, 1, none⟩ = some (.pointer p.ven)
  c2 : w.cell? ⟨Z, 2, none⟩ = some (.pointer p.mod)
  c3 : w.cell? ⟨Z, 3, none⟩ = some (.pointer p.lay)
  c4 : w.cell? ⟨Z, 4, none⟩ = some (.pointer p.idx)
  c5 : w.cell? ⟨Z, 5, none⟩ = some (.pointer p.ins)
  c6 : w.cell? ⟨Z, 6, none⟩ = some (.pointer p.grp)
theorem BoxAt.cells {w : World} {Z : Nat} {t : TypeId} {p : Ptrs} (h : BoxAt w Z t p) : Cells7 w Z p := by
  unfold BoxAt seven at h
  refine ⟨?_, ?_, ?_, ?_, ?_, ?_, ?_⟩ <;> simp [World.cell?, h]
theorem BoxAt.frozen {w : World} {Z : Nat} {t : TypeId} {p : Ptrs} (h : BoxAt w Z t p) (i : Nat) : w.frozen? ⟨Z, i, none⟩ = false := by
  unfold BoxAt seven at h
  simp [World.frozen?, h]
theorem BoxAt.lt {w : World} {Z : Nat} {t : TypeId} {p : Ptrs} (h : BoxAt w Z t p) : Z < w.heap.size := by
  unfold BoxAt at h
  rcases Nat.lt_or_ge Z w.heap.size with h' | h'
  · exact h'
  · rw [Array.getElem?_eq_none h'] at h; cases h
theorem BoxAt.only {w : World} {Z : Nat} {t : TypeId} {p : Ptrs} (h : BoxAt w Z t p) : PtrsOnly w Z := by
  intro i v hv
  unfold BoxAt at h
  simp only [World.cell?, h] at hv
  have h7 : i < 7 := by
    rcases Nat.lt_or_ge i 7 with h' | h'
    · exact h'
    · simp [Array.getElem?_eq_none (show (seven p).size ≤ i from h')] at hv
  unfold seven at hv
  have hi : i = 0 ∨ i = 1 ∨ i = 2 ∨ i = 3 ∨ i = 4 ∨ i = 5 ∨ i = 6 := by omega
  rcases hi with rfl | rfl | rfl | rfl | rfl | rfl | rfl <;> (simp at hv; exact ⟨_, hv.symm⟩)
theorem BoxAt.below {w w' : World} {Z : Nat} {t : TypeId} {p : Ptrs} (h : BoxAt w Z t p) (hb : Below w.heap.size w w') : BoxAt w' Z t p := (hb.block _ h.lt).trans h
theorem BoxAt.off {w w' : World} {Y Z : Nat} {t : TypeId} {p : Ptrs} (h : BoxAt w Z t p) (ho : OffZ Y w w') (hne : Z ≠ Y) : BoxAt w' Z t p := (ho Z hne).trans h
/-- Seven stores. -/
def put7 (w : World) (Z : Nat) (p : Ptrs) : World :=
  ((((((w.setCell ⟨Z, 0, none⟩ (.pointer p.cls)).setCell ⟨Z, 1, none⟩ (.pointer p.ven)).setCell ⟨Z, 2, none⟩ (.pointer p.mod)).setCell ⟨Z, 3, none⟩ (.pointer p.lay)).setCell ⟨Z, 4, none⟩ (.pointer p.idx)).setCell ⟨Z, 5, none⟩ (.pointer p.ins)).setCell ⟨Z, 6, none⟩ (.pointer p.grp)
theorem set_block {w : World} {Z i : Nat} {c : Array Value} {t : TypeId} {v : Value} (h : w.heap[Z]? = some (.cells c t)) : (w.setCell ⟨Z, i, none⟩ v).heap[Z]? = some (.cells (c.setIfInBounds i v) t) := by
  simp only [World.setCell]
  rw [Array.getElem?_modify, if_pos rfl, h]
  rfl
theorem BoxAt.put {w : World} {Z : Nat} {t : TypeId} {p : Ptrs} (h : BoxAt w Z t p) (q : Ptrs) : BoxAt (put7 w Z q) Z t q := by
  unfold BoxAt at h
  have := set_block (i := 6) (v := .pointer q.grp) (set_block (i := 5) (v := .pointer q.ins) (set_block (i := 4) (v := .pointer q.idx) (set_block (i := 3) (v := .pointer q.lay) (set_block (i := 2) (v := .pointer q.mod) (set_block (i := 1) (v := .pointer q.ven) (set_block (i := 0) (v := .pointer q.cls) h))))))
  unfold BoxAt put7
  rw [this]
  simp [seven]
theorem put_off (w : World) (Z : Nat) (q : Ptrs) : OffZ Z w (put7 w Z q) := (((((((OffZ.refl _ _).set 0 _).set 1 _).set 2 _).set 3 _).set 4 _).set 5 _).set 6 _
theorem put_below {w0 w : World} {B Z : Nat} (h : Below B w0 w) (hz : B ≤ Z) (q : Ptrs) : Below B w0 (put7 w Z q) :=
  ((((((h.setCell (p := ⟨Z, 0, none⟩) hz _).setCell (p := ⟨Z, 1, none⟩) hz _).setCell (p := ⟨Z, 2, none⟩) hz _).setCell (p := ⟨Z, 3, none⟩) hz _).setCell (p := ⟨Z, 4, none⟩) hz _).setCell (p := ⟨Z, 5, none⟩) hz _).setCell (p := ⟨Z, 6, none⟩) hz _
theorem put_size (w : World) (Z : Nat) (q : Ptrs) : (put7 w Z q).heap.size = w.heap.size := by simp [put7]
theorem box_new (w : World) (t : TypeId) (p : Ptrs) : BoxAt (w.alloc (.cells (seven p) t)) w.heap.size t p := by
  unfold BoxAt
  exact Go.Deep.blk_alloc_new w (.cells (seven p) t)
theorem box_old {w : World} {Z : Nat} {t : TypeId} {p : Ptrs} (h : BoxAt w Z t p) (o : Obj) : BoxAt (w.alloc o) Z t p := h.below ((Below.refl _ _).alloc (Nat.le_refl _) _)
end Go.Proofs.Qxb6603359a
