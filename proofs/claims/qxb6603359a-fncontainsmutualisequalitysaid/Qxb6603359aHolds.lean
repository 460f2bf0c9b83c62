/-
  zzSameTagged (32) and 'holds' (37 to 42).
-/
import Derived.Test.Qxb6603359aSame
namespace Go.Proofs.Qxb6603359a
open Go.RowKit
set_option linter.unusedVariables false

set_option maxHeartbeats 1000000 in
theorem sameTag_any (p q : Option Addr) (s t : Option TagV) (w : World) (h1 : TagIs w p s) (h2 : TagIs w q t) (hl : ∀ v, s = some v → v.len ≤ 1048576) :
    Calls Try.prog 32 #[.pointer p, .pointer q] w fun e w' => e = .returned (.bool (optSame sameT s t)) ∧ Below w.heap.size w w' := by
  rcases h1 with ⟨rfl, rfl⟩ | ⟨b1, o1, sa1, sc1, v1, rfl, rfl, c1, d1, e1, f1, g1⟩
  · rcases h2 with ⟨rfl, rfl⟩ | ⟨b2, o2, sa2, sc2, v2, rfl, rfl, c2, d2, e2, f2, g2⟩
    · show Calls Try.prog 32 _ w fun e w' => e = .returned (.bool true) ∧ _
      go_enter Try.func32, Try.ntmps32
      go_wp2
      go_ret
      exact ⟨rfl, Below.refl _ _⟩
    · show Calls Try.prog 32 _ w fun e w' => e = .returned (.bool false) ∧ _
      go_enter Try.func32, Try.ntmps32
      go_wp2
      go_ret
      exact ⟨rfl, Below.refl _ _⟩
  · rcases h2 with ⟨rfl, rfl⟩ | ⟨b2, o2, sa2, sc2, v2, rfl, rfl, c2, d2, e2, f2, g2⟩
    · show Calls Try.prog 32 _ w fun e w' => e = .returned (.bool false) ∧ _
      go_enter Try.func32, Try.ntmps32
      go_wp2
      go_ret
      exact ⟨rfl, Below.refl _ _⟩
    · show Calls Try.prog 32 _ w fun e w' => e = .returned (.bool ((v1.tag == v2.tag) && bytesB v1.len v1.byte v2.len v2.byte)) ∧ _
      have hv := hl v1 rfl
      have HC : Hid (Calls Try.prog 43 #[.slice sa1 v1.len sc1, .slice sa2 v2.len sc2] w.drew fun e w' => e = .returned (.bool (bytesB v1.len v1.byte v2.len v2.byte)) ∧ Below w.drew.heap.size w.drew w') :=
        sameBytes_any sa1 sa2 v1.len sc1 v2.len sc2 v1.byte v2.byte w.drew (by omega) f1 f2
      clear e1 e2 f1 f2 g1 g2 hl hv
      generalize v1.len = l1 at *
      generalize v2.len = l2 at *
      generalize v1.byte = y1 at *
      generalize v2.byte = y2 at *
      by_cases ht : v1.tag = v2.tag
      · have HT : (v1.tag == v2.tag) = true := by rw [ht]; exact beq_self_eq_true _
        rw [HT, Bool.true_and]
        rw [← ht] at c2
        clear HT ht
        generalize v1.tag = t1 at *
        have HX : Hid (∀ w1 : World, Below w.drew.heap.size w.drew w1 → w1.cell? ⟨b1, o1, none⟩ = some (.int .u64 t1) ∧ w1.cell? ⟨b1, o1 + 1, none⟩ = some (.slice sa1 l1 sc1) ∧ w1.cell? ⟨b2, o2, none⟩ = some (.int .u64 t1) ∧ w1.cell? ⟨b2, o2 + 1, none⟩ = some (.slice sa2 l2 sc2)) := fun w1 hb =>
          ⟨cell_keep (w := w.drew) hb c1, cell_keep (w := w.drew) hb d1, cell_keep (w := w.drew) hb c2, cell_keep (w := w.drew) hb d2⟩
        generalize bytesB l1 y1 l2 y2 = B at *
        go_enter Try.func32, Try.ntmps32
        go_wp2_with fail
        go_region_held3 (fun w' => w'.cell? ⟨b1, o1, none⟩ = some (.int .u64 t1) ∧ w'.cell? ⟨b1, o1 + 1, none⟩ = some (.slice sa1 l1 sc1) ∧ w'.cell? ⟨b2, o2, none⟩ = some (.int .u64 t1) ∧ w'.cell? ⟨b2, o2 + 1, none⟩ = some (.slice sa2 l2 sc2)) (go_keep)
          (first | (go_at_call 43; refine (Hid.out HC).mono ?_; rintro e w1 ⟨rfl, hb1⟩; obtain ⟨k1, k2, k3, k4⟩ := HX.out _ hb1; have HB1 : Hid (Below w.heap.size w w1) := ⟨hb1.os, hb1.tape, hb1.output, hb1.size, hb1.block⟩; clear hb1))
        go_wp2_with fail
        go_ret
        exact ⟨rfl, HB1.out⟩
      · have he : (v1.tag == v2.tag) = false := beq_eq_false_iff_ne.2 ht
        rw [he]
        generalize v1.tag = t1 at *
        generalize v2.tag = t2 at *
        go_enter Try.func32, Try.ntmps32
        go_wp2_with fail
        go_quiet (fail)
        go_wp2_with fail
        go_ret
        exact ⟨rfl, below_drewN (Below.refl _ _) _⟩

/-! ### holds -/
def optHolds {α : Type} (f : α → α → Bool) : Option α → Option α → Bool
  | none, _ => true
  | some _, none => false
  | some x, some y => f x y

theorem eqS (s t : ByteArray) (w : World) : Calls Try.prog 40 #[.string s, .string t] w fun e w' => e = .returned (.bool (s.toList == t.toList)) ∧ w' = w := by
  go_enter Try.func40, Try.ntmps40
  go_wp2
  go_ret
  exact ⟨rfl, rfl⟩
theorem eqU (s t : Int) (w : World) : Calls Try.prog 42 #[.int .u64 s, .int .u64 t] w fun e w' => e = .returned (.bool (s == t)) ∧ w' = w := by
  go_enter Try.func42, Try.ntmps42
  go_wp2
  go_ret
  exact ⟨rfl, rfl⟩

set_option maxHeartbeats 1000000 in
theorem holdsStr_any (p q : Option Addr) (s t : Option ByteArray) (w : World) (h1 : StrIs w p s) (h2 : StrIs w q t) :
    Calls Try.prog 39 #[.pointer p, .pointer q, .func (.func 40) #[] #[]] w fun e w' => e = .returned (.bool (optHolds sameS s t)) ∧ Below w.heap.size w w' := by
  rcases h1 with ⟨rfl, rfl⟩ | ⟨b1, o1, s, rfl, rfl, c1⟩
  · show Calls Try.prog 39 _ w fun e w' => e = .returned (.bool true) ∧ _
    clear h2
    go_enter Try.func39, Try.ntmps39
    go_wp2
    go_quiet (fail)
    go_wp2
    go_ret
    exact ⟨rfl, below_drewN (Below.refl _ _) _⟩
  · rcases h2 with ⟨rfl, rfl⟩ | ⟨b2, o2, t, rfl, rfl, c2⟩
    · show Calls Try.prog 39 _ w fun e w' => e = .returned (.bool false) ∧ _
      go_enter Try.func39, Try.ntmps39
      go_wp2
      go_quiet (fail)
      go_wp2
      go_ret
      exact ⟨rfl, below_drewN (Below.refl _ _) _⟩
    · show Calls Try.prog 39 _ w fun e w' => e = .returned (.bool (s.toList == t.toList)) ∧ _
      have HC : Hid (∀ w', Calls Try.prog 40 #[.string s, .string t] w' fun e w1 => e = .returned (.bool (s.toList == t.toList)) ∧ w1 = w') := eqS s t
      generalize (s.toList == t.toList) = B at *
      go_enter Try.func39, Try.ntmps39
      go_wp2
      go_quiet ((go_at_call 40; exact Calls.quiet_of_same (HC.out _)))
      go_wp2
      go_ret
      exact ⟨rfl, below_drewN (Below.refl _ _) _⟩

set_option maxHeartbeats 1000000 in
theorem holdsU64_any (p q : Option Addr) (s t : Option Int) (w : World) (h1 : U64Is w p s) (h2 : U64Is w q t) :
    Calls Try.prog 41 #[.pointer p, .pointer q, .func (.func 42) #[] #[]] w fun e w' => e = .returned (.bool (optHolds sameU s t)) ∧ Below w.heap.size w w' := by
  rcases h1 with ⟨rfl, rfl⟩ | ⟨b1, o1, s, rfl, rfl, c1⟩
  · show Calls Try.prog 41 _ w fun e w' => e = .returned (.bool true) ∧ _
    clear h2
    go_enter Try.func41, Try.ntmps41
    go_wp2
    go_quiet (fail)
    go_wp2
    go_ret
    exact ⟨rfl, below_drewN (Below.refl _ _) _⟩
  · rcases h2 with ⟨rfl, rfl⟩ | ⟨b2, o2, t, rfl, rfl, c2⟩
    · show Calls Try.prog 41 _ w fun e w' => e = .returned (.bool false) ∧ _
      go_enter Try.func41, Try.ntmps41
      go_wp2
      go_quiet (fail)
      go_wp2
      go_ret
      exact ⟨rfl, below_drewN (Below.refl _ _) _⟩
    · show Calls Try.prog 41 _ w fun e w' => e = .returned (.bool (s == t)) ∧ _
      have HC : Hid (∀ w', Calls Try.prog 42 #[.int .u64 s, .int .u64 t] w' fun e w1 => e = .returned (.bool (s == t)) ∧ w1 = w') := eqU s t
      generalize (s == t) = B at *
      go_enter Try.func41, Try.ntmps41
      go_wp2
      go_quiet ((go_at_call 42; exact Calls.quiet_of_same (HC.out _)))
      go_wp2
      go_ret
      exact ⟨rfl, below_drewN (Below.refl _ _) _⟩

/-- sameTagged. -/
theorem st_any (t1 t2 : Int) (sa1 sa2 : Option Addr) (l1 c1 l2 c2 : Nat) (g1 g2 : Nat → Int) (w : World) (v1 : View w sa1 l1 g1) (v2 : View w sa2 l2 g2) (h1 : ∀ i, i < l1 → 0 ≤ g1 i ∧ g1 i < 256) (h2 : ∀ i, i < l2 → 0 ≤ g2 i ∧ g2 i < 256) :
    Calls Try.prog 38 #[.agg #[.int .u64 t1, .slice sa1 l1 c1], .agg #[.int .u64 t2, .slice sa2 l2 c2]] w fun e w' => e = .returned (.bool ((t1 == t2) && bytesB l1 g1 l2 g2)) ∧ Below w.heap.size w w' := by
  by_cases ht : t1 = t2
  · subst ht
    rw [beq_self_eq_true, Bool.true_and]
    have hb2 : Below w.heap.size w ((w.alloc (.cells #[.int .u64 t1, .slice sa1 l1 c1] 67)).alloc (.cells #[.int .u64 t1, .slice sa2 l2 c2] 67)) := ((Below.refl _ _).alloc (Nat.le_refl _) _).alloc (by simp) _
    have HC := equal_any sa1 sa2 l1 c1 l2 c2 g1 g2 _ (v1.below hb2) (v2.below hb2) h1 h2
    have HC' : Hid (Calls Try.prog 46 #[.slice sa1 l1 c1, .slice sa2 l2 c2] ((w.alloc (.cells #[.int .u64 t1, .slice sa1 l1 c1] 67)).alloc (.cells #[.int .u64 t1, .slice sa2 l2 c2] 67)) fun e w' => e = .returned (.bool (bytesB l1 g1 l2 g2)) ∧ w' = ((w.alloc (.cells #[.int .u64 t1, .slice sa1 l1 c1] 67)).alloc (.cells #[.int .u64 t1, .slice sa2 l2 c2] 67))) := HC
    have HB : Hid (Below w.heap.size w ((w.alloc (.cells #[.int .u64 t1, .slice sa1 l1 c1] 67)).alloc (.cells #[.int .u64 t1, .slice sa2 l2 c2] 67))) := hb2
    clear v1 v2 h1 h2 HC hb2
    generalize bytesB l1 g1 l2 g2 = B at *
    go_enter Try.func38, Try.ntmps38
    go_wp2_with fail
    refine HC'.out.mono ?_
    rintro e w1 ⟨rfl, rfl⟩
    go_wp2_with fail
    go_ret
    exact ⟨rfl, HB.out⟩
  · have he : (t1 == t2) = false := beq_eq_false_iff_ne.2 ht
    rw [he]
    clear v1 v2 h1 h2
    go_enter Try.func38, Try.ntmps38
    go_wp2_with fail
    go_ret
    exact ⟨rfl, ((Below.refl _ _).alloc (Nat.le_refl _) _).alloc (by simp) _⟩

set_option maxHeartbeats 1000000 in
theorem holdsTag_any (p q : Option Addr) (s t : Option TagV) (w : World) (h1 : TagIs w p s) (h2 : TagIs w q t) :
    Calls Try.prog 37 #[.pointer p, .pointer q, .func (.func 38) #[] #[]] w fun e w' => e = .returned (.bool (optHolds sameT s t)) ∧ Below w.heap.size w w' := by
  rcases h1 with ⟨rfl, rfl⟩ | ⟨b1, o1, sa1, sc1, v1, rfl, rfl, c1, d1, e1, f1, g1⟩
  · show Calls Try.prog 37 _ w fun e w' => e = .returned (.bool true) ∧ _
    clear h2
    go_enter Try.func37, Try.ntmps37
    go_wp2
    go_quiet (fail)
    go_wp2
    go_ret
    exact ⟨rfl, below_drewN (Below.refl _ _) _⟩
  · rcases h2 with ⟨rfl, rfl⟩ | ⟨b2, o2, sa2, sc2, v2, rfl, rfl, c2, d2, e2, f2, g2⟩
    · show Calls Try.prog 37 _ w fun e w' => e = .returned (.bool false) ∧ _
      clear d1 e1 f1 g1
      go_enter Try.func37, Try.ntmps37
      go_wp2
      go_quiet (fail)
      go_wp2
      go_ret
      exact ⟨rfl, below_drewN (Below.refl _ _) _⟩
    · show Calls Try.prog 37 _ w fun e w' => e = .returned (.bool ((v1.tag == v2.tag) && bytesB v1.len v1.byte v2.len v2.byte)) ∧ _
      have HC : Hid (Calls Try.prog 38 #[.agg #[.int .u64 v1.tag, .slice sa1 v1.len sc1], .agg #[.int .u64 v2.tag, .slice sa2 v2.len sc2]] w.drew fun e w' => e = .returned (.bool ((v1.tag == v2.tag) && bytesB v1.len v1.byte v2.len v2.byte)) ∧ Below w.drew.heap.size w.drew w') :=
        st_any v1.tag v2.tag sa1 sa2 v1.len sc1 v2.len sc2 v1.byte v2.byte w.drew f1 f2 g1 g2
      clear e1 e2 f1 f2 g1 g2
      generalize ((v1.tag == v2.tag) && bytesB v1.len v1.byte v2.len v2.byte) = B at *
      generalize v1.len = l1 at *
      generalize v2.len = l2 at *
      generalize v1.tag = t1 at *
      generalize v2.tag = t2 at *
      have HX : Hid (∀ w1 : World, Below w.drew.heap.size w.drew w1 → w1.cell? ⟨b1, o1, none⟩ = some (.int .u64 t1) ∧ w1.cell? ⟨b1, o1 + 1, none⟩ = some (.slice sa1 l1 sc1) ∧ w1.cell? ⟨b2, o2, none⟩ = some (.int .u64 t2) ∧ w1.cell? ⟨b2, o2 + 1, none⟩ = some (.slice sa2 l2 sc2)) := fun w1 hb =>
        ⟨cell_keep (w := w.drew) hb c1, cell_keep (w := w.drew) hb d1, cell_keep (w := w.drew) hb c2, cell_keep (w := w.drew) hb d2⟩
      go_enter Try.func37, Try.ntmps37
      go_wp2_with fail
      go_region_held3 (fun w' => w'.cell? ⟨b1, o1, none⟩ = some (.int .u64 t1) ∧ w'.cell? ⟨b1, o1 + 1, none⟩ = some (.slice sa1 l1 sc1) ∧ w'.cell? ⟨b2, o2, none⟩ = some (.int .u64 t2) ∧ w'.cell? ⟨b2, o2 + 1, none⟩ = some (.slice sa2 l2 sc2)) (go_keep)
        (first | (go_at_call 38; refine (Hid.out HC).mono ?_; rintro e w1 ⟨rfl, hb1⟩; obtain ⟨k1, k2, k3, k4⟩ := HX.out _ hb1; have HB1 : Hid (Below w.heap.size w w1) := ⟨hb1.os, hb1.tape, hb1.output, hb1.size, hb1.block⟩; clear hb1))
      go_wp2_with fail
      go_ret
      exact ⟨rfl, HB1.out⟩
end Go.Proofs.Qxb6603359a
