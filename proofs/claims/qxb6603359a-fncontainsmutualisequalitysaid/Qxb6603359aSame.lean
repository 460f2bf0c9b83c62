/-
  The walks of zzSameBytes (43), bytes.Equal (46), zzSameTag (32), zzSameStr (33), zzSameU64 (34).
-/
import Derived.Test.Qxb6603359aEnv
import Derived.Laws.BytesArg
namespace Go.Proofs.Qxb6603359a
open Go.RowKit
set_option linter.unusedVariables false

def bytesB (l1 : Nat) (g1 : Nat → Int) (l2 : Nat) (g2 : Nat → Int) : Bool := (l1 == l2) && (List.range l1).all fun i => g1 i == g2 i
theorem bytesB_ne (l1 : Nat) (g1 : Nat → Int) (l2 : Nat) (g2 : Nat → Int) (h : l1 ≠ l2) : bytesB l1 g1 l2 g2 = false := by simp [bytesB, h]
theorem bytesB_true (l : Nat) (g1 g2 : Nat → Int) (h : ∀ i, i < l → g1 i = g2 i) : bytesB l g1 l g2 = true := by
  unfold bytesB
  rw [beq_self_eq_true, Bool.true_and, List.all_eq_true]
  intro i hi; rw [beq_iff_eq]; exact h i (by simpa using hi)
theorem bytesB_false (l : Nat) (g1 g2 : Nat → Int) (i : Nat) (hi : i < l) (h : g1 i ≠ g2 i) : bytesB l g1 l g2 = false := by
  cases e : bytesB l g1 l g2
  · rfl
  · exfalso
    unfold bytesB at e
    rw [beq_self_eq_true, Bool.true_and, List.all_eq_true] at e
    have := e i (by simpa using hi)
    rw [beq_iff_eq] at this
    exact h this
theorem bytesB_comm (l1 : Nat) (g1 : Nat → Int) (l2 : Nat) (g2 : Nat → Int) : bytesB l1 g1 l2 g2 = bytesB l2 g2 l1 g1 := by
  by_cases h : l1 = l2
  · subst h
    unfold bytesB
    congr 1
    have : (fun i => g1 i == g2 i) = fun i => g2 i == g1 i := by
      funext i; rw [Bool.eq_iff_iff, beq_iff_eq, beq_iff_eq]; exact eq_comm
    rw [this]
  · rw [bytesB_ne _ _ _ _ h, bytesB_ne _ _ _ _ (fun e => h e.symm)]
/-- The first place where two rows of bytes part; or none. -/
theorem first_diff (l : Nat) (g1 g2 : Nat → Int) : (∀ i, i < l → g1 i = g2 i) ∨ ∃ j, j < l ∧ g1 j ≠ g2 j ∧ ∀ i, i < j → g1 i = g2 i := by
  induction l with
  | zero => exact Or.inl (fun i hi => by omega)
  | succ m ih =>
    rcases ih with h | ⟨j, h1, h2, h3⟩
    · by_cases e : g1 m = g2 m
      · refine Or.inl (fun i hi => ?_)
        by_cases ei : i = m
        · rw [ei]; exact e
        · exact h i (by omega)
      · exact Or.inr ⟨m, by omega, e, h⟩
    · exact Or.inr ⟨j, by omega, h2, h3⟩

theorem sb_ne (sa sb : Option Addr) (l1 c1 l2 c2 : Nat) (w : World) (h : ((l1 : Int) != (l2 : Int)) = true) :
    Calls Try.prog 43 #[.slice sa l1 c1, .slice sb l2 c2] w fun e w' => e = .returned (.bool false) ∧ Below w.heap.size w w' := by
  go_enter Try.func43, Try.ntmps43
  go_wp2
  go_ret
  exact ⟨rfl, Below.refl _ _⟩
theorem sb_zero (sa sb : Option Addr) (c1 c2 : Nat) (w : World) :
    Calls Try.prog 43 #[.slice sa 0 c1, .slice sb 0 c2] w fun e w' => e = .returned (.bool true) ∧ Below w.heap.size w w' := by
  go_enter Try.func43, Try.ntmps43
  go_wp2
  go_loop [5] (fun i => i = .int .i64 0) (fun _ => 0)
  case atStart => rfl
  case round =>
    subst hrel
    go_wp2
    go_ret
    exact ⟨rfl, Below.refl _ _⟩

set_option maxHeartbeats 1000000 in
theorem sb_eq (b1 o1 b2 o2 l c1 c2 : Nat) (g1 g2 : Nat → Int) (w : World) (hl : l ≤ 9223372036854775807)
    (h1 : ∀ i, i < l → w.cell? ⟨b1, o1 + i, none⟩ = some (.int .u8 (g1 i))) (h2 : ∀ i, i < l → w.cell? ⟨b2, o2 + i, none⟩ = some (.int .u8 (g2 i))) :
    Calls Try.prog 43 #[.slice (some ⟨b1, o1, none⟩) l c1, .slice (some ⟨b2, o2, none⟩) l c2] w fun e w' => e = .returned (.bool (bytesB l g1 l g2)) ∧ Below w.heap.size w w' := by
  have H1 : Hid (∀ i, i < l → w.cell? ⟨b1, o1 + i, none⟩ = some (.int .u8 (g1 i))) := h1
  have H2 : Hid (∀ i, i < l → w.cell? ⟨b2, o2 + i, none⟩ = some (.int .u8 (g2 i))) := h2
  clear h1 h2
  obtain ⟨st, hst, hst2, hst3⟩ : ∃ st, st ≤ l ∧ (∀ i, i < st → g1 i = g2 i) ∧ ((st = l ∧ bytesB l g1 l g2 = true) ∨ (st < l ∧ g1 st ≠ g2 st ∧ bytesB l g1 l g2 = false)) := by
    rcases first_diff l g1 g2 with h | ⟨j, j1, j2, j3⟩
    · exact ⟨l, Nat.le_refl _, h, Or.inl ⟨rfl, bytesB_true l g1 g2 h⟩⟩
    · exact ⟨j, by omega, j3, Or.inr ⟨j1, j2, bytesB_false l g1 g2 j j1 j2⟩⟩
  have HS2 : Hid (∀ i, i < st → g1 i = g2 i) := hst2
  have HS3 : Hid ((st = l ∧ bytesB l g1 l g2 = true) ∨ (st < l ∧ g1 st ≠ g2 st ∧ bytesB l g1 l g2 = false)) := hst3
  clear hst2 hst3
  go_enter Try.func43, Try.ntmps43
  go_wp2
  go_loopw [5] (fun v wr => ∃ k : Nat, k ≤ st ∧ v = .int .i64 k ∧ Below w.heap.size w wr) (fun v _ => l - (intOf v).toNat)
  case atStart => exact ⟨0, Nat.zero_le _, rfl, Below.refl _ _⟩
  case round =>
    obtain ⟨k, hk, rfl, hbel⟩ := hrel
    have HB : Hid (Below w.heap.size w wr) := hbel
    by_cases hlt : k < l
    · have c1 := cell_keep hbel (H1.out k hlt)
      have c2 := cell_keep hbel (H2.out k hlt)
      clear hbel
      by_cases hks : k < st
      · have he : (g1 k != g2 k) = false := by rw [HS2.out k hks]; simp
        generalize g1 k = x at c1 he
        generalize g2 k = y at c2 he
        go_wp2_with fail
        go_quiet (fail)
        go_wp2_with fail
        go_roundw
        case rel => exact ⟨k + 1, by omega, by go_num, below_drewN HB.out _⟩
        case measure => simp [intOf]; omega
      · have hks' : k = st := by omega
        subst hks'
        have hx : g1 k ≠ g2 k ∧ bytesB l g1 l g2 = false := by
          rcases HS3.out with ⟨a, _⟩ | ⟨_, a, b⟩
          · omega
          · exact ⟨a, b⟩
        have he : (g1 k != g2 k) = true := bne_iff_ne.2 hx.1
        have HF : Hid (bytesB l g1 l g2 = false) := hx.2
        clear hx
        generalize g1 k = x at c1 he
        generalize g2 k = y at c2 he
        go_wp2_with fail
        go_quiet (fail)
        go_wp2_with fail
        go_ret
        exact ⟨by rw [HF.out]; rfl, below_drewN HB.out _⟩
    · have HF : Hid (bytesB l g1 l g2 = true) := by
        rcases HS3.out with ⟨_, b⟩ | ⟨a, _⟩
        · exact b
        · omega
      clear hbel
      go_wp2_with fail
      go_ret
      exact ⟨by rw [HF.out]; rfl, HB.out⟩

/-- zzSameBytes, whatever the two slices. -/
theorem sameBytes_any (sa sb : Option Addr) (l1 c1 l2 c2 : Nat) (g1 g2 : Nat → Int) (w : World) (hl : l1 ≤ 9223372036854775807) (v1 : View w sa l1 g1) (v2 : View w sb l2 g2) :
    Calls Try.prog 43 #[.slice sa l1 c1, .slice sb l2 c2] w fun e w' => e = .returned (.bool (bytesB l1 g1 l2 g2)) ∧ Below w.heap.size w w' := by
  by_cases h : l1 = l2
  · subst h
    rcases Nat.eq_zero_or_pos l1 with rfl | hp
    · exact sb_zero sa sb c1 c2 w
    · obtain ⟨b1, o1, rfl, h1⟩ := v1 hp
      obtain ⟨b2, o2, rfl, h2⟩ := v2 hp
      exact sb_eq b1 o1 b2 o2 l1 c1 c2 g1 g2 w hl h1 h2
  · rw [bytesB_ne _ _ _ _ h]
    exact sb_ne sa sb l1 c1 l2 c2 w (bne_iff_ne.2 (by omega))

/-! ### bytes.Equal -/
def cutN (g : Nat → Int) (l : Nat) : List Int := (List.range l).map g

theorem conv_view (sa : Option Addr) (l c : Nat) (g : Nat → Int) (w : World) (v : View w sa l g) : (convert 47 9 (.slice sa l c)).run Try.prog w = .ok (.string (strOfNums (cutN g l))) w := by
  rcases Nat.eq_zero_or_pos l with rfl | hp
  · cases sa with
    | none => exact run_convert_bytes_nil (P := Try.prog) w 47 5 Try.underlying47 Try.underlying5 0 c 9 Try.underlying9
    | some x =>
      have hl : (loadCells x 0).run Try.prog w = .ok #[] w := by
        have := run_loadCells_list (P := Try.prog) w x [] (fun j v hj => by simp at hj)
        simpa using this
      rw [run_convert_bytes_string (P := Try.prog) w 47 9 5 _ 0 c Try.underlying47 Try.underlying5 Try.underlying9, run_bytesToString w _ 0 c [] (by simpa using hl)]
      rfl
  · obtain ⟨b, off, rfl, hc⟩ := v hp
    exact run_convert_bytes_arg (P := Try.prog) w 47 5 Try.underlying47 Try.underlying5 b off l c (cutN g l) (by simp [cutN]) (fun i hi => by rw [hc i hi]; simp [cutN, hi]) 9 Try.underlying9

theorem u8_inj (x y : Int) (hx : 0 ≤ x ∧ x < 256) (hy : 0 ≤ y ∧ y < 256) (h : UInt8.ofNat x.toNat = UInt8.ofNat y.toNat) : x = y := by
  have := congrArg UInt8.toNat h
  rw [UInt8.toNat_ofNat', UInt8.toNat_ofNat'] at this
  omega

theorem str_eq (l1 l2 : Nat) (g1 g2 : Nat → Int) (h1 : ∀ i, i < l1 → 0 ≤ g1 i ∧ g1 i < 256) (h2 : ∀ i, i < l2 → 0 ≤ g2 i ∧ g2 i < 256) :
    ((strOfNums (cutN g1 l1)).toList == (strOfNums (cutN g2 l2)).toList) = bytesB l1 g1 l2 g2 := by
  rw [ByteArray.toList_eq, ByteArray.toList_eq, strOfNums_data, strOfNums_data]
  by_cases hl : l1 = l2
  · subst hl
    rcases first_diff l1 g1 g2 with h | ⟨j, j1, j2, j3⟩
    · rw [bytesB_true l1 g1 g2 h, beq_iff_eq]
      unfold cutN
      rw [List.map_map, List.map_map]
      exact List.map_congr_left (fun i hi => by simp [h i (by simpa using hi)])
    · rw [bytesB_false l1 g1 g2 j j1 j2, beq_eq_false_iff_ne]
      intro e
      have := congrArg (fun l => l[j]?) e
      simp [cutN, j1] at this
      exact j2 (u8_inj _ _ (h1 j j1) (h2 j j1) (by simpa using this))
  · rw [bytesB_ne _ _ _ _ hl, beq_eq_false_iff_ne]
    intro e
    have := congrArg List.length e
    simp [cutN] at this
    exact hl this

/-- bytes.Equal. -/
theorem equal_any (sa sb : Option Addr) (l1 c1 l2 c2 : Nat) (g1 g2 : Nat → Int) (w : World) (v1 : View w sa l1 g1) (v2 : View w sb l2 g2) (h1 : ∀ i, i < l1 → 0 ≤ g1 i ∧ g1 i < 256) (h2 : ∀ i, i < l2 → 0 ≤ g2 i ∧ g2 i < 256) :
    Calls Try.prog 46 #[.slice sa l1 c1, .slice sb l2 c2] w fun e w' => e = .returned (.bool (bytesB l1 g1 l2 g2)) ∧ w' = w := by
  have k1 := conv_view sa l1 c1 g1 w v1
  have k2 := conv_view sb l2 c2 g2 w v2
  have HF : Hid (((strOfNums (cutN g1 l1)).toList == (strOfNums (cutN g2 l2)).toList) = bytesB l1 g1 l2 g2) := str_eq l1 l2 g1 g2 h1 h2
  clear v1 v2 h1 h2
  generalize strOfNums (cutN g1 l1) = S1 at *
  generalize strOfNums (cutN g2 l2) = S2 at *
  go_enter Try.func46, Try.ntmps46
  go_wp2
  go_ret
  exact ⟨by rw [← HF.out]; rfl, rfl⟩

/-! ### zzSameTag, zzSameStr, zzSameU64 -/
def optSame {α : Type} (f : α → α → Bool) : Option α → Option α → Bool
  | none, none => true
  | some x, some y => f x y
  | _, _ => false
def sameT (a b : TagV) : Bool := (a.tag == b.tag) && bytesB a.len a.byte b.len b.byte
def sameS (a b : ByteArray) : Bool := a.toList == b.toList
def sameU (a b : Int) : Bool := a == b

set_option maxHeartbeats 1000000 in
theorem sameStr_any (p q : Option Addr) (s t : Option ByteArray) (w : World) (h1 : StrIs w p s) (h2 : StrIs w q t) :
    Calls Try.prog 33 #[.pointer p, .pointer q] w fun e w' => e = .returned (.bool (optSame sameS s t)) ∧ Below w.heap.size w w' := by
  rcases h1 with ⟨rfl, rfl⟩ | ⟨b1, o1, s, rfl, rfl, c1⟩
  · rcases h2 with ⟨rfl, rfl⟩ | ⟨b2, o2, t, rfl, rfl, c2⟩
    · show Calls Try.prog 33 _ w fun e w' => e = .returned (.bool true) ∧ _
      go_enter Try.func33, Try.ntmps33
      go_wp2
      go_ret
      exact ⟨rfl, Below.refl _ _⟩
    · show Calls Try.prog 33 _ w fun e w' => e = .returned (.bool false) ∧ _
      go_enter Try.func33, Try.ntmps33
      go_wp2
      go_ret
      exact ⟨rfl, Below.refl _ _⟩
  · rcases h2 with ⟨rfl, rfl⟩ | ⟨b2, o2, t, rfl, rfl, c2⟩
    · show Calls Try.prog 33 _ w fun e w' => e = .returned (.bool false) ∧ _
      go_enter Try.func33, Try.ntmps33
      go_wp2
      go_ret
      exact ⟨rfl, Below.refl _ _⟩
    · show Calls Try.prog 33 _ w fun e w' => e = .returned (.bool (s.toList == t.toList)) ∧ _
      go_enter Try.func33, Try.ntmps33
      go_wp2
      go_quiet (fail)
      go_wp2
      go_ret
      exact ⟨rfl, below_drewN (Below.refl _ _) _⟩

set_option maxHeartbeats 1000000 in
theorem sameU64_any (p q : Option Addr) (s t : Option Int) (w : World) (h1 : U64Is w p s) (h2 : U64Is w q t) :
    Calls Try.prog 34 #[.pointer p, .pointer q] w fun e w' => e = .returned (.bool (optSame sameU s t)) ∧ Below w.heap.size w w' := by
  rcases h1 with ⟨rfl, rfl⟩ | ⟨b1, o1, s, rfl, rfl, c1⟩
  · rcases h2 with ⟨rfl, rfl⟩ | ⟨b2, o2, t, rfl, rfl, c2⟩
    · show Calls Try.prog 34 _ w fun e w' => e = .returned (.bool true) ∧ _
      go_enter Try.func34, Try.ntmps34
      go_wp2
      go_ret
      exact ⟨rfl, Below.refl _ _⟩
    · show Calls Try.prog 34 _ w fun e w' => e = .returned (.bool false) ∧ _
      go_enter Try.func34, Try.ntmps34
      go_wp2
      go_ret
      exact ⟨rfl, Below.refl _ _⟩
  · rcases h2 with ⟨rfl, rfl⟩ | ⟨b2, o2, t, rfl, rfl, c2⟩
    · show Calls Try.prog 34 _ w fun e w' => e = .returned (.bool false) ∧ _
      go_enter Try.func34, Try.ntmps34
      go_wp2
      go_ret
      exact ⟨rfl, Below.refl _ _⟩
    · show Calls Try.prog 34 _ w fun e w' => e = .returned (.bool (s == t)) ∧ _
      go_enter Try.func34, Try.ntmps34
      go_wp2
      go_quiet (fail)
      go_wp2
      go_ret
      exact ⟨rfl, below_drewN (Below.refl _ _) _⟩
end Go.Proofs.Qxb6603359a
