/-
  The walks of the grammar's model: b1GbClass (26), b1GbMatches (22), b1GbModel (18).
-/
import Derived.Test.Qxb6603264aRows
import Derived.Test.Qxb6603264aPlain
import Derived.WalkKit
import Derived.WalkSpells
namespace Go.Proofs.Qxb6603264a
open Go.RowKit

theorem cls_1 (pos : Nat) (c : Int) : cls 1 pos c = decide (c ≤ 127) := by simp [cls]
theorem cls_0 (form : Nat) (c : Int) (h : form ≠ 1) : cls form 0 c = leadB c := by simp [cls, h]
theorem cls_42 (c : Int) : cls 4 2 c = leadB c := by simp [cls]
theorem cls_2 (pos : Nat) (c : Int) (h : pos ≠ 0) : cls 2 pos c = twoB c := by simp [cls, h]
theorem cls_4 (pos : Nat) (c : Int) (h : pos ≠ 0) (h2 : pos ≠ 2) : cls 4 pos c = digB c := by simp [cls, h, h2]

set_option maxHeartbeats 1000000 in
theorem class_lead (form pos : Nat) (c : Int) (w : World) (hf : form = 2 ∨ form = 4) (hp : pos = 0 ∨ (form = 4 ∧ pos = 2)) :
    Calls Try.prog 26 #[.int .i64 form, .int .i64 pos, .int .u8 c] w fun e w' => e = .returned (.bool (leadB c)) ∧ w' = w := by
  have hk : (leadB c = true ∧ 129 ≤ c ∧ c ≤ 254) ∨ (leadB c = false ∧ c < 129) ∨ (leadB c = false ∧ 129 ≤ c ∧ ¬ c ≤ 254) := by
    simp [leadB]; omega
  have hq : (form = 2 ∧ pos = 0) ∨ (form = 4 ∧ pos = 0) ∨ (form = 4 ∧ pos = 2) := by omega
  clear hf hp
  rcases hq with ⟨rfl, rfl⟩ | ⟨rfl, rfl⟩ | ⟨rfl, rfl⟩
  all_goals
    rcases hk with ⟨e, k1, k2⟩ | ⟨e, k1⟩ | ⟨e, k1, k2⟩
    all_goals
      rw [e]; clear e
      go_enter Try.func26, Try.ntmps26
      go_wp2
      go_ret
      exact ⟨rfl, rfl⟩

set_option maxHeartbeats 1000000 in
theorem class_two (pos : Nat) (c : Int) (w : World) (hp : ((pos : Int) == 0) = false) :
    Calls Try.prog 26 #[.int .i64 (2 : Nat), .int .i64 pos, .int .u8 c] w fun e w' => e = .returned (.bool (twoB c)) ∧ w' = w := by
  have hk : (twoB c = true ∧ 64 ≤ c ∧ c ≤ 254 ∧ (c != 127) = true) ∨ (twoB c = false ∧ c < 64) ∨ (twoB c = false ∧ 64 ≤ c ∧ ¬ c ≤ 254) ∨ (twoB c = false ∧ c = 127) := by
    simp [twoB]; omega
  rcases hk with ⟨e, k1, k2, k3⟩ | ⟨e, k1⟩ | ⟨e, k1, k2⟩ | ⟨e, rfl⟩
  all_goals
    rw [e]; clear e
    go_enter Try.func26, Try.ntmps26
    go_wp2
    go_ret
    exact ⟨rfl, rfl⟩

set_option maxHeartbeats 1000000 in
theorem class_dig (pos : Nat) (c : Int) (w : World) (hp : ((pos : Int) == 0) = false) (hp2 : ((pos : Int) == 2) = false) :
    Calls Try.prog 26 #[.int .i64 (4 : Nat), .int .i64 pos, .int .u8 c] w fun e w' => e = .returned (.bool (digB c)) ∧ w' = w := by
  have hk : (digB c = true ∧ 48 ≤ c ∧ c ≤ 57) ∨ (digB c = false ∧ c < 48) ∨ (digB c = false ∧ 48 ≤ c ∧ ¬ c ≤ 57) := by
    simp [digB]; omega
  rcases hk with ⟨e, k1, k2⟩ | ⟨e, k1⟩ | ⟨e, k1, k2⟩
  all_goals
    rw [e]; clear e
    go_enter Try.func26, Try.ntmps26
    go_wp2
    go_ret
    exact ⟨rfl, rfl⟩

theorem class_one (pos : Nat) (c : Int) (w : World) :
    Calls Try.prog 26 #[.int .i64 (1 : Nat), .int .i64 pos, .int .u8 c] w fun e w' => e = .returned (.bool (decide (c ≤ 127))) ∧ w' = w := by
  go_enter Try.func26, Try.ntmps26
  go_wp2
  go_ret
  exact ⟨rfl, rfl⟩

theorem class_any (form pos : Nat) (c : Int) (w : World) (hf : form = 1 ∨ form = 2 ∨ form = 4) :
    Calls Try.prog 26 #[.int .i64 form, .int .i64 pos, .int .u8 c] w fun e w' => e = .returned (.bool (cls form pos c)) ∧ w' = w := by
  rcases hf with rfl | hf
  · rw [cls_1]; exact class_one pos c w
  · by_cases h0 : pos = 0
    · subst h0
      rw [cls_0 form c (by omega)]
      exact class_lead form 0 c w hf (Or.inl rfl)
    · have hp : ((pos : Int) == 0) = false := beq_eq_false_iff_ne.2 (by omega)
      rcases hf with rfl | rfl
      · rw [cls_2 pos c h0]; exact class_two pos c w hp
      · by_cases h2 : pos = 2
        · subst h2
          rw [cls_42]; exact class_lead 4 2 c w (Or.inr rfl) (Or.inr ⟨rfl, rfl⟩)
        · rw [cls_4 pos c h0 h2]; exact class_dig pos c w hp (beq_eq_false_iff_ne.2 (by omega))

theorem mat_false (form : Nat) (g : Nat → Int) (k n : Nat) (hk : k < n) (h : cls form k (g k) = false) : mat form g n = false := by
  induction n with
  | zero => omega
  | succ n ih =>
    by_cases e : k = n
    · subst e; simp [mat, h]
    · simp [mat, ih (by omega)]

set_option maxHeartbeats 1000000 in
/-- b1GbMatches: the first n bytes g 0, g 1, .. against a form. -/
theorem matches_any (form n b off len cap : Nat) (g : Nat → Int) (w : World) (hf : form = 1 ∨ form = 2 ∨ form = 4) (hn : n ≤ len) (hl : len ≤ 2097152)
    (hc : ∀ i, i < n → w.cell? ⟨b, off + i, none⟩ = some (.int .u8 (g i))) :
    Calls Try.prog 22 #[.int .i64 form, .slice (some ⟨b, off, none⟩) len cap, .int .i64 n] w fun e w' => e = .returned (.bool (mat form g n)) ∧ w' = w := by
  have HC : Hid (∀ i, i < n → w.cell? ⟨b, off + i, none⟩ = some (.int .u8 (g i))) := hc
  have HF : Hid (form = 1 ∨ form = 2 ∨ form = 4) := hf
  clear hc hf
  go_enter Try.func22, Try.ntmps22
  go_wp2
  go_loop [7] (fun i => ∃ k : Nat, k ≤ n ∧ i = .int .i64 k ∧ Hid (mat form g k = true)) (fun i => n - (intOf i).toNat)
  case atStart => exact ⟨0, Nat.zero_le _, rfl, rfl⟩
  case round =>
    obtain ⟨k, hk, rfl, hmat⟩ := hrel
    by_cases hlt : k < n
    · have g1 : w.cell? ⟨b, off + k, none⟩ = some (.int .u8 (g k)) := HC.out k hlt
      cases hcl : cls form k (g k)
      · have hfin : Hid (mat form g n = false) := mat_false form g k n hlt hcl
        generalize hx : g k = x at *
        have HX : Hid (g k = x) := hx
        clear hx
        go_wp2_with (go_at_call 26; refine (class_any form k x _ HF.out).mono ?_; rintro e w' ⟨rfl, rfl⟩)
        go_ret
        exact ⟨by rw [hfin.out]; rfl, rfl⟩
      · have hfin : Hid (mat form g (k + 1) = true) := by
          show (mat form g k && cls form k (g k)) = true
          rw [hcl, hmat.out]; rfl
        generalize hx : g k = x at *
        have HX : Hid (g k = x) := hx
        clear hx
        go_wp2_with (go_at_call 26; refine (class_any form k x _ HF.out).mono ?_; rintro e w' ⟨rfl, rfl⟩)
        go_round
        case rel => exact ⟨k + 1, by omega, by go_num, hfin⟩
        case measure => simp [intOf]; omega
    · have hkn : k = n := by omega
      subst hkn
      go_wp2
      go_ret
      exact ⟨by rw [hmat.out]; rfl, rfl⟩

/-- .. the same, its two numbers over Int. -/
theorem matches_int (f m : Int) (F M : Nat) (b off len cap : Nat) (g : Nat → Int) (w : World) (hf : F = 1 ∨ F = 2 ∨ F = 4) (hF : f = F) (hM : m = M) (hn : M ≤ len) (hl : len ≤ 2097152)
    (hc : ∀ i, i < len → w.cell? ⟨b, off + i, none⟩ = some (.int .u8 (g i))) :
    Calls Try.prog 22 #[.int .i64 f, .slice (some ⟨b, off, none⟩) len cap, .int .i64 m] w fun e w' => e = .returned (.bool (mat F g M)) ∧ w' = w := by
  subst hF hM
  exact matches_any F M b off len cap g w hf hn hl (fun i hi => hc i (by omega))

set_option maxHeartbeats 2000000 in
/-- b1GbModel. -/
theorem model_any (b off n cap : Nat) (g : Nat → Int) (w : World) (hn : 0 < n) (hl : n ≤ 2097152)
    (hc : ∀ i, i < n → w.cell? ⟨b, off + i, none⟩ = some (.int .u8 (g i))) :
    Calls Try.prog 18 #[.slice (some ⟨b, off, none⟩) n cap] w fun e w' => e = .returned (.int .i64 (gbModel n g)) ∧ w' = w := by
  have HC : Hid (∀ i, i < n → w.cell? ⟨b, off + i, none⟩ = some (.int .u8 (g i))) := hc
  clear hc
  cases m1 : mat 1 g 1
  case true =>
    have h : gbModel n g = 1 := by simp [gbModel, m1]
    rw [h]; clear h
    go_enter Try.func18, Try.ntmps18
    go_wp2_with fail
    refine (matches_int _ _ 1 1 b off n cap g _ (by decide) rfl rfl hn hl HC.out).mono ?_
    rintro e w' ⟨rfl, rfl⟩
    go_wp2_with fail
    go_ret
    exact ⟨rfl, rfl⟩
  by_cases h2 : n < 2
  · have hn1 : n = 1 := by omega
    subst hn1
    cases m2 : mat 2 g 1
    · cases m4 : mat 4 g 1
      · have h : gbModel 1 g = -1 := by simp [gbModel, m1, m2, m4]
        rw [h]; clear h
        go_enter Try.func18, Try.ntmps18
        go_wp2_with fail
        refine (matches_int _ _ 1 1 b off 1 cap g _ (by decide) rfl rfl (by decide) (by decide) HC.out).mono ?_
        rintro e w' ⟨rfl, rfl⟩
        go_wp2_with fail
        refine (matches_int _ _ 2 1 b off 1 cap g _ (by decide) rfl rfl (by decide) (by decide) HC.out).mono ?_
        rintro e w' ⟨rfl, rfl⟩
        go_wp2_with fail
        refine (matches_int _ _ 4 1 b off 1 cap g _ (by decide) rfl rfl (by decide) (by decide) HC.out).mono ?_
        rintro e w' ⟨rfl, rfl⟩
        go_wp2_with fail
        go_ret
        exact ⟨rfl, rfl⟩
      · have h : gbModel 1 g = 0 := by simp [gbModel, m1, m4]
        rw [h]; clear h
        go_enter Try.func18, Try.ntmps18
        go_wp2_with fail
        refine (matches_int _ _ 1 1 b off 1 cap g _ (by decide) rfl rfl (by decide) (by decide) HC.out).mono ?_
        rintro e w' ⟨rfl, rfl⟩
        go_wp2_with fail
        refine (matches_int _ _ 2 1 b off 1 cap g _ (by decide) rfl rfl (by decide) (by decide) HC.out).mono ?_
        rintro e w' ⟨rfl, rfl⟩
        go_wp2_with fail
        refine (matches_int _ _ 4 1 b off 1 cap g _ (by decide) rfl rfl (by decide) (by decide) HC.out).mono ?_
        rintro e w' ⟨rfl, rfl⟩
        go_wp2_with fail
        go_ret
        exact ⟨rfl, rfl⟩
    · have h : gbModel 1 g = 0 := by simp [gbModel, m1, m2]
      rw [h]; clear h
      go_enter Try.func18, Try.ntmps18
      go_wp2_with fail
      refine (matches_int _ _ 1 1 b off 1 cap g _ (by decide) rfl rfl (by decide) (by decide) HC.out).mono ?_
      rintro e w' ⟨rfl, rfl⟩
      go_wp2_with fail
      refine (matches_int _ _ 2 1 b off 1 cap g _ (by decide) rfl rfl (by decide) (by decide) HC.out).mono ?_
      rintro e w' ⟨rfl, rfl⟩
      go_wp2_with fail
      go_ret
      exact ⟨rfl, rfl⟩
  have k2 : 2 ≤ n := by omega
  have e2 : min n 2 = 2 := by omega
  cases m2 : mat 2 g 2
  case true =>
    have h : gbModel n g = 2 := by simp [gbModel, m1, m2, k2]
    rw [h]; clear h
    go_enter Try.func18, Try.ntmps18
    go_wp2_with fail
    refine (matches_int _ _ 1 1 b off n cap g _ (by decide) rfl rfl (by omega) hl HC.out).mono ?_
    rintro e w' ⟨rfl, rfl⟩
    go_wp2_with fail
    refine (matches_int _ _ 2 2 b off n cap g _ (by decide) rfl rfl (by omega) hl HC.out).mono ?_
    rintro e w' ⟨rfl, rfl⟩
    go_wp2_with fail
    go_ret
    exact ⟨rfl, rfl⟩
  by_cases h4 : n < 4
  · have k4 : ¬ 4 ≤ n := by omega
    cases m4 : mat 4 g 2
    · have h : gbModel n g = -1 := by simp [gbModel, m1, m2, k4, h2, e2, m4]
      rw [h]; clear h e2
      rcases (show 2 < n ∨ n = 2 from by omega) with h3 | rfl
      all_goals
        go_enter Try.func18, Try.ntmps18
        go_wp2_with fail
        refine (matches_int _ _ 1 1 b off _ cap g _ (by decide) rfl rfl (by omega) hl HC.out).mono ?_
        rintro e w' ⟨rfl, rfl⟩
        go_wp2_with fail
        refine (matches_int _ _ 2 2 b off _ cap g _ (by decide) rfl rfl (by omega) hl HC.out).mono ?_
        rintro e w' ⟨rfl, rfl⟩
        go_wp2_with fail
        refine (matches_int _ _ 4 2 b off _ cap g _ (by decide) rfl rfl (by omega) hl HC.out).mono ?_
        rintro e w' ⟨rfl, rfl⟩
        go_wp2_with fail
        go_ret
        exact ⟨rfl, rfl⟩
    · have h : gbModel n g = 0 := by simp [gbModel, m1, m2, k4, h2, e2, m4, h4]
      rw [h]; clear h e2
      rcases (show 2 < n ∨ n = 2 from by omega) with h3 | rfl
      all_goals
        go_enter Try.func18, Try.ntmps18
        go_wp2_with fail
        refine (matches_int _ _ 1 1 b off _ cap g _ (by decide) rfl rfl (by omega) hl HC.out).mono ?_
        rintro e w' ⟨rfl, rfl⟩
        go_wp2_with fail
        refine (matches_int _ _ 2 2 b off _ cap g _ (by decide) rfl rfl (by omega) hl HC.out).mono ?_
        rintro e w' ⟨rfl, rfl⟩
        go_wp2_with fail
        refine (matches_int _ _ 4 2 b off _ cap g _ (by decide) rfl rfl (by omega) hl HC.out).mono ?_
        rintro e w' ⟨rfl, rfl⟩
        go_wp2_with fail
        go_ret
        exact ⟨rfl, rfl⟩
  have k4 : 4 ≤ n := by omega
  cases m4 : mat 4 g 4
  · have h : gbModel n g = -1 := by simp [gbModel, m1, m2, h2, m4, h4]
    rw [h]; clear h e2
    have h3 : 2 < n := by omega
    go_enter Try.func18, Try.ntmps18
    go_wp2_with fail
    refine (matches_int _ _ 1 1 b off n cap g _ (by decide) rfl rfl (by omega) hl HC.out).mono ?_
    rintro e w' ⟨rfl, rfl⟩
    go_wp2_with fail
    refine (matches_int _ _ 2 2 b off n cap g _ (by decide) rfl rfl (by omega) hl HC.out).mono ?_
    rintro e w' ⟨rfl, rfl⟩
    go_wp2_with fail
    refine (matches_int _ _ 4 4 b off n cap g _ (by decide) rfl rfl (by omega) hl HC.out).mono ?_
    rintro e w' ⟨rfl, rfl⟩
    go_wp2_with fail
    go_ret
    exact ⟨rfl, rfl⟩
  · have h : gbModel n g = 4 := by simp [gbModel, m1, m2, k4, m4]
    rw [h]; clear h e2
    go_enter Try.func18, Try.ntmps18
    go_wp2_with fail
    refine (matches_int _ _ 1 1 b off n cap g _ (by decide) rfl rfl (by omega) hl HC.out).mono ?_
    rintro e w' ⟨rfl, rfl⟩
    go_wp2_with fail
    refine (matches_int _ _ 2 2 b off n cap g _ (by decide) rfl rfl (by omega) hl HC.out).mono ?_
    rintro e w' ⟨rfl, rfl⟩
    go_wp2_with fail
    refine (matches_int _ _ 4 4 b off n cap g _ (by decide) rfl rfl (by omega) hl HC.out).mono ?_
    rintro e w' ⟨rfl, rfl⟩
    go_wp2_with fail
    go_ret
    exact ⟨rfl, rfl⟩
end Go.Proofs.Qxb6603264a
