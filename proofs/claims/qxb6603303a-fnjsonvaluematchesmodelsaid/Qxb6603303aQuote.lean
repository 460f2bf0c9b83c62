/-
  The walks of backslashesAt (38), zzRunFrom (26), escapedQuoteAt (40).
-/
import Derived.Test.Qxb6603303aBackWalks
import Derived.Laws.BytesArg
namespace Go.Proofs.Qxb6603303a
open Go.RowKit

/-- From i on stand n backslashes, and no more (N: the text's length). -/
def RunAt (g : Nat → Int) (N i n : Nat) : Prop := i + n ≤ N ∧ (∀ k, k < n → g (i + k) = 92) ∧ (i + n < N → g (i + n) ≠ 92)

theorem RunAt.ex (g : Nat → Int) (N i : Nat) (h : i ≤ N) : ∃ n, RunAt g N i n := by
  obtain ⟨d, hd⟩ : ∃ d, N = i + d := ⟨N - i, by omega⟩
  induction d generalizing i with
  | zero => exact ⟨0, by omega, fun k hk => by omega, fun hk => by omega⟩
  | succ d ih =>
    by_cases h9 : g i = 92
    · obtain ⟨n, h1, h2, h3⟩ := ih (i + 1) (by omega) (by omega)
      refine ⟨n + 1, by omega, fun k hk => ?_, fun hk => ?_⟩
      · cases k with
        | zero => exact h9
        | succ k => have := h2 k (by omega); rwa [show i + (k + 1) = i + 1 + k by omega]
      · rw [show i + (n + 1) = i + 1 + n by omega]; exact h3 (by omega)
    · exact ⟨0, by omega, fun k hk => by omega, fun _ => h9⟩

theorem RunAt.pos {g : Nat → Int} {N i n : Nat} (h : RunAt g N i n) (hi : i < N) (hg : g i = 92) : 0 < n := by
  rcases Nat.eq_zero_or_pos n with rfl | hp
  · exact absurd hg (h.2.2 hi)
  · exact hp
theorem RunAt.zero {g : Nat → Int} {N i n : Nat} (h : RunAt g N i n) (hg : g i ≠ 92) : n = 0 := by
  rcases Nat.eq_zero_or_pos n with rfl | hp
  · rfl
  · exact absurd (h.2.1 0 hp) hg

set_option maxHeartbeats 1000000 in
theorem backs_any (b off N cap i n : Nat) (g : Nat → Int) (w : World) (hN : N ≤ 2097152) (hR : RunAt g N i n)
    (hc : ∀ i, i < N → w.cell? ⟨b, off + i, none⟩ = some (.int .u8 (g i))) :
    Calls Try.prog 38 #[.slice (some ⟨b, off, none⟩) N cap, .int .i64 i] w fun e w' => e = .returned (.int .i64 n) ∧ w' = w := by
  have HC : Hid (∀ i, i < N → w.cell? ⟨b, off + i, none⟩ = some (.int .u8 (g i))) := hc
  obtain ⟨h1, h2, h3⟩ := hR
  have H2 : Hid (∀ k, k < n → g (i + k) = 92) := h2
  have H3 : Hid (i + n < N → g (i + n) ≠ 92) := h3
  clear hc h2 h3
  go_enter Try.func38, Try.ntmps38
  go_wp2
  go_loop [5] (fun j => ∃ k : Nat, k ≤ n ∧ j = .int .i64 k) (fun j => n - (intOf j).toNat)
  case atStart => exact ⟨0, Nat.zero_le _, rfl⟩
  case round =>
    obtain ⟨k, hk, rfl⟩ := hrel
    by_cases hlt : k < n
    · have hin : i + k < N := by omega
      have g1 : w.cell? ⟨b, off + (i + k), none⟩ = some (.int .u8 92) := by
        rw [← H2.out k hlt]; exact HC.out (i + k) hin
      go_wp2
      go_round
      case rel => exact ⟨k + 1, by omega, by go_num⟩
      case measure => simp [intOf]; omega
    · have hkn : k = n := by omega
      subst hkn
      by_cases hz : i + k < N
      · have g1 : w.cell? ⟨b, off + (i + k), none⟩ = some (.int .u8 (g (i + k))) := HC.out (i + k) hz
        have g2 : (g (i + k) == 92) = false := beqf (H3.out hz)
        generalize g (i + k) = x at g1 g2
        go_wp2
        go_ret
        exact ⟨rfl, rfl⟩
      · go_wp2
        go_ret
        exact ⟨rfl, rfl⟩

set_option maxHeartbeats 1000000 in
theorem runFrom_any (b off N cap i n : Nat) (g : Nat → Int) (w : World) (hN : N ≤ 2097152) (hR : RunAt g N i n)
    (hc : ∀ i, i < N → w.cell? ⟨b, off + i, none⟩ = some (.int .u8 (g i))) :
    Calls Try.prog 26 #[.slice (some ⟨b, off, none⟩) N cap, .int .i64 i] w fun e w' => e = .returned (.int .i64 n) ∧ w' = w := by
  have HC : Hid (∀ i, i < N → w.cell? ⟨b, off + i, none⟩ = some (.int .u8 (g i))) := hc
  obtain ⟨h1, h2, h3⟩ := hR
  have H2 : Hid (∀ k, k < n → g (i + k) = 92) := h2
  have H3 : Hid (i + n < N → g (i + n) ≠ 92) := h3
  clear hc h2 h3
  go_enter Try.func26, Try.ntmps26
  go_wp2
  go_loop [5] (fun j => ∃ k : Nat, k ≤ n ∧ j = .int .i64 k) (fun j => n - (intOf j).toNat)
  case atStart => exact ⟨0, Nat.zero_le _, rfl⟩
  case round =>
    obtain ⟨k, hk, rfl⟩ := hrel
    by_cases hlt : k < n
    · have hin : i + k < N := by omega
      have g1 : w.cell? ⟨b, off + (i + k), none⟩ = some (.int .u8 92) := by
        rw [← H2.out k hlt]; exact HC.out (i + k) hin
      go_wp2
      go_round
      case rel => exact ⟨k + 1, by omega, by go_num⟩
      case measure => simp [intOf]; omega
    · have hkn : k = n := by omega
      subst hkn
      by_cases hz : i + k < N
      · have g1 : w.cell? ⟨b, off + (i + k), none⟩ = some (.int .u8 (g (i + k))) := HC.out (i + k) hz
        have g2 : (g (i + k) == 92) = false := beqf (H3.out hz)
        generalize g (i + k) = x at g1 g2
        go_wp2
        go_ret
        exact ⟨rfl, rfl⟩
      · go_wp2
        go_ret
        exact ⟨rfl, rfl⟩

/-! ### escapedQuoteAt -/
theorem esc_short (b off N cap j : Nat) (w : World) (_hN : N ≤ 2097152) (hj : j ≤ N) (h : N < j + 6) :
    Calls Try.prog 40 #[.slice (some ⟨b, off, none⟩) N cap, .int .i64 j] w fun e w' => e = .returned (.bool false) ∧ w' = w := by
  have hd : decide (6 ≤ (N : Int) - (j : Int)) = false := by simp; omega
  go_enter Try.func40, Try.ntmps40
  go_wp2
  go_ret
  exact ⟨rfl, rfl⟩

theorem u8_beq (x : Int) (h0 : 0 ≤ x) (h1 : x < 256) (c : Nat) (hc : c < 256) : (UInt8.ofNat x.toNat == UInt8.ofNat c) = (x == (c : Int)) := by
  rw [Bool.eq_iff_iff, beq_iff_eq, beq_iff_eq]
  constructor
  · intro h
    have := congrArg UInt8.toNat h
    rw [UInt8.toNat_ofNat', UInt8.toNat_ofNat'] at this
    omega
  · intro h
    have : x.toNat = c := by omega
    rw [this]
theorem str_toList (xs : List Int) : (strOfNums xs).toList = xs.map fun n => UInt8.ofNat n.toNat := ByteArray.toList_eq _

theorem str6 (a b c d e f : Int) (ha : 0 ≤ a ∧ a < 256) (hb : 0 ≤ b ∧ b < 256) (hc : 0 ≤ c ∧ c < 256) (hd : 0 ≤ d ∧ d < 256) (he : 0 ≤ e ∧ e < 256) (hf : 0 ≤ f ∧ f < 256) :
    ((strOfNums [a, b, c, d, e, f]).toList == [92, 117, 48, 48, 50, 50]) = (a == 92 && (b == 117 && (c == 48 && (d == 48 && (e == 50 && f == 50))))) := by
  rw [str_toList]
  show (UInt8.ofNat a.toNat == UInt8.ofNat 92 && (UInt8.ofNat b.toNat == UInt8.ofNat 117 && (UInt8.ofNat c.toNat == UInt8.ofNat 48 && (UInt8.ofNat d.toNat == UInt8.ofNat 48 && (UInt8.ofNat e.toNat == UInt8.ofNat 50 && (UInt8.ofNat f.toNat == UInt8.ofNat 50 && true)))))) = _
  rw [u8_beq a ha.1 ha.2 92 (by omega), u8_beq b hb.1 hb.2 117 (by omega), u8_beq c hc.1 hc.2 48 (by omega), u8_beq d hd.1 hd.2 48 (by omega), u8_beq e he.1 he.2 50 (by omega), u8_beq f hf.1 hf.2 50 (by omega), Bool.and_true]
  rfl
theorem ret_bool {a b : Bool} (h : a = b) : Ending.returned (.bool a) = .returned (.bool b) := by rw [h]

theorem esc_long (b off N cap j : Nat) (g : Nat → Int) (w : World) (hN : N ≤ cap) (hM : N ≤ 2097152) (h : j + 6 ≤ N) (hg : ∀ i, i < N → 0 ≤ g i ∧ g i < 256) (h92 : g j = 92)
    (hc : ∀ i, i < N → w.cell? ⟨b, off + i, none⟩ = some (.int .u8 (g i))) :
    Calls Try.prog 40 #[.slice (some ⟨b, off, none⟩) N cap, .int .i64 j] w fun e w' => e = .returned (.bool (tailB g (j + 1))) ∧ w' = w := by
  have hk := run_convert_bytes_arg (P := Try.prog) w 22 5 Try.underlying22 Try.underlying5 b (off + j) 6 (cap - j) [g j, g (j + 1), g (j + 2), g (j + 3), g (j + 4), g (j + 5)] rfl (fun i hi => by
    have := hc (j + i) (by omega)
    rw [Nat.add_assoc, this]
    have h6 : i = 0 ∨ i = 1 ∨ i = 2 ∨ i = 3 ∨ i = 4 ∨ i = 5 := by omega
    rcases h6 with rfl | rfl | rfl | rfl | rfl | rfl <;> rfl) 9 Try.underlying9
  have hd : decide (6 ≤ (N : Int) - (j : Int)) = true := by simp; omega
  have hfin : ((strOfNums [g j, g (j + 1), g (j + 2), g (j + 3), g (j + 4), g (j + 5)]).toList == [92, 117, 48, 48, 50, 50]) = tailB g (j + 1) := by
    rw [str6 _ _ _ _ _ _ (hg _ (by omega)) (hg _ (by omega)) (hg _ (by omega)) (hg _ (by omega)) (hg _ (by omega)) (hg _ (by omega)), h92]
    unfold tailB
    rw [show j + 1 + 1 = j + 2 from rfl, show j + 1 + 2 = j + 3 from rfl, show j + 1 + 3 = j + 4 from rfl, show j + 1 + 4 = j + 5 from rfl]
    generalize g (j + 1) = x1
    generalize g (j + 2) = x2
    generalize g (j + 3) = x3
    generalize g (j + 4) = x4
    generalize g (j + 5) = x5
    cases x1 == 117 <;> cases x2 == 48 <;> cases x3 == 48 <;> cases x4 == 50 <;> cases x5 == 50 <;> rfl
  have HF : Hid _ := hfin
  clear hc hfin h92 hg
  generalize strOfNums [g j, g (j + 1), g (j + 2), g (j + 3), g (j + 4), g (j + 5)] = S at *
  go_enter Try.func40, Try.ntmps40
  go_wp2
  go_ret
  exact ⟨ret_bool HF.out, rfl⟩

theorem hasPrefix_any (S : ByteArray) (m : Nat) (B : Bool) (w : World) (hz : S.size = m) (hm : m < 5) (hB : ((({ data := #[117, 48, 48, 50, 50] } : ByteArray).extract 0 m).toList == S.toList) = B) :
    Calls Try.prog 41 #[.string { data := #[117, 48, 48, 50, 50] }, .string S] w fun e w' => e = .returned (.bool B) ∧ w' = w := by
  have HB : Hid _ := hB
  clear hB
  go_enter Try.func41, Try.ntmps41
  go_wp2
  go_ret
  exact ⟨ret_bool HB.out, rfl⟩

/-- The m bytes from j on are the first m of u0022. -/
def preB (g : Nat → Int) (j m : Nat) : Bool := (List.range m).all fun k => g (j + k) == tailC k
def cutN (g : Nat → Int) (j m : Nat) : List Int := (List.range m).map fun k => g (j + k)
theorem cutN_length (g : Nat → Int) (j m : Nat) : (cutN g j m).length = m := by simp [cutN]
theorem cutN_get (g : Nat → Int) (j m i : Nat) (h : i < m) : (cutN g j m).getD i 0 = g (j + i) := by simp [cutN, h]

theorem preB_eq (g : Nat → Int) (j m : Nat) (h0 : 0 < m) (hm : m < 5) (hg : ∀ k, k < m → 0 ≤ g (j + k) ∧ g (j + k) < 256) :
    ((({ data := #[117, 48, 48, 50, 50] } : ByteArray).extract 0 m).toList == (strOfNums (cutN g j m)).toList) = preB g j m := by
  have hs : ∀ a b : UInt8, (a == b) = (b == a) := fun a b => by rw [Bool.eq_iff_iff, beq_iff_eq, beq_iff_eq]; exact eq_comm
  rw [str_toList]
  have h4 : m = 1 ∨ m = 2 ∨ m = 3 ∨ m = 4 := by omega
  have u : ∀ k, k < m → ∀ c, c < 256 → (UInt8.ofNat c == UInt8.ofNat (g (j + k)).toNat) = (g (j + k) == (c : Int)) := fun k hk c hc => by
    rw [hs]; exact u8_beq _ (hg k hk).1 (hg k hk).2 c hc
  rcases h4 with rfl | rfl | rfl | rfl
  · rw [show (({ data := #[117, 48, 48, 50, 50] } : ByteArray).extract 0 1).toList = [117] by decide +kernel]
    show (UInt8.ofNat 117 == UInt8.ofNat (g (j + 0)).toNat && true) = (g (j + 0) == 117 && true)
    rw [u 0 (by omega) 117 (by omega)]
    rfl
  · rw [show (({ data := #[117, 48, 48, 50, 50] } : ByteArray).extract 0 2).toList = [117, 48] by decide +kernel]
    show (UInt8.ofNat 117 == UInt8.ofNat (g (j + 0)).toNat && (UInt8.ofNat 48 == UInt8.ofNat (g (j + 1)).toNat && true)) = (g (j + 0) == 117 && (g (j + 1) == 48 && true))
    rw [u 0 (by omega) 117 (by omega), u 1 (by omega) 48 (by omega)]
    rfl
  · rw [show (({ data := #[117, 48, 48, 50, 50] } : ByteArray).extract 0 3).toList = [117, 48, 48] by decide +kernel]
    show (UInt8.ofNat 117 == UInt8.ofNat (g (j + 0)).toNat && (UInt8.ofNat 48 == UInt8.ofNat (g (j + 1)).toNat && (UInt8.ofNat 48 == UInt8.ofNat (g (j + 2)).toNat && true))) = (g (j + 0) == 117 && (g (j + 1) == 48 && (g (j + 2) == 48 && true)))
    rw [u 0 (by omega) 117 (by omega), u 1 (by omega) 48 (by omega), u 2 (by omega) 48 (by omega)]
    rfl
  · rw [show (({ data := #[117, 48, 48, 50, 50] } : ByteArray).extract 0 4).toList = [117, 48, 48, 50] by decide +kernel]
    show (UInt8.ofNat 117 == UInt8.ofNat (g (j + 0)).toNat && (UInt8.ofNat 48 == UInt8.ofNat (g (j + 1)).toNat && (UInt8.ofNat 48 == UInt8.ofNat (g (j + 2)).toNat && (UInt8.ofNat 50 == UInt8.ofNat (g (j + 3)).toNat && true)))) = (g (j + 0) == 117 && (g (j + 1) == 48 && (g (j + 2) == 48 && (g (j + 3) == 50 && true))))
    rw [u 0 (by omega) 117 (by omega), u 1 (by omega) 48 (by omega), u 2 (by omega) 48 (by omega), u 3 (by omega) 50 (by omega)]
    rfl
end Go.Proofs.Qxb6603303a
