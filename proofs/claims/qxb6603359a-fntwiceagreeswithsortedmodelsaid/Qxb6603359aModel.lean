/-
  The walk of zzTwiceModel (23).
-/
import Derived.Test.Qxb6603359aCopy
import Derived.BigQuiet
import Derived.Deep.QuietTactic
import Derived.WalkSmall
namespace Go.Proofs.Qxb6603359a
open Go.RowKit

theorem Try.info2 : (Try.prog.info? 2).map (fun i => (i.zero, i.size, i.bytes)) = some (some (.int .i64 0), 1, 8) := by kernel_rfl
theorem Try.info3 : (Try.prog.info? 3).map (fun i => (i.zero, i.size, i.bytes)) = some (some (.int .i64 0), 1, 8) := by kernel_rfl

/-- The keys in block q, the positions in block q + 1. -/
structure Rows2 (w : World) (q n : Nat) (K : Nat → Int) (P : Nat → Nat) : Prop where
  keys : w.rowIs q 2 n (fun i => .int .i64 (K i))
  pos : w.rowIs (q + 1) 3 n (fun i => .int .i64 (P i : Int))

theorem Rows2.setKey {w : World} {q n : Nat} {K K' : Nat → Int} {P : Nat → Nat} (h : Rows2 w q n K P) (i : Nat) (x : Int) (e : ∀ j, j < n → (if j = i then x else K j) = K' j) : Rows2 (w.setCell ⟨q, i, none⟩ (.int .i64 x)) q n K' P :=
  ⟨(h.keys.set i _).congr (fun j hj => by rw [← e j hj]; split <;> rfl), h.pos.setOther (by show q + 1 ≠ q; omega) _⟩
theorem Rows2.setPos {w : World} {q n : Nat} {K : Nat → Int} {P P' : Nat → Nat} (h : Rows2 w q n K P) (i x : Nat) (e : ∀ j, j < n → (if j = i then x else P j) = P' j) : Rows2 (w.setCell ⟨q + 1, i, none⟩ (.int .i64 (x : Int))) q n K P' :=
  ⟨h.keys.setOther (by show q ≠ q + 1; omega) _, (h.pos.set i _).congr (fun j hj => by rw [← e j hj]; split <;> rfl)⟩
theorem Rows2.drewN {w : World} {q n : Nat} {K : Nat → Int} {P : Nat → Nat} (h : Rows2 w q n K P) (k : Nat) : Rows2 (w.drewN k) q n K P := ⟨h.keys, h.pos⟩

/-- Those above j moved up by one, up to k. -/
def shiftF {α : Type} (F : Nat → α) (j k m : Nat) : α := if m ≤ j then F m else if m ≤ k then F (m - 1) else F m
theorem shift_start {α : Type} (F : Nat → α) (k m : Nat) : shiftF F k k m = F m := by
  unfold shiftF
  by_cases h : m ≤ k
  · rw [if_pos h]
  · rw [if_neg h, if_neg h]
theorem shift_step {α : Type} (F : Nat → α) (q k m : Nat) (h : q + 1 ≤ k) : (if m = q + 1 then F q else shiftF F (q + 1) k m) = shiftF F q k m := by
  unfold shiftF
  by_cases h1 : m = q + 1
  · subst h1
    rw [if_pos rfl, if_neg (by omega), if_pos h, Nat.add_sub_cancel]
  · rw [if_neg h1]
    by_cases h2 : m ≤ q
    · rw [if_pos (by omega), if_pos h2]
    · rw [if_neg (by omega), if_neg h2]
theorem shift_end {α : Type} (F : Nat → α) (x : α) (t k m : Nat) : (if m = t then x else shiftF F t k m) = ins F x t k m := by
  unfold shiftF ins
  by_cases h1 : m = t
  · subst h1; rw [if_pos rfl, if_neg (by omega), if_pos rfl]
  · rw [if_neg h1]
    by_cases h2 : m < t
    · rw [if_pos (by omega), if_pos h2]
    · rw [if_neg (by omega), if_neg h2, if_neg h1]
theorem shift_at {α : Type} (F : Nat → α) (j k m : Nat) (h : m ≤ j) : shiftF F j k m = F m := by unfold shiftF; rw [if_pos h]

set_option maxHeartbeats 4000000 in
set_option maxRecDepth 100000 in
theorem model_any (b n : Nat) (alg : Nat → Int) (A : Nat → Option Addr) (L C : Nat → Nat) (w : World) (hn : 0 < n) (hn2 : n ≤ 1048576) (G : Digs w b 0 n alg A L C) (x : Int) (ok : Bool) (hT : TwiceIs alg n x ok) :
    Calls Try.prog 23 #[.slice (some ⟨b, 0, none⟩) n n] w fun e w' => e = .returned (.tuple #[.int .i64 x, .bool ok]) ∧ Below w.heap.size w w' := by
  have HG : Hid (∀ i, i < n → w.cell? ⟨b, i * 2, none⟩ = some (.int .i64 (alg i))) := fun i hi => by have := G.alg i hi; rwa [Nat.zero_add] at this
  have HT : Hid (TwiceIs alg n x ok) := hT
  have hbb : b < w.heap.size := World.block_lt_of_cell? _ _ (G.alg 0 hn)
  have hm1 : ∀ wx : World, (Instr.makeSlice 64 (.int .i64 (n : Int)) (.int .i64 (n : Int))).run Try.prog wx = .ok (.slice (some ⟨wx.heap.size, 0, none⟩) n n) (wx.alloc (.cells (madeCells #[.int .i64 0] n) 2)) := fun wx =>
    run_make_row' (P := Try.prog) 64 2 (.int .i64 0) 8 Try.underlying64 Try.info2 rfl .i64 .i64 n (by omega) (by omega) wx
  have hm2 : ∀ wx : World, (Instr.makeSlice 65 (.int .i64 (n : Int)) (.int .i64 (n : Int))).run Try.prog wx = .ok (.slice (some ⟨wx.heap.size, 0, none⟩) n n) (wx.alloc (.cells (madeCells #[.int .i64 0] n) 3)) := fun wx =>
    run_make_row' (P := Try.prog) 65 3 (.int .i64 0) 8 Try.underlying65 Try.info3 rfl .i64 .i64 n (by omega) (by omega) wx
  have h0 : Hid (Rows2 ((w.alloc (.cells (madeCells #[.int .i64 0] n) 2)).alloc (.cells (madeCells #[.int .i64 0] n) 3)) w.heap.size n (fun _ => 0) (fun _ => 0)) :=
    ⟨(World.rowIs_made w (.int .i64 0) n 2).alloc _, by have := World.rowIs_made (w.alloc (.cells (madeCells #[.int .i64 0] n) 2)) (.int .i64 0) n 3; simpa using this⟩
  have hB : Hid (Below w.heap.size w ((w.alloc (.cells (madeCells #[.int .i64 0] n) 2)).alloc (.cells (madeCells #[.int .i64 0] n) 3))) := ((Below.refl _ _).alloc (Nat.le_refl _) _).alloc (by simp) _
  clear G hT
  go_enter Try.func23, Try.ntmps23
  go_wp2_with fail
  go_loopw [7] (fun i wr => ∃ (k : Nat) (K : Nat → Int) (P : Nat → Nat), k ≤ n ∧ i = .int .i64 k ∧ Rows2 wr w.heap.size n K P ∧ Hid (∀ j, j < k → K j = alg j ∧ P j = j) ∧ Below w.heap.size w wr) (fun i _ => n - (intOf i).toNat)
  case atStart => exact ⟨0, _, _, Nat.zero_le _, rfl, h0.out, fun j hj => by omega, hB.out⟩
  case round =>
    obtain ⟨k, K, P, hk, rfl, hr, HK, hbel⟩ := hrel
    by_cases hlt : k < n
    · have c1 : wr.cell? ⟨b, k * 2, none⟩ = some (.int .i64 (alg k)) := (hbel.cell (p := ⟨b, k * 2, none⟩) hbb).trans (HG.out k hlt)
      have c2 := hr.keys.cell hlt
      have c3 := hr.keys.frozen k
      have c4 := hr.pos.cell hlt
      have c5 := hr.pos.frozen k
      have HR : Hid (Rows2 wr w.heap.size n K P) := hr
      have HB : Hid (Below w.heap.size w wr) := hbel
      have HK' : Hid (∀ j, j < k + 1 → (if j = k then alg k else K j) = alg j ∧ (if j = k then k else P j) = j) := fun j hj => by
        by_cases e : j = k
        · rw [e, if_pos rfl, if_pos rfl]; exact ⟨rfl, rfl⟩
        · rw [if_neg e, if_neg e]; exact HK.out j (by omega)
      clear hr hbel
      go_wp2_with fail
      go_roundw
      case rel => exact ⟨k + 1, _, _, by omega, by go_num, (HR.out.setKey k (alg k) (fun j _ => rfl)).setPos k k (fun j _ => rfl), HK', (HB.out.setCell (Nat.le_refl _) _).setCell (Nat.le_succ _) _⟩
      case measure => simp [intOf]; omega
    · have hkn : k = n := by omega
      subst hkn
      have HR0 : Hid (Rows2 wr w.heap.size k K P) := hr
      have HB0 : Hid (Below w.heap.size w wr) := hbel
      have HS0 : Hid (St alg k 1 K P) := St.start alg k K P HK.out hn
      clear hr hbel HK
      obtain ⟨wo, rfl⟩ : ∃ wo : World, wo = wr := ⟨_, rfl⟩
      go_wp2_with fail
      go_loopw [8] (fun i wr => ∃ (i' : Nat) (K : Nat → Int) (P : Nat → Nat), 1 ≤ i' ∧ i' ≤ k ∧ i = .int .i64 i' ∧ Rows2 wr w.heap.size k K P ∧ Hid (St alg k i' K P) ∧ Below w.heap.size w wr) (fun i _ => k - (intOf i).toNat)
      case atStart => exact ⟨1, _, _, Nat.le_refl _, by omega, rfl, HR0.out, HS0.out, HB0.out⟩
      case round =>
        clear HR0 HB0 HS0
        obtain ⟨i, K, P, hi1, hi2, rfl, hr, HS, hbel⟩ := hrel
        by_cases hlt : i < k
        · obtain ⟨t, ht, ht1, ht2⟩ := place K (alg i) i (fun j j' h1 h2 => HS.out.mono h1 h2)
          have HT1 : Hid (∀ m, m < t → K m ≤ alg i) := ht1
          have HT2 : Hid (∀ m, t ≤ m → m < i → alg i < K m) := ht2
          clear ht1 ht2
          obtain ⟨e1, e2⟩ := HS.out.rest i (Nat.le_refl _) hlt
          have c2 := hr.keys.cell hlt
          have c4 := hr.pos.cell hlt
          rw [e1] at c2
          rw [e2] at c4
          have HR : Hid (Rows2 wr w.heap.size k K P) := hr
          have HB : Hid (Below w.heap.size w wr) := hbel
          clear hr hbel e1 e2
          obtain ⟨wi, rfl⟩ : ∃ wi : World, wi = wr := ⟨_, rfl⟩
          generalize hy : alg i = y at *
          have HY : Hid (alg i = y) := hy
          clear hy
          go_wp2_with fail
          go_loopw [11] (fun v wr => ∃ j : Nat, t ≤ j ∧ j ≤ i ∧ v = .int .i64 j ∧ Rows2 wr w.heap.size k (shiftF K j i) (shiftF P j i) ∧ Below w.heap.size w wr) (fun v _ => (intOf v).toNat)
          case atStart => exact ⟨i, ht, Nat.le_refl _, rfl, ⟨HR.out.keys.congr (fun m _ => by rw [shift_start]), HR.out.pos.congr (fun m _ => by rw [shift_start])⟩, HB.out⟩
          case round =>
            obtain ⟨j, hj1, hj2, rfl, hr, hbel⟩ := hrel
            clear c2 c4
            have HR2 : Hid (Rows2 wr w.heap.size k (shiftF K j i) (shiftF P j i)) := hr
            have HB2 : Hid (Below w.heap.size w wr) := hbel
            by_cases hjt : t < j
            · obtain ⟨q, rfl⟩ : ∃ q, j = q + 1 := ⟨j - 1, by omega⟩
              have c1 : wr.cell? ⟨w.heap.size, q, none⟩ = some (.int .i64 (K q)) := by have := hr.keys.cell (show q < k by omega); rwa [shift_at _ _ _ _ (by omega)] at this
              have c2 := hr.keys.cell (show q + 1 < k by omega)
              have c3 := hr.keys.frozen (q + 1)
              have c4 : wr.cell? ⟨w.heap.size + 1, q, none⟩ = some (.int .i64 (P q : Int)) := by have := hr.pos.cell (show q < k by omega); rwa [shift_at _ _ _ _ (by omega)] at this
              have c5 := hr.pos.cell (show q + 1 < k by omega)
              have c6 := hr.pos.frozen (q + 1)
              have hgt : y < K q := HT2.out q (by omega) (by omega)
              clear hr hbel
              go_wp2_with fail
              go_roundw
              case rel => exact ⟨q, by omega, by omega, rfl, (HR2.out.setKey (q + 1) (K q) (fun m _ => shift_step K q i m hj2)).setPos (q + 1) (P q) (fun m _ => shift_step P q i m hj2), (HB2.out.setCell (Nat.le_refl _) _).setCell (Nat.le_succ _) _⟩
              case measure => simp [intOf]
            · have hjt' : j = t := by omega
              subst hjt'
              have c1 := hr.keys.cell (show j < k by omega)
              have c2 := hr.keys.frozen j
              have c3 := hr.pos.cell (show j < k by omega)
              have c4 := hr.pos.frozen j
              have HS' : Hid (St alg k (i + 1) (ins K y j i) (ins P i j i)) := by
                have := HS.out.step j ht (by rw [HY.out]; exact HT1.out) (by rw [HY.out]; exact HT2.out)
                rwa [HY.out] at this
              rcases Nat.eq_zero_or_pos j with rfl | hj0
              · clear hr hbel
                go_wp2_with fail
                go_roundw
                case rel => exact ⟨i + 1, _, _, by omega, by omega, by go_num, (HR2.out.setKey 0 y (fun m _ => shift_end K y 0 i m)).setPos 0 i (fun m _ => shift_end P i 0 i m), HS'.out, (HB2.out.setCell (Nat.le_refl _) _).setCell (Nat.le_succ _) _⟩
                case measure => simp [intOf]; omega
              · obtain ⟨q, rfl⟩ : ∃ q, j = q + 1 := ⟨j - 1, by omega⟩
                have c5 : wr.cell? ⟨w.heap.size, q, none⟩ = some (.int .i64 (K q)) := by have := hr.keys.cell (show q < k by omega); rwa [shift_at _ _ _ _ (by omega)] at this
                have hle : ¬ y < K q := by have := HT1.out q (by omega); omega
                clear hr hbel
                go_wp2_with fail
                go_roundw
                case rel => exact ⟨i + 1, _, _, by omega, by omega, by go_num, (HR2.out.setKey (q + 1) y (fun m _ => shift_end K y (q + 1) i m)).setPos (q + 1) i (fun m _ => shift_end P i (q + 1) i m), HS'.out, (HB2.out.setCell (Nat.le_refl _) _).setCell (Nat.le_succ _) _⟩
                case measure => simp [intOf]; omega
        · have hik : i = k := by omega
          subst hik
          have HR : Hid (Rows2 wr w.heap.size i K P) := hr
          have HB : Hid (Below w.heap.size w wr) := hbel
          clear hr hbel
          obtain ⟨ws, rfl⟩ : ∃ ws : World, ws = wr := ⟨_, rfl⟩
          go_wp2_with fail
          go_loopw [12, 13] (fun bst v wr => ∃ (s : Nat) (B : Int), s ≤ i ∧ v = .int .i64 s ∧ bst = .int .i64 B ∧ -1 ≤ B ∧ B ≤ 1048576 ∧ Hid (CutAt K i s) ∧ Hid (Best alg i P s B) ∧ Rows2 wr w.heap.size i K P ∧ Below w.heap.size w wr) (fun _ v _ => i - (intOf v).toNat)
          case atStart => exact ⟨0, -1, Nat.zero_le _, rfl, rfl, by omega, by omega, fun m m' h => by omega, Or.inl ⟨rfl, fun m hm => by omega⟩, HR.out, HB.out⟩
          case round =>
            clear HR HB
            obtain ⟨s, B, hs, rfl, rfl, hB1, hB2, HC, HBest, hr, hbel⟩ := hrel
            by_cases hlt : s < i
            · obtain ⟨e, he⟩ := RunEnd.ex K i s hlt
              have HE : Hid (RunEnd K i s e) := he
              obtain ⟨he1, he2, he3, he4⟩ := he
              have HE3 : Hid (∀ m, s ≤ m → m < e → K m = K s) := he3
              have HE4 : Hid (e < i → K e ≠ K s) := he4
              have HR : Hid (Rows2 wr w.heap.size i K P) := hr
              have HB : Hid (Below w.heap.size w wr) := hbel
              have hps : P s < i := HS.out.lt s hlt
              clear he3 he4 hr hbel
              obtain ⟨w5, rfl⟩ : ∃ w5 : World, w5 = wr := ⟨_, rfl⟩
              go_wp2_with fail
              go_loopw [14] (fun v wr => ∃ p : Nat, s + 1 ≤ p ∧ p ≤ e ∧ v = .int .i64 p ∧ Rows2 wr w.heap.size i K P ∧ Below w.heap.size w wr) (fun v _ => e - (intOf v).toNat)
              case atStart => exact ⟨s + 1, Nat.le_refl _, by omega, by go_num, HR.out, HB.out⟩
              case round =>
                clear HR HB
                obtain ⟨p, hp1, hp2, rfl, hr, hbel⟩ := hrel
                have HR : Hid (Rows2 wr w.heap.size i K P) := hr
                have HB : Hid (Below w.heap.size w wr) := hbel
                have cs := hr.keys.cell hlt
                by_cases hpe : p < e
                · have hpi : p < i := by omega
                  have cp := hr.keys.cell hpi
                  have hd : decide ((p : Int) < (i : Int)) = true := by simp; omega
                  have heq : (K p == K s) = true := beq_iff_eq.2 (HE3.out p (by omega) hpe)
                  clear hr hbel
                  generalize K p = kp at cp heq
                  generalize K s = ks at cs heq
                  go_wp2_with fail
                  go_quiet (fail)
                  go_wp2_with fail
                  go_roundw
                  case rel => exact ⟨p + 1, by omega, by omega, by go_num, HR.out.drewN _, below_drewN HB.out _⟩
                  case measure => simp [intOf]; omega
                · have hpe' : p = e := by omega
                  subst hpe'
                  by_cases hpi : p < i
                  · have cp := hr.keys.cell hpi
                    have hd : decide ((p : Int) < (i : Int)) = true := by simp; omega
                    have heq : (K p == K s) = false := beq_eq_false_iff_ne.2 (HE4.out hpi)
                    generalize hkp : K p = kp at cp heq
                    generalize hks : K s = ks at cs heq
                    clear hkp hks
                    have cps := hr.pos.cell hlt
                    clear hr hbel
                    have hCut : Hid (CutAt K i p) := HC.out.next HS.out HE.out
                    by_cases h2 : s + 2 ≤ p
                    · have hd2 : (2 : Int) ≤ (p : Int) - (s : Int) := by omega
                      by_cases hB0 : B < 0
                      · have HBe : Hid (Best alg i P p (P s)) := HBest.out.take HS.out HE.out h2 (Or.inl hB0)
                        go_wp2_with fail
                        go_quiet (fail)
                        go_wp2_with fail
                        go_roundw
                        case rel => exact ⟨p, _, by omega, rfl, rfl, by omega, by omega, hCut.out, HBe.out, HR.out.drewN _, below_drewN HB.out _⟩
                        case measure => simp [intOf]; omega
                      · by_cases hPB : (P s : Int) < B
                        · have HBe : Hid (Best alg i P p (P s)) := HBest.out.take HS.out HE.out h2 (Or.inr hPB)
                          go_wp2_with fail
                          go_quiet (fail)
                          go_wp2_with fail
                          go_roundw
                          case rel => exact ⟨p, _, by omega, rfl, rfl, by omega, by omega, hCut.out, HBe.out, HR.out.drewN _, below_drewN HB.out _⟩
                          case measure => simp [intOf]; omega
                        · have HBe : Hid (Best alg i P p B) := HBest.out.keep HS.out HE.out ⟨hB0, hPB⟩
                          go_wp2_with fail
                          go_quiet (fail)
                          go_wp2_with fail
                          go_roundw
                          case rel => exact ⟨p, _, by omega, rfl, rfl, by omega, by omega, hCut.out, HBe.out, HR.out.drewN _, below_drewN HB.out _⟩
                          case measure => simp [intOf]; omega
                    · have hd2 : ¬ (2 : Int) ≤ (p : Int) - (s : Int) := by omega
                      have HBe : Hid (Best alg i P p B) := HBest.out.one HS.out HC.out HE.out h2
                      go_wp2_with fail
                      go_quiet (fail)
                      go_wp2_with fail
                      go_roundw
                      case rel => exact ⟨p, _, by omega, rfl, rfl, by omega, by omega, hCut.out, HBe.out, HR.out.drewN _, below_drewN HB.out _⟩
                      case measure => simp [intOf]; omega
                  · have hd : decide ((p : Int) < (i : Int)) = false := by simp; omega
                    clear cs
                    have cps := hr.pos.cell hlt
                    clear hr hbel
                    have hCut : Hid (CutAt K i p) := HC.out.next HS.out HE.out
                    by_cases h2 : s + 2 ≤ p
                    · have hd2 : (2 : Int) ≤ (p : Int) - (s : Int) := by omega
                      by_cases hB0 : B < 0
                      · have HBe : Hid (Best alg i P p (P s)) := HBest.out.take HS.out HE.out h2 (Or.inl hB0)
                        go_wp2_with fail
                        go_quiet (fail)
                        go_wp2_with fail
                        go_roundw
                        case rel => exact ⟨p, _, by omega, rfl, rfl, by omega, by omega, hCut.out, HBe.out, HR.out.drewN _, below_drewN HB.out _⟩
                        case measure => simp [intOf]; omega
                      · by_cases hPB : (P s : Int) < B
                        · have HBe : Hid (Best alg i P p (P s)) := HBest.out.take HS.out HE.out h2 (Or.inr hPB)
                          go_wp2_with fail
                          go_quiet (fail)
                          go_wp2_with fail
                          go_roundw
                          case rel => exact ⟨p, _, by omega, rfl, rfl, by omega, by omega, hCut.out, HBe.out, HR.out.drewN _, below_drewN HB.out _⟩
                          case measure => simp [intOf]; omega
                        · have HBe : Hid (Best alg i P p B) := HBest.out.keep HS.out HE.out ⟨hB0, hPB⟩
                          go_wp2_with fail
                          go_quiet (fail)
                          go_wp2_with fail
                          go_roundw
                          case rel => exact ⟨p, _, by omega, rfl, rfl, by omega, by omega, hCut.out, HBe.out, HR.out.drewN _, below_drewN HB.out _⟩
                          case measure => simp [intOf]; omega
                    · have hd2 : ¬ (2 : Int) ≤ (p : Int) - (s : Int) := by omega
                      have HBe : Hid (Best alg i P p B) := HBest.out.one HS.out HC.out HE.out h2
                      go_wp2_with fail
                      go_quiet (fail)
                      go_wp2_with fail
                      go_roundw
                      case rel => exact ⟨p, _, by omega, rfl, rfl, by omega, by omega, hCut.out, HBe.out, HR.out.drewN _, below_drewN HB.out _⟩
                      case measure => simp [intOf]; omega
            · have hsi : s = i := by omega
              subst hsi
              have HB : Hid (Below w.heap.size w wr) := hbel
              by_cases hB0 : B < 0
              · have hu := HT.out.uniq (HBest.out.none HS.out hB0)
                obtain ⟨rfl, rfl⟩ := hu
                clear hr hbel
                go_wp2_with fail
                go_ret2
                exact ⟨rfl, HB.out⟩
              · obtain ⟨i0, hi0, hi1, hi2⟩ := HBest.out.some HS.out hB0
                have hu := HT.out.uniq hi2
                have cb : wr.cell? ⟨b, i0 * 2, none⟩ = some (.int .i64 (alg i0)) := (hbel.cell (p := ⟨b, i0 * 2, none⟩) hbb).trans (HG.out i0 hi1)
                obtain ⟨rfl, rfl⟩ := hu
                subst hi0
                clear hr hbel hi2
                go_wp2_with fail
                go_ret2
                exact ⟨rfl, HB.out⟩

/-- zzTwiceModel of an empty slice, whatever its address. -/
theorem model_empty (a : Option Addr) (cap : Nat) (w : World) : Calls Try.prog 23 #[.slice a 0 cap] w fun e w' => e = .returned (.tuple #[.int .i64 0, .bool false]) ∧ Below w.heap.size w w' := by
  have hm1 : ∀ wx : World, (Instr.makeSlice 64 (.int .i64 0) (.int .i64 0)).run Try.prog wx = .ok (.slice (some ⟨wx.heap.size, 0, none⟩) 0 0) (wx.alloc (.cells (madeCells #[.int .i64 0] 0) 2)) := fun wx =>
    run_make_row' (P := Try.prog) 64 2 (.int .i64 0) 8 Try.underlying64 Try.info2 rfl .i64 .i64 0 (by omega) (by omega) wx
  have hm2 : ∀ wx : World, (Instr.makeSlice 65 (.int .i64 0) (.int .i64 0)).run Try.prog wx = .ok (.slice (some ⟨wx.heap.size, 0, none⟩) 0 0) (wx.alloc (.cells (madeCells #[.int .i64 0] 0) 3)) := fun wx =>
    run_make_row' (P := Try.prog) 65 3 (.int .i64 0) 8 Try.underlying65 Try.info3 rfl .i64 .i64 0 (by omega) (by omega) wx
  have hB : Hid (Below w.heap.size w ((w.alloc (.cells (madeCells #[.int .i64 0] 0) 2)).alloc (.cells (madeCells #[.int .i64 0] 0) 3))) := ((Below.refl _ _).alloc (Nat.le_refl _) _).alloc (by simp) _
  go_enter Try.func23, Try.ntmps23
  go_wp2_with fail
  go_loop [7] (fun i => i = .int .i64 0) (fun _ => 0)
  case atStart => rfl
  case round =>
    subst hrel
    go_wp2_with fail
    go_loop [8] (fun i => i = .int .i64 1) (fun _ => 0)
    case atStart => rfl
    case round =>
      subst hrel
      go_wp2_with fail
      go_loop [12, 13] (fun b i => b = .int .i64 (-1) ∧ i = .int .i64 0) (fun _ _ => 0)
      case atStart => exact ⟨rfl, rfl⟩
      case round =>
        obtain ⟨rfl, rfl⟩ := hrel
        go_wp2_with fail
        go_ret2
        exact ⟨rfl, hB.out⟩
end Go.Proofs.Qxb6603359a
