/-
  The plain law of the sorting model: no Go in sight. 'alg': the algorithms by their index; K, P: the keys and the positions as the model sorts them.
-/
namespace Go.Proofs.Qxb6603359a

/-- Element i has an equal one behind it. -/
def Dup (alg : Nat → Int) (n i : Nat) : Prop := ∃ j, i < j ∧ j < n ∧ alg j = alg i

/-- The first i elements are sorted; the others stand as they came. -/
structure St (alg : Nat → Int) (n i : Nat) (K : Nat → Int) (P : Nat → Nat) : Prop where
  key : ∀ j, j < i → K j = alg (P j)
  lt : ∀ j, j < i → P j < i
  sur : ∀ q, q < i → ∃ j, j < i ∧ P j = q
  ord : ∀ j j', j < j' → j' < i → K j < K j' ∨ (K j = K j' ∧ P j < P j')
  rest : ∀ j, i ≤ j → j < n → K j = alg j ∧ P j = j

theorem St.start (alg : Nat → Int) (n : Nat) (K : Nat → Int) (P : Nat → Nat) (h : ∀ j, j < n → K j = alg j ∧ P j = j) (hn : 0 < n) : St alg n 1 K P := by
  have h0 := h 0 hn
  refine ⟨fun j hj => ?_, fun j hj => ?_, fun q hq => ?_, fun j j' h1 h2 => by omega, fun j _ hj => h j hj⟩
  · have : j = 0 := by omega
    subst this; rw [h0.2]; exact h0.1
  · have : j = 0 := by omega
    subst this; rw [h0.2]; exact hj
  · exact ⟨0, by omega, by rw [h0.2]; omega⟩

theorem St.mono {alg : Nat → Int} {n i : Nat} {K : Nat → Int} {P : Nat → Nat} (h : St alg n i K P) {j j' : Nat} (h1 : j ≤ j') (h2 : j' < i) : K j ≤ K j' := by
  rcases Nat.lt_or_eq_of_le h1 with hlt | rfl
  · rcases h.ord j j' hlt h2 with h | h
    · omega
    · omega
  · omega

/-- Where the next key goes. -/
theorem place (K : Nat → Int) (k : Int) (i : Nat) (hm : ∀ j j', j ≤ j' → j' < i → K j ≤ K j') : ∃ t, t ≤ i ∧ (∀ m, m < t → K m ≤ k) ∧ (∀ m, t ≤ m → m < i → k < K m) := by
  induction i with
  | zero => exact ⟨0, Nat.le_refl _, fun m hm => by omega, fun m _ hm => by omega⟩
  | succ i ih =>
    by_cases h : K i ≤ k
    · exact ⟨i + 1, Nat.le_refl _, fun m hm' => by have := hm m i (by omega) (by omega); omega, fun m h1 h2 => by omega⟩
    · obtain ⟨t, t1, t2, t3⟩ := ih (fun j j' h1 h2 => hm j j' h1 (by omega))
      refine ⟨t, by omega, t2, fun m h1 h2 => ?_⟩
      by_cases e : m = i
      · rw [e]; omega
      · exact t3 m h1 (by omega)

/-- x put in at t, those from t to i - 1 moved up by one. -/
def ins {α : Type} (F : Nat → α) (x : α) (t i m : Nat) : α := if m < t then F m else if m = t then x else if m ≤ i then F (m - 1) else F m
theorem ins_lt {α : Type} (F : Nat → α) (x : α) (t i m : Nat) (h : m < t) : ins F x t i m = F m := by simp [ins, h]
theorem ins_eq {α : Type} (F : Nat → α) (x : α) (t i : Nat) : ins F x t i t = x := by simp [ins]
theorem ins_mid {α : Type} (F : Nat → α) (x : α) (t i m : Nat) (h : t < m) (h' : m ≤ i) : ins F x t i m = F (m - 1) := by
  unfold ins; rw [if_neg (by omega), if_neg (by omega), if_pos h']
theorem ins_gt {α : Type} (F : Nat → α) (x : α) (t i m : Nat) (h : t < m) (h' : i < m) : ins F x t i m = F m := by
  unfold ins; rw [if_neg (by omega), if_neg (by omega), if_neg (by omega)]

/-- The cases of a place below i + 1. -/
theorem ins_cases {t i m : Nat} (_ht : t ≤ i) (hm : m < i + 1) : m < t ∨ m = t ∨ (t < m ∧ m ≤ i) := by omega

theorem St.step {alg : Nat → Int} {n i : Nat} {K : Nat → Int} {P : Nat → Nat} (h : St alg n i K P) (t : Nat) (ht : t ≤ i)
    (h1 : ∀ m, m < t → K m ≤ alg i) (h2 : ∀ m, t ≤ m → m < i → alg i < K m) : St alg n (i + 1) (ins K (alg i) t i) (ins P i t i) := by
  refine ⟨fun j hj => ?_, fun j hj => ?_, fun q hq => ?_, fun j j' hjj hj' => ?_, fun j hj hjn => ?_⟩
  · rcases ins_cases ht hj with a | a | ⟨a, b⟩
    · rw [ins_lt _ _ _ _ _ a, ins_lt _ _ _ _ _ a]; exact h.key j (by omega)
    · rw [a, ins_eq, ins_eq]
    · rw [ins_mid _ _ _ _ _ a b, ins_mid _ _ _ _ _ a b]; exact h.key (j - 1) (by omega)
  · rcases ins_cases ht hj with a | a | ⟨a, b⟩
    · rw [ins_lt _ _ _ _ _ a]; have := h.lt j (by omega); omega
    · rw [a, ins_eq]; omega
    · rw [ins_mid _ _ _ _ _ a b]; have := h.lt (j - 1) (by omega); omega
  · by_cases e : q = i
    · exact ⟨t, by omega, by rw [ins_eq, e]⟩
    · obtain ⟨j, hj, hp⟩ := h.sur q (by omega)
      by_cases hjt : j < t
      · exact ⟨j, by omega, by rw [ins_lt _ _ _ _ _ hjt]; exact hp⟩
      · exact ⟨j + 1, by omega, by rw [ins_mid _ _ _ _ _ (by omega) (by omega)]; exact hp⟩
  · rcases ins_cases ht (show j < i + 1 by omega) with a | a | ⟨a, b⟩
    · rw [ins_lt _ _ _ _ _ a, ins_lt _ _ _ _ _ a]
      rcases ins_cases ht hj' with a' | a' | ⟨a', b'⟩
      · rw [ins_lt _ _ _ _ _ a', ins_lt _ _ _ _ _ a']; exact h.ord j j' hjj (by omega)
      · rw [a', ins_eq, ins_eq]
        have := h1 j a
        have := h.lt j (by omega)
        omega
      · rw [ins_mid _ _ _ _ _ a' b', ins_mid _ _ _ _ _ a' b']; exact h.ord j (j' - 1) (by omega) (by omega)
    · subst a
      rw [ins_eq, ins_eq, ins_mid _ _ _ _ _ hjj (by omega), ins_mid _ _ _ _ _ hjj (by omega)]
      exact Or.inl (h2 (j' - 1) (by omega) (by omega))
    · rw [ins_mid _ _ _ _ _ a b, ins_mid _ _ _ _ _ a b, ins_mid _ _ _ _ _ (by omega) (by omega), ins_mid _ _ _ _ _ (by omega) (by omega)]
      exact h.ord (j - 1) (j' - 1) (by omega) (by omega)
  · rw [ins_gt _ _ _ _ _ (by omega) (by omega), ins_gt _ _ _ _ _ (by omega) (by omega)]
    exact h.rest j (by omega) hjn

/-- The run that starts at s ends at e. -/
def RunEnd (K : Nat → Int) (n s e : Nat) : Prop := s < e ∧ e ≤ n ∧ (∀ m, s ≤ m → m < e → K m = K s) ∧ (e < n → K e ≠ K s)
theorem RunEnd.ex (K : Nat → Int) (n s : Nat) (h : s < n) : ∃ e, RunEnd K n s e := by
  have go : ∀ d e, e + d = n → s < e → (∀ m, s ≤ m → m < e → K m = K s) → ∃ e, RunEnd K n s e := by
    intro d
    induction d with
    | zero => intro e h1 h2 h3; exact ⟨e, h2, by omega, h3, fun h => by omega⟩
    | succ d ih =>
      intro e h1 h2 h3
      by_cases he : K e = K s
      · refine ih (e + 1) (by omega) (by omega) (fun m m1 m2 => ?_)
        by_cases em : m = e
        · rw [em]; exact he
        · exact h3 m m1 (by omega)
      · exact ⟨e, h2, by omega, h3, fun _ => he⟩
  exact go (n - s - 1) (s + 1) (by omega) (by omega) (fun m m1 m2 => by rw [show m = s by omega])

/-- Between s - 1 and s the keys part. -/
def CutAt (K : Nat → Int) (n s : Nat) : Prop := ∀ m m', m < s → s ≤ m' → m' < n → K m < K m'

/-- The least position, among the first s of the sorted ones, that has an equal one behind it; or -1. -/
def Best (alg : Nat → Int) (n : Nat) (P : Nat → Nat) (s : Nat) (best : Int) : Prop :=
  (best = -1 ∧ ∀ m, m < s → ¬ Dup alg n (P m)) ∨ (∃ m, m < s ∧ best = (P m : Int) ∧ Dup alg n (P m) ∧ ∀ m', m' < s → Dup alg n (P m') → P m ≤ P m')

theorem CutAt.next {alg : Nat → Int} {n : Nat} {K : Nat → Int} {P : Nat → Nat} (h : St alg n n K P) {s e : Nat} (hc : CutAt K n s) (he : RunEnd K n s e) : CutAt K n e := by
  obtain ⟨e1, e2, e3, e4⟩ := he
  intro m m' h1 h2 h3
  by_cases hm : m < s
  · exact hc m m' hm (by omega) h3
  · have a := e3 m (by omega) h1
    have b := h.mono (show s ≤ e by omega) (show e < n by omega)
    have c := e4 (by omega)
    have d := h.mono h2 h3
    omega

/-- A run of two or more: its first position has an equal one behind it, and is the run's least. -/
theorem run_dup {alg : Nat → Int} {n : Nat} {K : Nat → Int} {P : Nat → Nat} (h : St alg n n K P) {s e : Nat} (he : RunEnd K n s e) (h2 : s + 2 ≤ e) : Dup alg n (P s) := by
  obtain ⟨e1, e2, e3, e4⟩ := he
  have o := h.ord s (s + 1) (by omega) (by omega)
  have a := e3 (s + 1) (by omega) (by omega)
  have k0 := h.key s (by omega)
  have k1 := h.key (s + 1) (by omega)
  refine ⟨P (s + 1), by omega, h.lt _ (by omega), by omega⟩
theorem run_least {alg : Nat → Int} {n : Nat} {K : Nat → Int} {P : Nat → Nat} (h : St alg n n K P) {s e m : Nat} (he : RunEnd K n s e) (h1 : s ≤ m) (h2 : m < e) : P s ≤ P m := by
  obtain ⟨e1, e2, e3, e4⟩ := he
  rcases Nat.lt_or_eq_of_le h1 with hlt | rfl
  · have o := h.ord s m hlt (by omega)
    have a := e3 m h1 h2
    omega
  · exact Nat.le_refl _
/-- A run of one: its position has no equal one behind it. -/
theorem run_one {alg : Nat → Int} {n : Nat} {K : Nat → Int} {P : Nat → Nat} (h : St alg n n K P) {s : Nat} (hc : CutAt K n s) (he : RunEnd K n s (s + 1)) : ¬ Dup alg n (P s) := by
  intro ⟨j, h1, h2, h3⟩
  have hs : s < n := by have := he.2.1; omega
  obtain ⟨m, hm, rfl⟩ := h.sur j h2
  have k0 := h.key s hs
  have k1 := h.key m hm
  rcases Nat.lt_trichotomy m s with hlt | rfl | hgt
  · have := hc m s hlt (Nat.le_refl _) hs; omega
  · omega
  · have a := he.2.2.2 (by omega)
    have b := h.mono (show s ≤ s + 1 by omega) (show s + 1 < n by omega)
    have c := h.mono (show s + 1 ≤ m by omega) hm
    omega

theorem Best.one {alg : Nat → Int} {n : Nat} {K : Nat → Int} {P : Nat → Nat} (h : St alg n n K P) {s e : Nat} {best : Int} (hc : CutAt K n s) (he : RunEnd K n s e) (h1 : ¬ s + 2 ≤ e) (hb : Best alg n P s best) : Best alg n P e best := by
  have he' := he.1
  have e1 : e = s + 1 := by omega
  subst e1
  have hn := run_one h hc he
  rcases hb with ⟨b1, b2⟩ | ⟨m, b1, b2, b3, b4⟩
  · refine Or.inl ⟨b1, fun m hm => ?_⟩
    by_cases e : m = s
    · rw [e]; exact hn
    · exact b2 m (by omega)
  · refine Or.inr ⟨m, by omega, b2, b3, fun m' hm' hd => ?_⟩
    by_cases e : m' = s
    · rw [e] at hd; exact absurd hd hn
    · exact b4 m' (by omega) hd
theorem Best.take {alg : Nat → Int} {n : Nat} {K : Nat → Int} {P : Nat → Nat} (h : St alg n n K P) {s e : Nat} {best : Int} (he : RunEnd K n s e) (h1 : s + 2 ≤ e) (hb : Best alg n P s best) (ht : best < 0 ∨ (P s : Int) < best) : Best alg n P e (P s) := by
  have hd := run_dup h he h1
  refine Or.inr ⟨s, he.1, rfl, hd, fun m' hm' hd' => ?_⟩
  by_cases hs : m' < s
  · rcases hb with ⟨b1, b2⟩ | ⟨m, b1, b2, b3, b4⟩
    · exact absurd hd' (b2 m' hs)
    · have := b4 m' hs hd'; omega
  · exact run_least h he (by omega) hm'
theorem Best.keep {alg : Nat → Int} {n : Nat} {K : Nat → Int} {P : Nat → Nat} (h : St alg n n K P) {s e : Nat} {best : Int} (he : RunEnd K n s e) (hb : Best alg n P s best) (ht : ¬ best < 0 ∧ ¬ (P s : Int) < best) : Best alg n P e best := by
  have he1 := he.1
  rcases hb with ⟨b1, b2⟩ | ⟨m, b1, b2, b3, b4⟩
  · omega
  · refine Or.inr ⟨m, by omega, b2, b3, fun m' hm' hd => ?_⟩
    by_cases hs : m' < s
    · exact b4 m' hs hd
    · have := run_least h he (show s ≤ m' by omega) hm'; omega

/-- What 'twice' answers. -/
def TwiceIs (alg : Nat → Int) (n : Nat) (x : Int) (ok : Bool) : Prop :=
  (ok = false ∧ x = 0 ∧ ∀ i, i < n → ¬ Dup alg n i) ∨ (ok = true ∧ ∃ i, i < n ∧ x = alg i ∧ Dup alg n i ∧ ∀ i', i' < i → ¬ Dup alg n i')

theorem TwiceIs.uniq {alg : Nat → Int} {n : Nat} {x y : Int} {a b : Bool} (h : TwiceIs alg n x a) (h' : TwiceIs alg n y b) : x = y ∧ a = b := by
  rcases h with ⟨rfl, rfl, h3⟩ | ⟨rfl, i, i1, rfl, i3, i4⟩
  · rcases h' with ⟨rfl, rfl, _⟩ | ⟨rfl, j, j1, rfl, j3, j4⟩
    · exact ⟨rfl, rfl⟩
    · exact absurd j3 (h3 j j1)
  · rcases h' with ⟨rfl, rfl, k3⟩ | ⟨rfl, j, j1, rfl, j3, j4⟩
    · exact absurd i3 (k3 i i1)
    · have : i = j := by
        rcases Nat.lt_trichotomy i j with hlt | e | hgt
        · exact absurd i3 (j4 i hlt)
        · exact e
        · exact absurd j3 (i4 j hgt)
      rw [this]; exact ⟨rfl, rfl⟩

/-- The least dup, or none. -/
theorem TwiceIs.ex (alg : Nat → Int) (n : Nat) : (∀ i, i < n → ¬ Dup alg n i) ∨ (∃ i, i < n ∧ Dup alg n i ∧ ∀ i', i' < i → ¬ Dup alg n i') := by
  have go : ∀ k, k ≤ n → (∀ i, i < k → ¬ Dup alg n i) ∨ (∃ i, i < k ∧ Dup alg n i ∧ ∀ i', i' < i → ¬ Dup alg n i') := by
    intro k
    induction k with
    | zero => exact fun _ => Or.inl (fun i hi => by omega)
    | succ k ih =>
      intro hk
      rcases ih (by omega) with h | ⟨i, h1, h2, h3⟩
      · by_cases hd : Dup alg n k
        · exact Or.inr ⟨k, by omega, hd, h⟩
        · refine Or.inl (fun i hi => ?_)
          by_cases e : i = k
          · rw [e]; exact hd
          · exact h i (by omega)
      · exact Or.inr ⟨i, by omega, h2, h3⟩
  exact go n (Nat.le_refl _)

theorem Best.none {alg : Nat → Int} {n : Nat} {K : Nat → Int} {P : Nat → Nat} (h : St alg n n K P) {best : Int} (hb : Best alg n P n best) (h0 : best < 0) : TwiceIs alg n 0 false := by
  rcases hb with ⟨b1, b2⟩ | ⟨m, b1, b2, b3, b4⟩
  · refine Or.inl ⟨rfl, rfl, fun i hi => ?_⟩
    obtain ⟨m, hm, rfl⟩ := h.sur i hi
    exact b2 m hm
  · omega
theorem Best.some {alg : Nat → Int} {n : Nat} {K : Nat → Int} {P : Nat → Nat} (h : St alg n n K P) {best : Int} (hb : Best alg n P n best) (h0 : ¬ best < 0) : ∃ i : Nat, best = (i : Int) ∧ i < n ∧ TwiceIs alg n (alg i) true := by
  rcases hb with ⟨b1, b2⟩ | ⟨m, b1, b2, b3, b4⟩
  · omega
  · refine ⟨P m, b2, h.lt m b1, Or.inr ⟨rfl, P m, h.lt m b1, rfl, b3, fun i' hi' hd => ?_⟩⟩
    have hp := h.lt m b1
    obtain ⟨m', hm', rfl⟩ := h.sur i' (by omega)
    have := b4 m' hm' hd
    omega
end Go.Proofs.Qxb6603359a
