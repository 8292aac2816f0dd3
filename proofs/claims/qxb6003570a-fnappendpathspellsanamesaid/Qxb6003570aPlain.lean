/-
  The plain mathematics of the tree's layout: no Go in sight.
-/
namespace Go.Proofs.Qxb6003570a.Pl

/-- How many children a vertex of level l has. -/
def fan (n : Nat) (rep : Bool) (l : Nat) : Nat := if rep = true then n - 1 else n - l
/-- How many vertices level d + 1 has. -/
def wid (n : Nat) (rep : Bool) : Nat → Nat
  | 0 => 1
  | d + 1 => wid n rep d * fan n rep (d + 1)
/-- The number of the first vertex of level d + 1. -/
def sta (n : Nat) (rep : Bool) : Nat → Nat
  | 0 => 0
  | d + 1 => sta n rep d + wid n rep d

theorem fan_le (n : Nat) (rep : Bool) (l : Nat) (hl : 1 ≤ l) : fan n rep l ≤ n - 1 := by
  unfold fan; split <;> omega

theorem wid_le (n : Nat) (rep : Bool) (hn : n ≤ 12) : ∀ d, wid n rep d ≤ 12 ^ d
  | 0 => by simp [wid]
  | d + 1 => by
    have h := wid_le n rep hn d
    have f := fan_le n rep (d + 1) (by omega)
    simp only [wid]
    rw [Nat.pow_succ]
    exact Nat.mul_le_mul h (by omega)

theorem sta_le (n : Nat) (rep : Bool) (hn : n ≤ 12) : ∀ d, sta n rep d ≤ 12 ^ d
  | 0 => by simp [sta]
  | d + 1 => by
    have h := sta_le n rep hn d
    have f := wid_le n rep hn d
    simp only [sta]
    rw [Nat.pow_succ]
    omega

theorem pow_le_8 (d : Nat) (h : d ≤ 8) : 12 ^ d ≤ 429981696 := by
  have : 12 ^ d ≤ 12 ^ 8 := Nat.pow_le_pow_right (by omega) h
  omega

theorem sta_bd (n : Nat) (rep : Bool) (hn : n ≤ 12) (d : Nat) (h : d ≤ 8) : sta n rep d ≤ 429981696 :=
  Nat.le_trans (sta_le n rep hn d) (pow_le_8 d h)
theorem wid_bd (n : Nat) (rep : Bool) (hn : n ≤ 12) (d : Nat) (h : d ≤ 8) : wid n rep d ≤ 429981696 :=
  Nat.le_trans (wid_le n rep hn d) (pow_le_8 d h)

/-- All levels above L have children. -/
def Pos (n : Nat) (rep : Bool) (L : Nat) : Prop := ∀ l, 1 ≤ l → l < L → 0 < fan n rep l

theorem wid_pos (n : Nat) (rep : Bool) (L : Nat) (hp : Pos n rep L) : ∀ d, d < L → 0 < wid n rep d
  | 0, _ => by simp [wid]
  | d + 1, h => by
    have h1 := wid_pos n rep L hp d (by omega)
    have h2 := hp (d + 1) (by omega) (by omega)
    simp only [wid]
    exact Nat.mul_pos h1 h2

theorem sta_mono (n : Nat) (rep : Bool) (a : Nat) : ∀ b, a ≤ b → sta n rep a ≤ sta n rep b
  | 0, h => by have : a = 0 := by omega
               subst this; exact Nat.le_refl _
  | b + 1, h => by
    by_cases e : a = b + 1
    · subst e; exact Nat.le_refl _
    · have := sta_mono n rep a b (by omega)
      simp only [sta]; omega

theorem sta_lt (n : Nat) (rep : Bool) (L : Nat) (hp : Pos n rep L) (a b : Nat) (h : a < b) (hb : b ≤ L) : sta n rep a < sta n rep b := by
  have h1 := sta_mono n rep (a + 1) b (by omega)
  have h2 := wid_pos n rep L hp a (by omega)
  simp only [sta] at h1; omega

/-- Does q stand among the first m steps of f? -/
def has (f : Nat → Nat) : Nat → Nat → Bool
  | 0, _ => false
  | m + 1, q => has f m q || f m == q
/-- How many numbers below p are marked? -/
def cnt (P : Nat → Bool) : Nat → Nat
  | 0 => 0
  | p + 1 => cnt P p + if P p = true then 1 else 0
/-- How many numbers below p are free? -/
def fr (P : Nat → Bool) : Nat → Nat
  | 0 => 0
  | p + 1 => fr P p + if P p = true then 0 else 1
/-- How many of a name's first i steps bar a processor at step i. -/
def mm (rep : Bool) (i : Nat) : Nat := if rep = true then 1 else i

theorem has_true (f : Nat → Nat) (q : Nat) : ∀ m, has f m q = true ↔ ∃ i, i < m ∧ f i = q
  | 0 => by simp [has]
  | m + 1 => by
    have h := has_true f q m
    simp only [has, Bool.or_eq_true, beq_iff_eq]
    rw [h]
    constructor
    · rintro (⟨i, h1, h2⟩ | h1)
      · exact ⟨i, by omega, h2⟩
      · exact ⟨m, by omega, h1⟩
    · rintro ⟨i, h1, h2⟩
      by_cases e : i = m
      · subst e; exact Or.inr h2
      · exact Or.inl ⟨i, by omega, h2⟩

theorem has_false (f : Nat → Nat) (q m : Nat) : has f m q = false ↔ ∀ i, i < m → f i ≠ q := by
  rw [← Bool.not_eq_true, has_true]
  constructor
  · intro h i hi e; exact h ⟨i, hi, e⟩
  · rintro h ⟨i, hi, e⟩; exact h i hi e

theorem has_congr (f g : Nat → Nat) : ∀ m, (∀ i, i < m → f i = g i) → has f m = has g m
  | 0, _ => by funext q; simp [has]
  | m + 1, h => by
    funext q
    simp only [has]
    rw [has_congr f g m (fun i hi => h i (by omega)), h m (by omega)]

theorem cnt_fr (P : Nat → Bool) : ∀ p, cnt P p + fr P p = p
  | 0 => rfl
  | p + 1 => by
    have h := cnt_fr P p
    simp only [cnt, fr]
    split <;> omega

theorem cnt_or (P : Nat → Bool) (e : Nat) (he : P e = false) : ∀ p, cnt (fun q => P q || e == q) p = cnt P p + if e < p then 1 else 0
  | 0 => by simp [cnt]
  | p + 1 => by
    have h := cnt_or P e he p
    simp only [cnt]
    rw [h]
    by_cases e1 : e = p
    · subst e1; simp [he]
    · by_cases e2 : e < p
      · have e3 : e < p + 1 := by omega
        simp [e1, e2, e3]; omega
      · have e3 : ¬ e < p + 1 := by omega
        simp [e1, e2, e3]

theorem fr_mono (P : Nat → Bool) (a : Nat) : ∀ b, a ≤ b → fr P a ≤ fr P b
  | 0, h => by have : a = 0 := by omega
               subst this; exact Nat.le_refl _
  | b + 1, h => by
    by_cases e : a = b + 1
    · subst e; exact Nat.le_refl _
    · have := fr_mono P a b (by omega)
      simp only [fr]; omega

theorem fr_strict (P : Nat → Bool) (a b : Nat) (h : a < b) (ha : P a = false) : fr P a < fr P b := by
  have h1 := fr_mono P (a + 1) b (by omega)
  simp [fr, ha] at h1; omega

theorem fr_inj (P : Nat → Bool) (a b : Nat) (ha : P a = false) (hb : P b = false) (h : fr P a = fr P b) : a = b := by
  rcases Nat.lt_trichotomy a b with h1 | h1 | h1
  · have := fr_strict P a b h1 ha; omega
  · exact h1
  · have := fr_strict P b a h1 hb; omega

theorem fr_lt_iff (P : Nat → Bool) (a b : Nat) (ha : P a = false) (hb : P b = false) : fr P a < fr P b ↔ a < b := by
  constructor
  · intro h
    rcases Nat.lt_trichotomy a b with h1 | h1 | h1
    · exact h1
    · subst h1; omega
    · have := fr_strict P b a h1 hb; omega
  · intro h; exact fr_strict P a b h ha

theorem fr_nth (P : Nat → Bool) (r : Nat) : ∀ n, r < fr P n → ∃ p, p < n ∧ P p = false ∧ fr P p = r
  | 0, h => by simp [fr] at h
  | n + 1, h => by
    by_cases h1 : r < fr P n
    · obtain ⟨p, a, b, c⟩ := fr_nth P r n h1
      exact ⟨p, by omega, b, c⟩
    · simp only [fr] at h
      cases hP : P n
      · rw [hP] at h; simp at h
        exact ⟨n, by omega, hP, by omega⟩
      · rw [hP] at h; simp at h; omega

/-- f names a vertex of level d + 1. -/
def Valid (n src : Nat) (rep : Bool) (f : Nat → Nat) (d : Nat) : Prop := f 0 = src ∧ ∀ i, 1 ≤ i → i ≤ d → f i < n ∧ has f (mm rep i) (f i) = false
/-- Its place among the vertices of its level. -/
def idx (n : Nat) (rep : Bool) (f : Nat → Nat) : Nat → Nat
  | 0 => 0
  | d + 1 => idx n rep f d * fan n rep (d + 1) + fr (has f (mm rep (d + 1))) (f (d + 1))

theorem Valid.up {n src : Nat} {rep : Bool} {f : Nat → Nat} {d e : Nat} (h : Valid n src rep f d) (he : e ≤ d) : Valid n src rep f e :=
  ⟨h.1, fun i h1 h2 => h.2 i h1 (by omega)⟩

theorem Valid.lt {n src : Nat} {rep : Bool} {f : Nat → Nat} {d : Nat} (h : Valid n src rep f d) (hs : src < n) (i : Nat) (hi : i ≤ d) : f i < n := by
  by_cases e : i = 0
  · subst e; rw [h.1]; exact hs
  · exact (h.2 i (by omega) hi).1

theorem Valid.congr {n src : Nat} {rep : Bool} {f g : Nat → Nat} {d : Nat} (h : Valid n src rep f d) (e : ∀ i, i ≤ d → f i = g i) : Valid n src rep g d := by
  refine ⟨by rw [← e 0 (by omega)]; exact h.1, fun i h1 h2 => ?_⟩
  have h3 := h.2 i h1 h2
  rw [← e i h2]
  refine ⟨h3.1, ?_⟩
  rw [← has_congr f g (mm rep i) (fun j hj => e j (by unfold mm at hj; split at hj <;> omega))]
  exact h3.2

theorem idx_congr (n : Nat) (rep : Bool) (f g : Nat → Nat) : ∀ d, (∀ i, i ≤ d → f i = g i) → idx n rep f d = idx n rep g d
  | 0, _ => rfl
  | d + 1, e => by
    simp only [idx]
    rw [idx_congr n rep f g d (fun i hi => e i (by omega)), e (d + 1) (Nat.le_refl _),
      has_congr f g (mm rep (d + 1)) (fun j hj => e j (by unfold mm at hj; split at hj <;> omega))]

theorem cnt_has {n src : Nat} {f : Nat → Nat} {d : Nat} (h : Valid n src false f d) (hs : src < n) : ∀ m, m ≤ d + 1 → cnt (has f m) n = m
  | 0, _ => by
    have : ∀ p, cnt (has f 0) p = 0 := by
      intro p
      induction p with
      | zero => rfl
      | succ p ih => simp only [cnt, ih]; simp [has]
    exact this n
  | m + 1, hm => by
    have h1 := cnt_has h hs m (by omega)
    have h2 : has f m (f m) = false := by
      by_cases e : m = 0
      · subst e; rfl
      · have := (h.2 m (by omega) (by omega)).2
        simpa [mm] using this
    have h3 := h.lt hs m (by omega)
    have h4 : has f (m + 1) = fun q => has f m q || f m == q := by funext q; rfl
    rw [h4, cnt_or _ _ h2, h1, if_pos h3]

theorem cnt_one (s : Nat) : ∀ n, s < n → cnt (fun q => s == q) n = 1 := by
  intro n h
  have h0 : ∀ p, cnt (fun _ => false) p = 0 := by
    intro p
    induction p with
    | zero => rfl
    | succ p ih => simp [cnt, ih]
  have h1 := cnt_or (fun _ => false) s rfl n
  rw [h0, if_pos h] at h1
  simpa using h1

/-- As many processors may follow a name as its vertex has children. -/
theorem fr_all {n src : Nat} {rep : Bool} {f : Nat → Nat} {d : Nat} (h : Valid n src rep f d) (hs : src < n) : fr (has f (mm rep (d + 1))) n = fan n rep (d + 1) := by
  have h1 := cnt_fr (has f (mm rep (d + 1))) n
  cases rep
  · have h2 := cnt_has h hs (d + 1) (Nat.le_refl _)
    simp only [mm, fan] at *
    simp at *
    omega
  · have h2 := cnt_one (f 0) n (h.lt hs 0 (by omega))
    have h3 : has f 1 = fun q => f 0 == q := by funext q; simp [has]
    simp only [mm, fan] at *
    simp only [if_true] at *
    rw [h3] at *
    omega

theorem rank_lt {n src : Nat} {rep : Bool} {f : Nat → Nat} {d : Nat} (h : Valid n src rep f (d + 1)) (hs : src < n) : fr (has f (mm rep (d + 1))) (f (d + 1)) < fan n rep (d + 1) := by
  have h1 := h.2 (d + 1) (by omega) (Nat.le_refl _)
  rw [← fr_all (h.up (by omega : d ≤ d + 1)) hs]
  exact fr_strict _ _ _ h1.1 h1.2

theorem mul_bd {a b c r : Nat} (h1 : a < b) (h2 : r < c) : a * c + r < b * c := by
  have : (a + 1) * c ≤ b * c := Nat.mul_le_mul_right c h1
  rw [Nat.succ_mul] at this
  omega

theorem idx_lt {n src : Nat} {rep : Bool} {f : Nat → Nat} (hs : src < n) : ∀ d, Valid n src rep f d → idx n rep f d < wid n rep d
  | 0, _ => by simp [idx, wid]
  | d + 1, h => by
    have h1 := idx_lt hs d (h.up (by omega))
    have h2 := rank_lt h hs
    simp only [idx, wid]
    exact mul_bd h1 h2

theorem idx_div {n src : Nat} {rep : Bool} {f : Nat → Nat} {d : Nat} (hs : src < n) (h : Valid n src rep f (d + 1)) : idx n rep f (d + 1) / fan n rep (d + 1) = idx n rep f d ∧ idx n rep f (d + 1) % fan n rep (d + 1) = fr (has f (mm rep (d + 1))) (f (d + 1)) := by
  have h2 := rank_lt h hs
  simp only [idx]
  generalize fr (has f (mm rep (d + 1))) (f (d + 1)) = r at *
  generalize fan n rep (d + 1) = c at *
  generalize idx n rep f d = a at *
  constructor
  · rw [Nat.add_comm, Nat.add_mul_div_right _ _ (by omega), Nat.div_eq_of_lt h2, Nat.zero_add]
  · rw [Nat.add_comm, Nat.add_mul_mod_self_right, Nat.mod_eq_of_lt h2]

theorem idx_inj {n src : Nat} {rep : Bool} {f g : Nat → Nat} (hs : src < n) : ∀ d, Valid n src rep f d → Valid n src rep g d → idx n rep f d = idx n rep g d → ∀ i, i ≤ d → f i = g i
  | 0, hf, hg, _, i, hi => by
    have : i = 0 := by omega
    subst this; rw [hf.1, hg.1]
  | d + 1, hf, hg, e, i, hi => by
    have f1 := idx_div hs hf
    have g1 := idx_div hs hg
    rw [e] at f1
    have h0 := idx_inj hs d (hf.up (by omega)) (hg.up (by omega)) (by rw [← f1.1, ← g1.1])
    by_cases hid : i ≤ d
    · exact h0 i hid
    · have : i = d + 1 := by omega
      subst this
      have hc : has f (mm rep (d + 1)) = has g (mm rep (d + 1)) := has_congr _ _ _ (fun j hj => h0 j (by unfold mm at hj; split at hj <;> omega))
      have hf2 := (hf.2 (d + 1) (by omega) (Nat.le_refl _)).2
      have hg2 := (hg.2 (d + 1) (by omega) (Nat.le_refl _)).2
      rw [← hc] at hg2
      refine fr_inj _ _ _ hf2 hg2 ?_
      rw [← f1.2, g1.2, hc]

theorem mul_lt {a b c r s : Nat} (h1 : a < b) (h2 : r < c) : a * c + r < b * c + s := by
  have := mul_bd h1 h2; omega

/-- Names of one length are numbered in their lexicographic order. -/
theorem idx_lex {n src : Nat} {rep : Bool} {f g : Nat → Nat} (hs : src < n) : ∀ d, Valid n src rep f d → Valid n src rep g d → ∀ i, i ≤ d → (∀ j, j < i → f j = g j) → f i < g i → idx n rep f d < idx n rep g d
  | 0, hf, hg, i, hi, _, hlt => by
    have : i = 0 := by omega
    subst this; rw [hf.1, hg.1] at hlt; omega
  | d + 1, hf, hg, i, hi, he, hlt => by
    simp only [idx]
    by_cases hid : i ≤ d
    · exact mul_lt (idx_lex hs d (hf.up (by omega)) (hg.up (by omega)) i hid he hlt) (rank_lt hf hs)
    · have : i = d + 1 := by omega
      subst this
      have hc : has f (mm rep (d + 1)) = has g (mm rep (d + 1)) := has_congr _ _ _ (fun j hj => he j (by unfold mm at hj; split at hj <;> omega))
      have hf2 := (hf.2 (d + 1) (by omega) (Nat.le_refl _)).2
      rw [idx_congr n rep f g d (fun j hj => he j (by omega)), ← hc]
      have := fr_strict _ _ _ hlt hf2
      omega

/-- Every vertex has a name. -/
theorem idx_onto {n src : Nat} {rep : Bool} (hs : src < n) : ∀ d k, k < wid n rep d → ∃ f, Valid n src rep f d ∧ idx n rep f d = k
  | 0, k, h => by
    refine ⟨fun _ => src, ⟨rfl, fun i h1 h2 => by omega⟩, ?_⟩
    simp [wid] at h; simp [idx, h]
  | d + 1, k, h => by
    simp only [wid] at h
    have hc : 0 < fan n rep (d + 1) := by
      rcases Nat.eq_zero_or_pos (fan n rep (d + 1)) with h0 | h0
      · rw [h0] at h; omega
      · exact h0
    have h1 : k / fan n rep (d + 1) < wid n rep d := by rw [Nat.div_lt_iff_lt_mul hc]; exact h
    obtain ⟨f, hf, hi⟩ := idx_onto hs d _ h1
    have h2 : k % fan n rep (d + 1) < fr (has f (mm rep (d + 1))) n := by rw [fr_all hf hs]; exact Nat.mod_lt _ hc
    obtain ⟨p, p1, p2, p3⟩ := fr_nth _ _ _ h2
    have he : ∀ i, i ≤ d → f i = (fun i => if i = d + 1 then p else f i) i := by intro i hi; have : i ≠ d + 1 := by omega
                                                                                 simp [this]
    have hcg : has (fun i => if i = d + 1 then p else f i) (mm rep (d + 1)) = has f (mm rep (d + 1)) := (has_congr _ _ _ (fun j hj => he j (by unfold mm at hj; split at hj <;> omega))).symm
    refine ⟨fun i => if i = d + 1 then p else f i, ⟨by simpa using hf.1, fun i i1 i2 => ?_⟩, ?_⟩
    · by_cases e : i ≤ d
      · exact (hf.congr he).2 i i1 e
      · have : i = d + 1 := by omega
        subst this
        rw [hcg]; simp [p1, p2]
    · simp only [idx]
      rw [hcg, ← idx_congr n rep f _ d he, hi]
      simp only [if_true]
      rw [p3, Nat.mul_comm]
      exact Nat.div_add_mod _ _

end Go.Proofs.Qxb6003570a.Pl
