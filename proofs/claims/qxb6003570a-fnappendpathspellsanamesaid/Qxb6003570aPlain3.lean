/-
  What a right table of name ends says of siblings: no Go in sight.
-/
import Derived.Test.Qxb6003570aPlain2
namespace Go.Proofs.Qxb6003570a.Pl

theorem level_unique (n : Nat) (rep : Bool) (a b u : Nat) (h1 : sta n rep a ≤ u) (h2 : u < sta n rep (a + 1)) (h3 : sta n rep b ≤ u) (h4 : u < sta n rep (b + 1)) : a = b := by
  rcases Nat.lt_trichotomy a b with h | h | h
  · have := sta_mono n rep (a + 1) b h; omega
  · exact h
  · have := sta_mono n rep (b + 1) a h; omega

/-- A right entry of a known level, opened. -/
theorem Right.at {n src : Nat} {rep : Bool} {L u x d : Nat} (h : Right n src rep L u x) (hs : src < n) (h1 : sta n rep d ≤ u) (h2 : u < sta n rep (d + 1)) : ∃ f, Valid n src rep f d ∧ u = sta n rep d + idx n rep f d ∧ x = f d := by
  obtain ⟨e, f, he, hv, hu, hx⟩ := h
  have h3 := idx_lt hs e hv
  have : e = d := level_unique n rep e d u (by omega) (by show u < sta n rep e + wid n rep e; omega) h1 h2
  subst this
  exact ⟨f, hv, hu, hx⟩

theorem mm_pos (rep : Bool) (i : Nat) (h : 1 ≤ i) : 0 < mm rep i := by unfold mm; split <;> omega

theorem rise1 {n src : Nat} {rep : Bool} {L u x d : Nat} (h : Right n src rep L u x) (hs : src < n) (h1 : sta n rep (d + 1) ≤ u) (h2 : u < sta n rep (d + 2)) : x < n ∧ x ≠ src := by
  obtain ⟨f, hv, hu, rfl⟩ := h.at hs h1 h2
  have h3 := hv.2 (d + 1) (by omega) (Nat.le_refl _)
  refine ⟨h3.1, fun e => ?_⟩
  have h4 := (has_false f (f (d + 1)) (mm rep (d + 1))).1 h3.2 0 (mm_pos rep (d + 1) (by omega))
  rw [hv.1] at h4
  exact h4 e.symm

theorem rise2 {n src : Nat} {rep : Bool} {L u x y d k j : Nat} (hx : Right n src rep L u x) (hy : Right n src rep L (u + 1) y) (hs : src < n) (hu : u = sta n rep (d + 1) + k * fan n rep (d + 1) + j) (hj : j + 1 < fan n rep (d + 1)) (h2 : u + 1 < sta n rep (d + 2)) : x < y := by
  obtain ⟨f, hf, uf, rfl⟩ := hx.at hs (d := d + 1) (by omega) (by show u < sta n rep (d + 2); omega)
  obtain ⟨g, hg, ug, rfl⟩ := hy.at hs (d := d + 1) (by omega) h2
  have f1 := idx_div hs hf
  have g1 := idx_div hs hg
  have e1 : idx n rep f (d + 1) = k * fan n rep (d + 1) + j := by omega
  have e2 : idx n rep g (d + 1) = k * fan n rep (d + 1) + (j + 1) := by omega
  rw [e1] at f1
  rw [e2] at g1
  have hc : 0 < fan n rep (d + 1) := by omega
  have q1 : ∀ r, r < fan n rep (d + 1) → (k * fan n rep (d + 1) + r) / fan n rep (d + 1) = k := fun r hr => by
    rw [Nat.add_comm, Nat.add_mul_div_right _ _ hc, Nat.div_eq_of_lt hr, Nat.zero_add]
  have q2 : ∀ r, r < fan n rep (d + 1) → (k * fan n rep (d + 1) + r) % fan n rep (d + 1) = r := fun r hr => by
    rw [Nat.add_comm, Nat.add_mul_mod_self_right, Nat.mod_eq_of_lt hr]
  rw [q1 j (by omega), q2 j (by omega)] at f1
  rw [q1 (j + 1) hj, q2 (j + 1) hj] at g1
  have hp := idx_inj hs d (hf.up (by omega)) (hg.up (by omega)) (by rw [← f1.1, ← g1.1])
  have hcg : has f (mm rep (d + 1)) = has g (mm rep (d + 1)) := has_congr _ _ _ (fun i hi => hp i (by unfold mm at hi; split at hi <;> omega))
  have hf2 := (hf.2 (d + 1) (by omega) (Nat.le_refl _)).2
  have hg2 := (hg.2 (d + 1) (by omega) (Nat.le_refl _)).2
  rw [← hcg] at hg2 g1
  refine (fr_lt_iff _ _ _ hf2 hg2).1 ?_
  omega

/-- The children's places. -/
theorem child_lt {n : Nat} {rep : Bool} {d v j : Nat} (h1 : sta n rep d ≤ v) (h2 : v < sta n rep (d + 1)) (hj : j < fan n rep (d + 1)) : sta n rep (d + 1) + (v - sta n rep d) * fan n rep (d + 1) + j < sta n rep (d + 2) := by
  have h3 : v - sta n rep d < wid n rep d := by simp only [sta] at h2; omega
  have := mul_bd h3 hj
  show _ < sta n rep (d + 1) + wid n rep d * fan n rep (d + 1)
  omega

end Go.Proofs.Qxb6003570a.Pl
