/-
  The plain mathematics of 'Find''s ranks: no Go in sight.
-/
import Derived.Test.Qxb6003570aPlain3
namespace Go.Proofs.Qxb6003570a.Pl

/-- How many of f's first k steps are below p. -/
def cntlt (f : Nat → Nat) : Nat → Nat → Nat
  | 0, _ => 0
  | k + 1, p => cntlt f k p + if f k < p then 1 else 0

theorem cntlt_eq (f : Nat → Nat) (p : Nat) : ∀ m, (∀ j, j < m → has f j (f j) = false) → cntlt f m p = cnt (has f m) p
  | 0, _ => by
    have : ∀ q, cnt (has f 0) q = 0 := by
      intro q
      induction q with
      | zero => rfl
      | succ q ih => simp only [cnt, ih]; simp [has]
    rw [this]; rfl
  | m + 1, h => by
    have h1 := cntlt_eq f p m (fun j hj => h j (by omega))
    have h4 : has f (m + 1) = fun q => has f m q || f m == q := by funext q; rfl
    rw [h4, cnt_or _ _ (h m (by omega)), ← h1]
    rfl

theorem cntlt_le (f : Nat → Nat) (p : Nat) : ∀ m, cntlt f m p ≤ m
  | 0 => Nat.le_refl _
  | m + 1 => by have := cntlt_le f p m; simp only [cntlt]; split <;> omega

theorem Valid.apart {n src : Nat} {rep : Bool} {f : Nat → Nat} {d : Nat} (h : Valid n src rep f d) : ∀ j, j < mm rep (d + 1) → has f j (f j) = false := by
  intro j hj
  by_cases e : j = 0
  · subst e; rfl
  · cases rep
    · have := (h.2 j (by omega) (by simp [mm] at hj; omega)).2
      simpa [mm] using this
    · simp [mm] at hj; omega

/-- 'Find''s rank of p: p less the barred processors below it. -/
theorem rank_eq {n src : Nat} {rep : Bool} {f : Nat → Nat} {d : Nat} (h : Valid n src rep f d) (p : Nat) : (p : Int) - (cntlt f (mm rep (d + 1)) p : Int) = (fr (has f (mm rep (d + 1))) p : Int) := by
  have h1 := cntlt_eq f p (mm rep (d + 1)) h.apart
  have h2 := cnt_fr (has f (mm rep (d + 1))) p
  rw [h1]; omega

theorem cntlt_le_p {n src : Nat} {rep : Bool} {f : Nat → Nat} {d : Nat} (h : Valid n src rep f d) (p k : Nat) (hk : k ≤ mm rep (d + 1)) : cntlt f k p ≤ p := by
  have h1 := cntlt_eq f p k (fun j hj => h.apart j (by omega))
  have h2 := cnt_fr (has f k) p
  omega

theorem mm_le (rep : Bool) (i : Nat) (h : 1 ≤ i) : mm rep i ≤ i := by unfold mm; split <;> omega

theorem Valid.snoc {n src : Nat} {rep : Bool} {f : Nat → Nat} {d : Nat} (h : Valid n src rep f d) (h1 : f (d + 1) < n) (h2 : has f (mm rep (d + 1)) (f (d + 1)) = false) : Valid n src rep f (d + 1) :=
  ⟨h.1, fun i i1 i2 => by
    by_cases e : i ≤ d
    · exact h.2 i i1 e
    · have : i = d + 1 := by omega
      subst this; exact ⟨h1, h2⟩⟩

end Go.Proofs.Qxb6003570a.Pl
