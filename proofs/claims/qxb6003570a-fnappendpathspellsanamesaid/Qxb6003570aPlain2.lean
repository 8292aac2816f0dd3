/-
  The plain mathematics of the table of name ends: no Go in sight.
-/
import Derived.Test.Qxb6003570aPlain
namespace Go.Proofs.Qxb6003570a.Pl

/-- Some name of a vertex of the tree ends with x, and the vertex is u. -/
def Right (n src : Nat) (rep : Bool) (L u x : Nat) : Prop := ∃ e f, e < L ∧ Valid n src rep f e ∧ u = sta n rep e + idx n rep f e ∧ x = f e

/-- All vertices at depths from d + 1 on whose names go on from f's first d + 1 steps by a processor below k are right. -/
def Done (n src : Nat) (rep : Bool) (L : Nat) (f : Nat → Nat) (d k : Nat) (E : Nat → Nat) : Prop :=
  ∀ e g, d < e → e < L → Valid n src rep g e → (∀ i, i ≤ d → g i = f i) → g (d + 1) < k → Right n src rep L (sta n rep e + idx n rep g e) (E (sta n rep e + idx n rep g e))

/-- What has turned from E to E' is right. -/
def Turn (n src : Nat) (rep : Bool) (L : Nat) (E E' : Nat → Nat) : Prop := ∀ u, E' u = E u ∨ Right n src rep L u (E' u)

theorem Turn.refl (n src : Nat) (rep : Bool) (L : Nat) (E : Nat → Nat) : Turn n src rep L E E := fun _ => .inl rfl
theorem Turn.trans {n src : Nat} {rep : Bool} {L : Nat} {E E' E'' : Nat → Nat} (h : Turn n src rep L E E') (h' : Turn n src rep L E' E'') : Turn n src rep L E E'' := fun u => by
  rcases h' u with e | e
  · rcases h u with e2 | e2
    · exact .inl (e.trans e2)
    · exact .inr (by rw [e]; exact e2)
  · exact .inr e
theorem Turn.right {n src : Nat} {rep : Bool} {L : Nat} {E E' : Nat → Nat} (h : Turn n src rep L E E') {u : Nat} (hr : Right n src rep L u (E u)) : Right n src rep L u (E' u) := by
  rcases h u with e | e
  · rw [e]; exact hr
  · exact e

/-- f with k as its step d + 1. -/
def put (f : Nat → Nat) (d k : Nat) : Nat → Nat := fun i => if i = d + 1 then k else f i
theorem put_old (f : Nat → Nat) (d k i : Nat) (h : i ≤ d) : put f d k i = f i := by
  unfold put; rw [if_neg (by omega)]
theorem put_new (f : Nat → Nat) (d k : Nat) : put f d k (d + 1) = k := by simp [put]
theorem has_put (f : Nat → Nat) (rep : Bool) (d k : Nat) : has (put f d k) (mm rep (d + 1)) = has f (mm rep (d + 1)) :=
  has_congr _ _ _ (fun j hj => put_old f d k j (by unfold mm at hj; split at hj <;> omega))

theorem Valid.put {n src : Nat} {rep : Bool} {f : Nat → Nat} {d k : Nat} (h : Valid n src rep f d) (hk : k < n) (hf : has f (mm rep (d + 1)) k = false) : Valid n src rep (put f d k) (d + 1) := by
  refine ⟨by rw [put_old f d k 0 (by omega)]; exact h.1, fun i h1 h2 => ?_⟩
  by_cases e : i ≤ d
  · exact (h.congr (fun i hi => (put_old f d k i hi).symm)).2 i h1 e
  · have : i = d + 1 := by omega
    subst this
    rw [put_new, has_put]
    exact ⟨hk, hf⟩

theorem idx_put (n : Nat) (rep : Bool) (f : Nat → Nat) (d k : Nat) : idx n rep (put f d k) (d + 1) = idx n rep f d * fan n rep (d + 1) + fr (has f (mm rep (d + 1))) k := by
  simp only [idx]
  rw [has_put, put_new, idx_congr n rep (put f d k) f d (fun i hi => put_old f d k i hi)]

/-- The marks below: what bars a processor behind f with k added. -/
theorem marks_put (f : Nat → Nat) (rep : Bool) (d k q : Nat) (hk : has f (mm rep (d + 1)) k = false) : has (put f d k) (mm rep (d + 2)) q = if q = k then !rep else has f (mm rep (d + 1)) q := by
  cases rep
  · have e : has (put f d k) (d + 2) q = (has (put f d k) (d + 1) q || put f d k (d + 1) == q) := rfl
    have h1 := has_put f false d k
    simp only [mm] at *
    simp only [Bool.false_eq_true, if_false] at *
    rw [e, put_new, h1]
    by_cases hq : q = k
    · subst hq; simp
    · have : ¬ k = q := fun e => hq e.symm
      simp [hq, this]
  · have h1 := has_put f true d k
    simp only [mm] at *
    simp only [if_true] at *
    rw [h1]
    by_cases hq : q = k
    · subst hq; simpa using hk
    · simp [hq]

theorem Done.zero (n src : Nat) (rep : Bool) (L : Nat) (f : Nat → Nat) (d : Nat) (E : Nat → Nat) : Done n src rep L f d 0 E := fun _ _ _ _ _ _ h => by omega
theorem Done.turn {n src : Nat} {rep : Bool} {L : Nat} {f : Nat → Nat} {d k : Nat} {E E' : Nat → Nat} (h : Done n src rep L f d k E) (ht : Turn n src rep L E E') : Done n src rep L f d k E' :=
  fun e g h1 h2 h3 h4 h5 => ht.right (h e g h1 h2 h3 h4 h5)

/-- A marked processor is passed over. -/
theorem Done.skip {n src : Nat} {rep : Bool} {L : Nat} {f : Nat → Nat} {d k : Nat} {E : Nat → Nat} (h : Done n src rep L f d k E) (hk : has f (mm rep (d + 1)) k = true) : Done n src rep L f d (k + 1) E := by
  intro e g h1 h2 h3 h4 h5
  by_cases e1 : g (d + 1) = k
  · have h6 := (h3.2 (d + 1) (by omega) (by omega)).2
    rw [has_congr g f (mm rep (d + 1)) (fun j hj => h4 j (by unfold mm at hj; split at hj <;> omega)), e1, hk] at h6
    cases h6
  · exact h e g h1 h2 h3 h4 (by omega)

/-- A free processor's vertex is filled in, and all below it. -/
theorem Done.step {n src : Nat} {rep : Bool} {L : Nat} {f : Nat → Nat} {d k : Nat} {E E1 E2 : Nat → Nat} (h : Done n src rep L f d k E) (ht : Turn n src rep L E E1) (hd : d + 1 < L) (hv : Valid n src rep f d) (hk : k < n)
    (hf : has f (mm rep (d + 1)) k = false) (h1 : E1 (sta n rep (d + 1) + idx n rep (Pl.put f d k) (d + 1)) = k) (ht2 : Turn n src rep L E1 E2) (h2 : Done n src rep L (Pl.put f d k) (d + 1) n E2) : Done n src rep L f d (k + 1) E2 := by
  intro e g g1 g2 g3 g4 g5
  by_cases e1 : g (d + 1) = k
  · have hext : ∀ i, i ≤ d + 1 → g i = Pl.put f d k i := by
      intro i hi
      by_cases e2 : i ≤ d
      · rw [put_old f d k i e2]; exact g4 i e2
      · have : i = d + 1 := by omega
        subst this; rw [put_new]; exact e1
    by_cases e2 : e = d + 1
    · subst e2
      refine ht2.right ?_
      rw [idx_congr n rep g _ (d + 1) hext]
      rw [h1]
      exact ⟨d + 1, _, hd, hv.put hk hf, rfl, (put_new f d k).symm⟩
    · refine h2 e g (by omega) g2 g3 hext ?_
      exact (g3.2 (d + 1 + 1) (by omega) (by omega)).1
  · exact ht2.right (ht.right (h e g g1 g2 g3 g4 (by omega)))

theorem set_turn {n src : Nat} {rep : Bool} {L : Nat} {f : Nat → Nat} {d k : Nat} {E : Nat → Nat} (hd : d + 1 < L) (hv : Valid n src rep f d) (hk : k < n) (hf : has f (mm rep (d + 1)) k = false) :
    Turn n src rep L E (fun u => if u = sta n rep (d + 1) + idx n rep (put f d k) (d + 1) then k else E u) := by
  intro u
  by_cases e : u = sta n rep (d + 1) + idx n rep (put f d k) (d + 1)
  · right
    subst e
    simp only [if_true]
    exact ⟨d + 1, _, hd, hv.put hk hf, rfl, (put_new f d k).symm⟩
  · left; simp [e]

end Go.Proofs.Qxb6003570a.Pl
