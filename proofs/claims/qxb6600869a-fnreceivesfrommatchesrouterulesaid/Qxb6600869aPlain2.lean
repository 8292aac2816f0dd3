/-
  The plain mathematics of a line's validators: no Go in sight.
-/
namespace Go.Proofs.Qxb6600869a.Pl

/-- Is position q on the line, and its validator let by? -/
def sel (st sp : Nat) (en : Int) (ok : Int → Bool) (A : Nat → Nat) (q : Nat) : Bool := (decide (st ≤ q) && decide ((q : Int) < en)) && ((q - st) % sp == 0) && ok (A q)
/-- The validators let by at the line's positions below k. -/
def wl (st sp : Nat) (en : Int) (ok : Int → Bool) (A : Nat → Nat) : Nat → List Int
  | 0 => []
  | k + 1 => wl st sp en ok A k ++ if sel st sp en ok A k = true then [(A k : Int)] else []

variable {st sp : Nat} {en : Int} {ok : Int → Bool} {A : Nat → Nat}

theorem wl_no {k : Nat} (h : sel st sp en ok A k = false) : wl st sp en ok A (k + 1) = wl st sp en ok A k := by simp [wl, h]
theorem wl_yes {k : Nat} (h : sel st sp en ok A k = true) : wl st sp en ok A (k + 1) = wl st sp en ok A k ++ [(A k : Int)] := by simp [wl, h]

theorem wl_len : ∀ k, (wl st sp en ok A k).length ≤ k
  | 0 => Nat.le_refl _
  | k + 1 => by
    have := wl_len k
    simp only [wl, List.length_append]
    split <;> simp <;> omega

theorem wl_start : ∀ k, k ≤ st → wl st sp en ok A k = []
  | 0, _ => rfl
  | k + 1, h => by
    have h1 : sel st sp en ok A k = false := by
      have : ¬ st ≤ k := by omega
      simp [sel, this]
    rw [wl_no h1]; exact wl_start k (by omega)

theorem wl_between (p : Nat) (hp : st ≤ p) (hm : (p - st) % sp = 0) : ∀ r, 1 ≤ r → r ≤ sp → wl st sp en ok A (p + r) = wl st sp en ok A (p + 1)
  | 0, h, _ => by omega
  | 1, _, _ => rfl
  | r + 2, _, h => by
    have h1 : sel st sp en ok A (p + (r + 1)) = false := by
      have e : p + (r + 1) - st = (p - st) + (r + 1) := by omega
      have h2 : (p + (r + 1) - st) % sp = r + 1 := by
        rw [e, Nat.add_mod, hm, Nat.zero_add, Nat.mod_mod, Nat.mod_eq_of_lt (by omega)]
      have h3 : ((p + (r + 1) - st) % sp == 0) = false := by rw [h2]; rfl
      simp only [sel, h3, Bool.and_false, Bool.false_and]
    have e : p + (r + 2) = (p + (r + 1)) + 1 := by omega
    rw [e, wl_no h1]
    exact wl_between p hp hm (r + 1) (by omega) (by omega)

/-- One step of the line. -/
theorem wl_step (p : Nat) (hp : st ≤ p) (hm : (p - st) % sp = 0) (he : (p : Int) < en) (hs : 1 ≤ sp) : wl st sp en ok A (p + sp) = wl st sp en ok A p ++ if ok (A p) = true then [(A p : Int)] else [] := by
  rw [wl_between p hp hm sp hs (Nat.le_refl _)]
  cases h : ok (A p)
  · have h1 : sel st sp en ok A p = false := by simp [sel, h]
    rw [wl_no h1]; simp
  · have h1 : sel st sp en ok A p = true := by simp [sel, h, hp, he, hm]
    rw [wl_yes h1]; simp

/-- Behind the line's end nothing is added. -/
theorem wl_const (k : Nat) (hk : en ≤ (k : Int)) : ∀ m, k ≤ m → wl st sp en ok A m = wl st sp en ok A k
  | 0, h => by have : k = 0 := by omega
               subst this; rfl
  | m + 1, h => by
    by_cases e : k = m + 1
    · subst e; rfl
    · have h1 : sel st sp en ok A m = false := by
        have h2 : ¬ (m : Int) < en := by omega
        simp [sel, h2]
      rw [wl_no h1]; exact wl_const k hk m (by omega)

theorem wl_same (k m : Nat) (hk : en ≤ (k : Int)) (hm : en ≤ (m : Int)) : wl st sp en ok A k = wl st sp en ok A m := by
  rcases Nat.le_total k m with h | h
  · exact (wl_const k hk m h).symm
  · exact wl_const m hm k h

end Go.Proofs.Qxb6600869a.Pl
