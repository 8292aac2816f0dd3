/-
  The plain mathematics of the grid: no Go in sight.
-/
namespace Go.Proofs.Qxb6600869a.Pl

/-- A lays the validators below n out over the positions below n; B says where each stands. -/
structure Perm (n : Nat) (A B : Nat → Nat) : Prop where
  a : ∀ p, p < n → A p < n
  b : ∀ x, x < n → B x < n
  ab : ∀ x, x < n → A (B x) = x
  ba : ∀ p, p < n → B (A p) = p

theorem Perm.id (n : Nat) : Perm n (fun p => p) (fun x => x) := ⟨fun _ h => h, fun _ h => h, fun _ _ => rfl, fun _ _ => rfl⟩

theorem Perm.inj {n : Nat} {A B : Nat → Nat} (h : Perm n A B) {p q : Nat} (hp : p < n) (hq : q < n) (e : A p = A q) : p = q := by
  rw [← h.ba p hp, ← h.ba q hq, e]

/-- A with the validators at a and b exchanged. -/
def swp (A : Nat → Nat) (a b : Nat) : Nat → Nat := fun p => if p = b then A a else if p = a then A b else A p

theorem Perm.swap {n : Nat} {A B : Nat → Nat} (h : Perm n A B) {a b : Nat} (ha : a < n) (hb : b < n) : ∃ B', Perm n (swp A a b) B' := by
  refine ⟨fun x => if x = A a then b else if x = A b then a else B x, ⟨fun p hp => ?_, fun x hx => ?_, fun x hx => ?_, fun p hp => ?_⟩⟩
  · unfold swp; split
    · exact h.a a ha
    · split
      · exact h.a b hb
      · exact h.a p hp
  · split
    · exact hb
    · split
      · exact ha
      · exact h.b x hx
  · by_cases e1 : x = A a
    · rw [if_pos e1]; unfold swp; rw [if_pos rfl]; exact e1.symm
    · rw [if_neg e1]
      by_cases e2 : x = A b
      · rw [if_pos e2]
        have hab : a ≠ b := fun e => e1 (by rw [e2, e])
        unfold swp; rw [if_neg hab, if_pos rfl]; exact e2.symm
      · rw [if_neg e2]
        have h1 : B x ≠ b := fun e => e2 (by rw [← h.ab x hx, e])
        have h2 : B x ≠ a := fun e => e1 (by rw [← h.ab x hx, e])
        unfold swp; rw [if_neg h1, if_neg h2]; exact h.ab x hx
  · unfold swp
    by_cases e1 : p = b
    · rw [if_pos e1, if_pos rfl]; exact e1.symm
    · rw [if_neg e1]
      by_cases e2 : p = a
      · rw [if_pos e2]
        have hab : A b ≠ A a := fun e => e1 (by rw [e2]; exact (h.inj hb ha e).symm)
        rw [if_neg hab, if_pos rfl]; exact e2.symm
      · rw [if_neg e2]
        have h1 : A p ≠ A a := fun e => e2 (h.inj hp ha e)
        have h2 : A p ≠ A b := fun e => e1 (h.inj hp hb e)
        rw [if_neg h1, if_neg h2]; exact h.ba p hp

/-- Two positions with one row and one column are one. -/
theorem pos_eq {w p q : Nat} (h1 : p / w = q / w) (h2 : p % w = q % w) : p = q := by
  have a := Nat.div_add_mod p w
  have b := Nat.div_add_mod q w
  rw [h1, h2] at a
  omega

theorem pos_of {w r c : Nat} (hc : c < w) : (r * w + c) / w = r ∧ (r * w + c) % w = c := by
  constructor
  · rw [Nat.add_comm, Nat.add_mul_div_right _ _ (by omega), Nat.div_eq_of_lt hc, Nat.zero_add]
  · rw [Nat.add_comm, Nat.add_mul_mod_self_right, Nat.mod_eq_of_lt hc]

end Go.Proofs.Qxb6600869a.Pl
