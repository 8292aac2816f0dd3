import Derived.Test.Qxb6600869aPlain
namespace Go.Proofs.Qxb6600869a.Pl

/-- Is f true somewhere below k? -/
def anyI (f : Nat → Bool) : Nat → Bool
  | 0 => false
  | k + 1 => anyI f k || f k

theorem anyI_no {f : Nat → Bool} {k : Nat} (h : anyI f k = false) (h' : f k = false) : anyI f (k + 1) = false := by simp [anyI, h, h']
theorem anyI_same {f : Nat → Bool} {k : Nat} (h' : f k = false) : anyI f (k + 1) = anyI f k := by simp [anyI, h']
theorem anyI_hit {f : Nat → Bool} {k : Nat} (h' : f k = true) : anyI f (k + 1) = true := by simp [anyI, h']
theorem anyI_yes {f : Nat → Bool} : ∀ {n k : Nat}, k < n → f k = true → anyI f n = true
  | 0, _, h, _ => by omega
  | n + 1, k, h, hf => by
    by_cases e : k = n
    · subst e; exact anyI_hit hf
    · simp [anyI, anyI_yes (n := n) (k := k) (by omega) hf]

/-- The rule of 'ReceivesFrom' at one member. -/
def rfm (ru cu rv cv rm cm : Int) : Bool := (ru == rv && cm == cu) || (cu == cv && rm == ru)

/-- The rule of 'ReceivesFrom' at one member, by names. -/
def rfN (B : Nat → Nat) (wd v u m : Nat) : Bool := rfm ((B u / wd : Nat) : Int) ((B u % wd : Nat) : Int) ((B v / wd : Nat) : Int) ((B v % wd : Nat) : Int) ((B m / wd : Nat) : Int) ((B m % wd : Nat) : Int)

/-- Does the cell of the row r and the column c hold u? -/
def cellB (A : Nat → Nat) (n wd r c : Nat) (u : Int) : Bool := decide (r * wd + c < n) && ((A (r * wd + c) : Int) == u)

theorem same_at {n : Nat} {A B : Nat → Nat} (hp : Perm n A B) {wd x y : Nat} (hx : x < n) (hy : y < n) (h1 : B x / wd = B y / wd) (h2 : B x % wd = B y % wd) : x = y := by
  have := pos_eq h1 h2
  rw [← hp.ab x hx, this, hp.ab y hy]

theorem cell_iff {n : Nat} {A B : Nat → Nat} (hp : Perm n A B) {wd r c u : Nat} (hc : c < wd) (hu : u < n) : cellB A n wd r c u = true ↔ B u / wd = r ∧ B u % wd = c := by
  unfold cellB
  rw [Bool.and_eq_true, decide_eq_true_eq, beq_iff_eq]
  obtain ⟨e1, e2⟩ := pos_of (r := r) hc
  constructor
  · rintro ⟨h1, h2⟩
    have h3 : A (r * wd + c) = u := by omega
    rw [← h3, hp.ba _ h1]; exact ⟨e1, e2⟩
  · rintro ⟨h1, h2⟩
    have h3 : B u = r * wd + c := pos_eq (w := wd) (by rw [h1, e1]) (by rw [h2, e2])
    rw [← h3]
    exact ⟨hp.b u hu, by rw [hp.ab u hu]⟩

theorem rf_iff {B : Nat → Nat} {wd v u m : Nat} : rfN B wd v u m = true ↔ (B u / wd = B v / wd ∧ B m % wd = B u % wd) ∨ (B u % wd = B v % wd ∧ B m / wd = B u / wd) := by
  unfold rfN rfm
  simp only [Bool.or_eq_true, Bool.and_eq_true, beq_iff_eq]
  omega

/-- A member that shares v's row or column. -/
theorem rule_line {n : Nat} {A B : Nat → Nat} (hp : Perm n A B) {wd v u m : Nat} (hv : v < n) (hu : u < n) (hm : m < n) (huv : u ≠ v) (h : B m / wd = B v / wd ∨ B m % wd = B v % wd) : rfN B wd v u m = ((m : Int) == (u : Int)) := by
  rw [Bool.eq_iff_iff, rf_iff, beq_iff_eq]
  constructor
  · intro h2
    rcases h2 with ⟨h3, h4⟩ | ⟨h3, h4⟩
    · rcases h with h | h
      · exact congrArg _ (same_at hp hm hu (h.trans h3.symm) h4)
      · exact absurd (same_at hp hu hv h3 (h4.symm.trans h)) huv
    · rcases h with h | h
      · exact absurd (same_at hp hu hv (h4.symm.trans h) h3) huv
      · exact congrArg _ (same_at hp hm hu h4 (h.trans h3.symm))
  · intro e
    have e2 : m = u := by omega
    subst e2
    rcases h with h | h
    · exact .inl ⟨h, rfl⟩
    · exact .inr ⟨h, rfl⟩

/-- A member that shares neither. -/
theorem rule_off {n : Nat} {A B : Nat → Nat} (hp : Perm n A B) {wd v u m : Nat} (hw : 1 ≤ wd) (hu : u < n) :
    rfN B wd v u m = (cellB A n wd (B v / wd) (B m % wd) u || cellB A n wd (B m / wd) (B v % wd) u) := by
  rw [Bool.eq_iff_iff, rf_iff, Bool.or_eq_true, cell_iff hp (Nat.mod_lt _ (by omega)) hu, cell_iff hp (Nat.mod_lt _ (by omega)) hu]
  constructor
  · rintro (⟨h1, h2⟩ | ⟨h1, h2⟩)
    · exact .inl ⟨h1, h2.symm⟩
    · exact .inr ⟨h2.symm, h1⟩
  · rintro (⟨h1, h2⟩ | ⟨h1, h2⟩)
    · exact .inl ⟨h1, h2.symm⟩
    · exact .inr ⟨h2, h1.symm⟩

end Go.Proofs.Qxb6600869a.Pl
