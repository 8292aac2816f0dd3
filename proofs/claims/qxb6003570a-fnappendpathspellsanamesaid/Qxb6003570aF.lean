import Derived.Test.Qxb6003570aE
import Derived.Test.Qxb6003570aPlain4
namespace Go.Proofs.Qxb6003570a
open Go.RowKit
set_option linter.unusedVariables false
open Pl (fan wid sta Pos has fr mm Valid idx Right Done Turn cntlt)

/-- What 'Find' answers for the path F of len steps: no, and it names no vertex; or the vertex that it names. -/
def FindEnd (n src : Nat) (rep : Bool) (L len : Nat) (F : Nat → Int) (e : Ending) : Prop :=
  (e = .returned (.tuple #[.int .i64 0, .bool false]) ∧ ∀ (f : Nat → Nat) (d : Nat), len = d + 1 → d < L → (∀ i, i ≤ d → F i = (f i : Int)) → ¬ Valid n src rep f d) ∨
  ∃ (f : Nat → Nat) (d : Nat), len = d + 1 ∧ d < L ∧ (∀ i, i ≤ d → F i = (f i : Int)) ∧ Valid n src rep f d ∧ e = .returned (.tuple #[.int .i64 ((sta n rep d + idx n rep f d : Nat) : Int), .bool true])

theorem FindEnd.no_len {n src : Nat} {rep : Bool} {L len : Nat} {F : Nat → Int} (h : len = 0 ∨ L < len) : FindEnd n src rep L len F (.returned (.tuple #[.int .i64 0, .bool false])) :=
  .inl ⟨rfl, fun f d h1 h2 => by omega⟩
theorem FindEnd.no_src {n src : Nat} {rep : Bool} {L len : Nat} {F : Nat → Int} (h : F 0 ≠ (src : Int)) : FindEnd n src rep L len F (.returned (.tuple #[.int .i64 0, .bool false])) :=
  .inl ⟨rfl, fun f d h1 h2 h3 h4 => h (by rw [h3 0 (by omega), h4.1])⟩
/-- A step that may not stand there. -/
theorem FindEnd.no_step {n src : Nat} {rep : Bool} {L len : Nat} {F : Nat → Int} {i : Nat} (hi : 1 ≤ i) (hl : i < len) (h : F i < 0 ∨ (n : Int) ≤ F i ∨ hasI F (mm rep i) (F i) = true) : FindEnd n src rep L len F (.returned (.tuple #[.int .i64 0, .bool false])) := by
  refine .inl ⟨rfl, fun f d h1 h2 h3 h4 => ?_⟩
  have h5 := h4.2 i hi (by omega)
  have h6 := h3 i (by omega)
  rcases h with h | h | h
  · omega
  · omega
  · obtain ⟨j, hj1, hj2⟩ := (hasI_true F (F i) (mm rep i)).1 h
    have hj3 := Pl.mm_le rep i hi
    have h7 := (Pl.has_false f (f i) (mm rep i)).1 h5.2 j hj1
    have h8 := h3 j (by omega)
    exact h7 (by omega)

/-- The path as natural numbers. -/
def nat (F : Nat → Int) : Nat → Nat := fun i => (F i).toNat

theorem hasI_nat (F : Nat → Int) (q : Int) (hq : 0 ≤ q) : ∀ m, (∀ j, j < m → 0 ≤ F j) → hasI F m q = has (nat F) m q.toNat
  | 0, _ => rfl
  | m + 1, h => by
    simp only [hasI, has]
    rw [hasI_nat F q hq m (fun j hj => h j (by omega))]
    have h1 := h m (by omega)
    have : (F m == q) = (nat F m == q.toNat) := by
      rw [Bool.eq_iff_iff]; simp only [beq_iff_eq, nat]; omega
    rw [this]

/-- At the head of round i of 'Find''s loop. -/
def FindRel (n src : Nat) (rep : Bool) (L len : Nat) (F : Nat → Int) (i v : Nat) : Prop :=
  1 ≤ i ∧ i ≤ len ∧ (∀ j, j < i → 0 ≤ F j) ∧ Valid n src rep (nat F) (i - 1) ∧ v = sta n rep (i - 1) + idx n rep (nat F) (i - 1)

theorem FindRel.fin {n src : Nat} {rep : Bool} {L len : Nat} {F : Nat → Int} {v : Nat} (h : FindRel n src rep L len F len v) (hL : len ≤ L) : FindEnd n src rep L len F (.returned (.tuple #[.int .i64 (v : Int), .bool true])) := by
  obtain ⟨h1, _, h3, h4, h5⟩ := h
  refine .inr ⟨nat F, len - 1, by omega, by omega, fun i hi => ?_, h4, by rw [h5]⟩
  have := h3 i (by omega)
  simp only [nat]; omega

theorem FindRel.next {n src : Nat} {rep : Bool} {L len : Nat} {F : Nat → Int} {i v : Nat} (h : FindRel n src rep L len F i v) (hl : i < len) (hf : 0 ≤ F i) (hn : F i < (n : Int)) (hh : hasI F (mm rep i) (F i) = false) :
    FindRel n src rep L len F (i + 1) (sta n rep i + (v - sta n rep (i - 1)) * fan n rep i + fr (has (nat F) (mm rep i)) (nat F i)) := by
  obtain ⟨h1, h2, h3, h4, h5⟩ := h
  obtain ⟨d, rfl⟩ : ∃ d, i = d + 1 := ⟨i - 1, by omega⟩
  simp only [Nat.add_sub_cancel] at *
  have hm := Pl.mm_le rep (d + 1) (by omega)
  rw [hasI_nat F _ hf _ (fun j hj => h3 j (by omega))] at hh
  refine ⟨by omega, by omega, fun j hj => ?_, h4.snoc (by simp only [nat]; omega) hh, ?_⟩
  · by_cases e : j = d + 1
    · subst e; exact hf
    · exact h3 j (by omega)
  · rw [h5, Nat.add_sub_cancel_left]
    show _ = sta n rep (d + 1) + (idx n rep (nat F) d * fan n rep (d + 1) + fr (has (nat F) (mm rep (d + 1))) (nat F (d + 1)))
    omega

/-- What 'Find' is told of the path: nil; or a row of len numbers. -/
def PathAt (w : World) (pa : Option Addr) (len cap : Nat) (F : Nat → Int) : Prop :=
  (pa = none ∧ len = 0 ∧ cap = 0) ∨ ∃ pb po, pa = some ⟨pb, po, none⟩ ∧ len ≤ cap ∧ ∀ i, i < len → w.cell? ⟨pb, po + i, none⟩ = some (.int .i64 (F i))

set_option maxHeartbeats 1000000 in
theorem find_no0 (w : World) (b : Nat) (pa : Option Addr) (cap n src : Nat) (rep : Bool) (L : Nat) (F : Nat → Int) :
    Calls Try.prog 13 #[.pointer (some ⟨b, 0, none⟩), .slice pa 0 cap] w fun e w' => FindEnd n src rep L 0 F e ∧ ∃ m, w' = w.drewN m := by
  have hfin := hide (FindEnd.no_len (n := n) (src := src) (rep := rep) (L := L) (len := 0) (F := F) (.inl rfl))
  go_enter Try.func13, Try.ntmps13
  go_wp2_with fail
  go_quiet (fail)
  go_wp2_with fail
  go_ret2
  exact ⟨unhide hfin, _, rfl⟩

set_option maxHeartbeats 1000000 in
theorem find_no1 (w : World) (b g cp : Nat) (pb po len cap n src : Nat) (rep : Bool) (L : Nat) (F : Nat → Int) (h : Shp w b g cp n src rep L) (hl : 1 ≤ len) (h0 : w.cell? ⟨pb, po, none⟩ = some (.int .i64 (F 0))) (hne : F 0 ≠ (src : Int)) (hm : len ≤ 1000000) :
    Calls Try.prog 13 #[.pointer (some ⟨b, 0, none⟩), .slice (some ⟨pb, po, none⟩) len cap] w fun e w' => FindEnd n src rep L len F e ∧ ∃ m, w' = w.drewN m := by
  have hfin := hide (FindEnd.no_src (n := n) (src := src) (rep := rep) (L := L) (len := len) (F := F) hne)
  have hc1 := h.c1
  have hb0 : ((len : Int) == 0) = false := by rw [beq_eq_false_iff_ne]; omega
  have hb1 : (F 0 != (src : Int)) = true := by rw [bne_iff_ne]; exact hne
  clear h hne
  go_enter Try.func13, Try.ntmps13
  go_wp2_with fail
  go_quiet (fail)
  go_wp2_with fail
  go_ret2
  exact ⟨unhide hfin, _, rfl⟩

set_option maxHeartbeats 1000000 in
theorem find_no2 (w : World) (b g cp : Nat) (pb po len cap n src : Nat) (rep : Bool) (L : Nat) (F : Nat → Int) (h : Shp w b g cp n src rep L) (hl : 1 ≤ len) (h0 : w.cell? ⟨pb, po, none⟩ = some (.int .i64 (F 0))) (he : F 0 = (src : Int)) (hL : L < len) (hm : len ≤ 1000000) :
    Calls Try.prog 13 #[.pointer (some ⟨b, 0, none⟩), .slice (some ⟨pb, po, none⟩) len cap] w fun e w' => FindEnd n src rep L len F e ∧ ∃ m, w' = w.drewN m := by
  have hfin := hide (FindEnd.no_len (n := n) (src := src) (rep := rep) (L := L) (len := len) (F := F) (.inr hL))
  have hc1 := h.c1
  have HL := hide (fun m => levels_any (w.drewN m) b g cp n src rep L (h.drewN m))
  rw [he] at h0
  have hb0 : ((len : Int) == 0) = false := by rw [beq_eq_false_iff_ne]; omega
  have hb1 : ((src : Int) != (src : Int)) = false := by simp
  clear h he
  go_enter Try.func13, Try.ntmps13
  go_wp2_with fail
  go_quiet ((go_at_call 17; exact Calls.quiet_of_same (unhide HL _)))
  go_wp2_with fail
  go_ret2
  exact ⟨unhide hfin, _, rfl⟩

end Go.Proofs.Qxb6003570a
