import Derived.Test.Qxb6600869aG
namespace Go.Proofs.Qxb6600869a
open Go.RowKit
set_option linter.unusedVariables false
set_option linter.unusedSimpArgs false
open Pl (Perm swp wl sel)

theorem own_below {w w' : World} {base e size B : Nat} {v : Value} {n : Nat} {xs : List Value} (h : w.ownsRow base e size v n xs) (hb : Below B w w') (hB : w.heap.size ≤ B) : w'.ownsRow base e size v n xs := by
  refine ⟨h.1, ?_⟩
  rcases h.2 with hn | ⟨g, cap, cur, rfl, h1, h2, h3⟩
  · exact .inl hn
  · refine .inr ⟨g, cap, cur, rfl, h1, ?_, h3⟩
    rw [hb.block g (Nat.lt_of_lt_of_le (lt_of_block h2) hB)]; exact h2

theorem rowl_ints (G : Nat → Int) (k : Nat) : rowl G k = ints ((List.range k).map G) := by
  unfold rowl ints; rw [List.map_map]; rfl
theorem rowl_snoc (G : Nat → Int) (k : Nat) : rowl G (k + 1) = rowl G k ++ [.int .i64 (G k)] := by
  unfold rowl; simp [List.range_succ]

/-- An owned row of numbers, read by index. -/
theorem own_rowc {w : World} {B : Nat} {pa : Option Addr} {cp : Nat} {X : List Int} (h : w.ownsRow B 3 1 (.slice pa X.length cp) X.length (ints X)) : RowC w pa X.length (fun i => X.getD i 0) := by
  intro hl
  rcases h.2 with ⟨e, h0⟩ | ⟨g, cap, cur, e, h1, h2, h3, _⟩
  · omega
  · cases e
    refine ⟨g, 0, rfl, fun i hi => ?_⟩
    rw [Nat.zero_add]
    refine own_cell h i _ ?_
    simp [ints, List.getElem?_map, List.getElem?_eq_getElem hi]

theorem own_arg {w : World} {B : Nat} {pa : Option Addr} {len cp : Nat} {F : Nat → Int} (h : w.ownsRow B 3 1 (.slice pa len cp) len (rowl F len)) (hw : ∀ i, i < len → -9223372036854775808 ≤ F i ∧ F i ≤ 9223372036854775807) : ArgAt w pa len F := by
  rcases h.2 with ⟨e, h0⟩ | ⟨g, cap, cur, e, h1, h2, h3, _⟩
  · cases e; exact ⟨fun _ => rfl, fun h => absurd h (by omega), hw⟩
  · cases e
    refine ⟨fun h => (by cases h), fun _ => ⟨g, 0, rfl, fun i hi => ?_⟩, hw⟩
    rw [Nat.zero_add]; exact own_cell h i _ (rowl_get F len i hi)

/-- A row whose block lies from B on is none below B. -/
theorem own_ne {w w' : World} {base base' e e' s s' : Nat} {v v' : Value} {n n' : Nat} {xs xs' : List Value} (h : w.ownsRow base e s v n xs) (h' : w'.ownsRow base' e' s' v' n' xs') (hb : w.heap.size ≤ base') : v'.ownBlock = none ∨ v'.ownBlock ≠ v.ownBlock := by
  cases hv : v'.ownBlock with
  | none => exact .inl rfl
  | some k =>
    right
    intro e2
    have h1 := (h'.lt k hv).1
    have h2 := (h.lt k e2.symm).2
    omega

/-- What 'want' holds so far, in the midst of its loops. -/
def WantRel (wg wr : World) (X : List Int) (V : Value) : Prop := wr.ownsRow wg.heap.size 3 1 V X.length (ints X) ∧ Below wg.heap.size wg wr

theorem WantRel.next {wg wr w1 : World} {X : List Int} {V V' : Value} {x : Int} {o : Obj} (h : WantRel wg wr X V) (own : w1.ownsRow wg.heap.size 3 1 V' (X.length + 1) (ints X ++ [.int .i64 x])) (grow : (wr.alloc o).grownBy w1 V.ownBlock) : WantRel wg w1 (X ++ [x]) V' := by
  refine ⟨by rw [ints_snoc, List.length_append]; exact own, ?_⟩
  have hb : Below wg.heap.size wg (wr.alloc o) := h.2.alloc h.2.size o
  exact hb.grown grow hb.size (fun k e => (h.1.lt k e).1)

theorem take_snoc (D : List Int) (k : Nat) (hk : k < D.length) : D.take (k + 1) = D.take k ++ [D.getD k 0] := by
  rw [List.take_succ_eq_append_getElem hk]
  simp [List.getD_eq_getElem?_getD, hk]

end Go.Proofs.Qxb6600869a
