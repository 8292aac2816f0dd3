import Derived.Test.Qxb6600869aE
import Derived.Test.Qxb6600869aPlain2
import Derived.Maps.AppendAt
import Derived.Deep.AppendLies
namespace Go.Proofs.Qxb6600869a
open Go.RowKit
set_option linter.unusedVariables false
set_option linter.unusedSimpArgs false
open Pl (Perm swp wl sel)

/-- Numbers as cells. -/
def ints (X : List Int) : List Value := X.map (Value.int .i64)
theorem ints_snoc (X : List Int) (x : Int) : ints (X ++ [x]) = ints X ++ [.int .i64 x] := by simp [ints]
theorem ints_len (X : List Int) : (ints X).length = X.length := by simp [ints]

/-- A validator that is not v and no member. -/
def okB (v : Int) (M : Nat → Int) (lm : Nat) (u : Int) : Bool := (u != v) && !hasI M lm u

theorem World.grownBy_trans {a b c : World} {row row' : Option Nat} (h : a.grownBy b row) (h' : b.grownBy c row') (hr : ∀ k, row' = some k → row = some k ∨ a.heap.size ≤ k) : a.grownBy c row :=
  ⟨h'.os.trans h.os, h'.tape.trans h.tape, h'.output.trans h.output, Nat.le_trans h.size h'.size, fun k hk hne => by
    rw [h'.block k (Nat.lt_of_lt_of_le hk h.size) (fun e => by
      rcases hr k e.symm with h1 | h1
      · exact hne h1.symm
      · omega)]
    exact h.block k hk hne⟩

theorem own_form {w : World} {base e size : Nat} {v : Value} {n : Nat} {xs : List Value} (h : w.ownsRow base e size v n xs) : ∃ pa cp, v = .slice pa n cp := by
  rcases h.2 with ⟨e, h0⟩ | ⟨g, cap, cur, e, _⟩
  · exact ⟨none, 0, by rw [e, h0]⟩
  · exact ⟨_, cap, e⟩

/-- The state of 'appendOn''s loop at position q: what was there, and the line's validators below q. -/
structure OnRel (w wr : World) (base : Nat) (row : Option Nat) (D : List Int) (st sp : Nat) (en v : Int) (A : Nat → Nat) (M : Nat → Int) (lm : Nat) (V : Value) (q : Nat) : Prop where
  own : wr.ownsRow base 3 1 V (D ++ wl st sp en (okB v M lm) A q).length (ints (D ++ wl st sp en (okB v M lm) A q))
  grow : w.grownBy wr row
  at_ : V.ownBlock = row ∨ ∃ g, V.ownBlock = some g ∧ w.heap.size < g
  le : st ≤ q
  md : (q - st) % sp = 0
  c0 : wr.cell? ⟨w.heap.size, 0, none⟩ = some (.int .i64 (st : Int))
  c1 : wr.cell? ⟨w.heap.size, 1, none⟩ = some (.int .i64 en)
  c2 : wr.cell? ⟨w.heap.size, 2, none⟩ = some (.int .i64 (sp : Int))

theorem OnRel.start {w : World} {base : Nat} {D : List Int} {st sp : Nat} {en v : Int} {A : Nat → Nat} {M : Nat → Int} {lm : Nat} {V : Value} (hown : w.ownsRow base 3 1 V D.length (ints D)) :
    OnRel w (w.alloc (.cells #[.int .i64 (st : Int), .int .i64 en, .int .i64 (sp : Int)] 44)) base V.ownBlock D st sp en v A M lm V st := by
  have hh := heap_alloc_new w (.cells #[.int .i64 (st : Int), .int .i64 en, .int .i64 (sp : Int)] 44)
  refine ⟨?_, World.grownBy_alloc _ _ _, .inl rfl, Nat.le_refl _, by simp, ?_, ?_, ?_⟩
  · rw [Pl.wl_start st (Nat.le_refl _), List.append_nil]; exact hown.alloc _
  · rw [cell_of_row _ _ _ _ _ _ hh]; rfl
  · rw [cell_of_row _ _ _ _ _ _ hh]; rfl
  · rw [cell_of_row _ _ _ _ _ _ hh]; rfl

theorem OnRel.skip {w wr : World} {base : Nat} {row : Option Nat} {D : List Int} {st sp : Nat} {en v : Int} {A : Nat → Nat} {M : Nat → Int} {lm : Nat} {V : Value} {q : Nat} (h : OnRel w wr base row D st sp en v A M lm V q) (he : (q : Int) < en) (hs : 1 ≤ sp)
    (hok : okB v M lm (A q) = false) : OnRel w wr base row D st sp en v A M lm V (q + sp) := by
  have e := Pl.wl_step (ok := okB v M lm) (A := A) q h.le h.md he hs
  simp [hok] at e
  refine ⟨by rw [e]; exact h.own, h.grow, h.at_, by have := h.le; omega, ?_, h.c0, h.c1, h.c2⟩
  have h1 := h.le
  have e2 : q + sp - st = (q - st) + sp := by omega
  rw [e2, Nat.add_mod_right]; exact h.md

theorem OnRel.next {w wr w1 : World} {base : Nat} {row : Option Nat} {D : List Int} {st sp : Nat} {en v : Int} {A : Nat → Nat} {M : Nat → Int} {lm : Nat} {V V' : Value} {q : Nat} (h : OnRel w wr base row D st sp en v A M lm V q) (he : (q : Int) < en) (hs : 1 ≤ sp)
    (hok : okB v M lm (A q) = true) (hrow : ∀ k, row = some k → k < w.heap.size) {o : Obj}
    (own : w1.ownsRow base 3 1 V' ((D ++ wl st sp en (okB v M lm) A q).length + 1) (ints (D ++ wl st sp en (okB v M lm) A q) ++ [.int .i64 (A q : Int)]))
    (grow : (wr.alloc o).grownBy w1 V.ownBlock) (hat : V'.ownBlock = V.ownBlock ∨ V'.ownBlock = some (wr.alloc o).heap.size) : OnRel w w1 base row D st sp en v A M lm V' (q + sp) := by
  have e := Pl.wl_step (ok := okB v M lm) (A := A) q h.le h.md he hs
  simp [hok] at e
  have hlw : w.heap.size < wr.heap.size := World.block_lt_of_cell? wr _ h.c0
  have hnb : some w.heap.size ≠ V.ownBlock := by
    rcases h.at_ with h1 | ⟨g, h1, h2⟩
    · rw [h1]; intro e2; have := hrow _ e2.symm; omega
    · rw [h1]; intro e2; cases e2; omega
  have hc : ∀ i, w1.cell? ⟨w.heap.size, i, none⟩ = wr.cell? ⟨w.heap.size, i, none⟩ := fun i => by
    rw [grow.cell_far ⟨w.heap.size, i, none⟩ (by simp; omega) hnb]
    exact World.cell?_of_block (w := wr) (a := ⟨w.heap.size, i, none⟩) (heap_alloc_old wr o hlw)
  refine ⟨?_, ?_, ?_, by have := h.le; omega, ?_, (hc 0).trans h.c0, (hc 1).trans h.c1, (hc 2).trans h.c2⟩
  · rw [e, ← List.append_assoc, ints_snoc, List.length_append]; exact own
  · refine World.grownBy_trans (World.grownBy_trans h.grow (World.grownBy_alloc wr o none) (fun k e => by cases e)) grow (fun k e2 => ?_)
    rcases h.at_ with h1 | ⟨g, h1, h2⟩
    · left; rw [← h1]; exact e2
    · right; rw [h1] at e2; cases e2; omega
  · rcases hat with h1 | h1
    · rw [h1]; exact h.at_
    · right; exact ⟨_, h1, by simp; omega⟩
  · have h1 := h.le
    have e2 : q + sp - st = (q - st) + sp := by omega
    rw [e2, Nat.add_mod_right]; exact h.md

/-- What 'appendOn' leaves. -/
def OnEnd (w : World) (base : Nat) (row : Option Nat) (D : List Int) (e : Ending) (w' : World) (n st sp : Nat) (en v : Int) (A : Nat → Nat) (M : Nat → Int) (lm : Nat) : Prop :=
  ∃ V, e = .returned V ∧ w'.ownsRow base 3 1 V (D ++ wl st sp en (okB v M lm) A n).length (ints (D ++ wl st sp en (okB v M lm) A n)) ∧ w.grownBy w' row

theorem OnRel.fin {w wr : World} {base : Nat} {row : Option Nat} {D : List Int} {n st sp : Nat} {en v : Int} {A : Nat → Nat} {M : Nat → Int} {lm : Nat} {V : Value} {q : Nat} (h : OnRel w wr base row D st sp en v A M lm V q) (he : en ≤ (q : Int)) (hn : en ≤ (n : Int)) :
    OnEnd w base row D (.returned V) wr n st sp en v A M lm := by
  refine ⟨V, rfl, ?_, h.grow⟩
  rw [Pl.wl_same n q hn he]; exact h.own

end Go.Proofs.Qxb6600869a
