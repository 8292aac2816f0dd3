import Derived.Test.Qxb6600869aD
namespace Go.Proofs.Qxb6600869a
open Go.RowKit
set_option linter.unusedVariables false
set_option linter.unusedSimpArgs false
open Pl (Perm swp)

/-- The Grid in memory: its struct at the head of block gb, over the layout. -/
structure Grid (w : World) (gb ab rb cb n wd : Nat) (A B : Nat → Nat) : Prop where
  g1 : w.cell? ⟨gb, 1, none⟩ = some (.slice (some ⟨ab, 0, none⟩) n n)
  g3 : w.cell? ⟨gb, 3, none⟩ = some (.slice (some ⟨rb, 0, none⟩) n n)
  g4 : w.cell? ⟨gb, 4, none⟩ = some (.slice (some ⟨cb, 0, none⟩) n n)
  lay : Lay w ab rb cb n wd A B

theorem Grid.below {w w' : World} {gb ab rb cb n wd : Nat} {A B : Nat → Nat} (h : Grid w gb ab rb cb n wd A B) (hb : Below w.heap.size w w') : Grid w' gb ab rb cb n wd A B := by
  have hl : gb < w.heap.size := World.block_lt_of_cell? w _ h.g1
  exact ⟨(hb.cell (p := ⟨gb, 1, none⟩) hl).trans h.g1, (hb.cell (p := ⟨gb, 3, none⟩) hl).trans h.g3, (hb.cell (p := ⟨gb, 4, none⟩) hl).trans h.g4, h.lay.below hb⟩

theorem Grid.drewN {w : World} {gb ab rb cb n wd : Nat} {A B : Nat → Nat} (h : Grid w gb ab rb cb n wd A B) (m : Nat) : Grid (w.drewN m) gb ab rb cb n wd A B := h.below (below_drewN m)

/-- What 'newGrid' leaves. -/
def GridEnd (w : World) (n : Nat) (e : Ending) (w' : World) : Prop := ∃ (gb ab rb cb wd : Nat) (A B : Nat → Nat),
  e = .returned (.tuple #[.pointer (some ⟨gb, 0, none⟩), .slice (some ⟨ab, 0, none⟩) n n, .slice (some ⟨rb, 0, none⟩) n n, .slice (some ⟨cb, 0, none⟩) n n, .int .i64 (wd : Int)]) ∧ Grid w' gb ab rb cb n wd A B ∧ Below w.heap.size w w' ∧ w.heap.size ≤ ab ∧ w.heap.size ≤ gb

theorem Grid.made {w : World} {ab pb rb cb n wd : Nat} {A B : Nat → Nat} (h : Lay w ab rb cb n wd A B) :
    Grid (w.alloc (.cells #[.int .i64 (wd : Int), .slice (some ⟨ab, 0, none⟩) n n, .slice (some ⟨pb, 0, none⟩) n n, .slice (some ⟨rb, 0, none⟩) n n, .slice (some ⟨cb, 0, none⟩) n n] 46)) w.heap.size ab rb cb n wd A B := by
  have hh := heap_alloc_new w (.cells #[.int .i64 (wd : Int), .slice (some ⟨ab, 0, none⟩) n n, .slice (some ⟨pb, 0, none⟩) n n, .slice (some ⟨rb, 0, none⟩) n n, .slice (some ⟨cb, 0, none⟩) n n] 46)
  refine ⟨?_, ?_, ?_, h.below ((Below.refl _ _).alloc (Nat.le_refl _) _)⟩
  · rw [cell_of_row _ _ _ _ _ _ hh]; rfl
  · rw [cell_of_row _ _ _ _ _ _ hh]; rfl
  · rw [cell_of_row _ _ _ _ _ _ hh]; rfl

set_option maxHeartbeats 1000000 in
theorem zzmake_any (w : World) (ab pb rb cb n wd : Nat) :
    Calls Try.prog 20 #[.int .i64 (wd : Int), .slice (some ⟨ab, 0, none⟩) n n, .slice (some ⟨pb, 0, none⟩) n n, .slice (some ⟨rb, 0, none⟩) n n, .slice (some ⟨cb, 0, none⟩) n n] w fun e w' =>
      e = .returned (.pointer (some ⟨w.heap.size, 0, none⟩)) ∧ w' = w.alloc (.cells #[.int .i64 (wd : Int), .slice (some ⟨ab, 0, none⟩) n n, .slice (some ⟨pb, 0, none⟩) n n, .slice (some ⟨rb, 0, none⟩) n n, .slice (some ⟨cb, 0, none⟩) n n] 46) := by
  go_enter Try.func20, Try.ntmps20
  go_wp2_with fail
  go_ret
  exact ⟨rfl, rfl⟩

set_option maxHeartbeats 1000000 in
theorem newGrid_any (w : World) (n : Nat) (a : Option Addr) (len cap : Nat) (F : Nat → Int) (h : ArgAt w a len F) (hl : len ≤ 70000) (hn : n ≤ 32768) :
    Calls Try.prog 10 #[.int .i64 (n : Int), .slice a len cap] w fun e w' => GridEnd w n e w' := by
  go_enter Try.func10, Try.ntmps10
  go_wp2_with fail
  refine (layout_any w n a len cap F h hl hn).mono ?_
  rintro e w1 ⟨ab, pb, rb, cb, wd, A, B, rfl, hL, hB, hab⟩
  have HL := hide hL
  have HB := hide hB
  clear hL hB h
  go_wp2_with fail
  refine (zzmake_any w1 ab pb rb cb n wd).mono ?_
  rintro e w2 ⟨rfl, rfl⟩
  have hfin : Hid (GridEnd w n (.returned (.tuple #[.pointer (some ⟨w1.heap.size, 0, none⟩), .slice (some ⟨ab, 0, none⟩) n n, .slice (some ⟨rb, 0, none⟩) n n, .slice (some ⟨cb, 0, none⟩) n n, .int .i64 (wd : Int)])) (w1.alloc (.cells #[.int .i64 (wd : Int), .slice (some ⟨ab, 0, none⟩) n n, .slice (some ⟨pb, 0, none⟩) n n, .slice (some ⟨rb, 0, none⟩) n n, .slice (some ⟨cb, 0, none⟩) n n] 46))) :=
    ⟨_, ab, rb, cb, wd, A, B, rfl, Grid.made (unhide HL), (unhide HB).alloc (unhide HB).size _, hab, (unhide HB).size⟩
  go_wp2_with fail
  exact bodyPost_ret (v := .tuple #[.pointer (some ⟨w1.heap.size, 0, none⟩), .slice (some ⟨ab, 0, none⟩) n n, .slice (some ⟨rb, 0, none⟩) n n, .slice (some ⟨cb, 0, none⟩) n n, .int .i64 (wd : Int)]) (by simp [results, Try.results10, go_sem]) rfl (unhide hfin)

set_option maxHeartbeats 1000000 in
/-- The row and the column of a validator. -/
theorem place_any (w : World) (gb ab rb cb n wd : Nat) (A B : Nat → Nat) (h : Grid w gb ab rb cb n wd A B) (v : Nat) (hv : v < n) (hn : n ≤ 32768) :
    Calls Try.prog 22 #[.pointer (some ⟨gb, 0, none⟩), .int .i64 (v : Int)] w fun e w' => e = .returned (.tuple #[.int .i64 ((B v / wd : Nat) : Int), .int .i64 ((B v % wd : Nat) : Int)]) ∧ ∃ m, w' = w.drewN m := by
  have hg3 := h.g3
  have hg4 := h.g4
  have hr := (h.lay.rows v hv).1
  have hc := (h.lay.cols v hv).1
  dsimp only at hr hc
  have hb := h.lay.perm.b v hv
  have hq : B v / wd ≤ 32768 := Nat.le_trans (Nat.div_le_self _ _) (by omega)
  have hm : B v % wd ≤ 32768 := Nat.le_trans (Nat.mod_le _ _) (by omega)
  generalize B v / wd = R at *
  generalize B v % wd = C at *
  clear h
  go_enter Try.func22, Try.ntmps22
  go_wp2_with fail
  go_quiet (fail)
  go_wp2_with fail
  go_ret2
  exact ⟨rfl, _, rfl⟩

end Go.Proofs.Qxb6600869a
