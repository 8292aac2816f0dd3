import Derived.Test.Qxb6003570aA
import Derived.Deep.RegionLaw
import Derived.Deep.AppendLies
import Derived.Test.Qxb6003570aLaws
namespace Go.Proofs.Qxb6003570a
open Go.RowKit
open Pl (fan wid sta Pos)

theorem Try.info3 : (Try.prog.info? 3).map (fun i => (i.zero, i.size, i.bytes)) = some (some (.int .i64 0), 1, 8) := by kernel_rfl

/-- A yes or no; where it is a yes the bounds hold. -/
def OKEnd (n s l : Int) (e : Ending) : Prop := ∃ r : Bool, e = .returned (.bool r) ∧ (r = true → 1 ≤ n ∧ n ≤ 12 ∧ 0 ≤ s ∧ s < n ∧ l ≤ 8)
theorem OKEnd.no (n s l : Int) : OKEnd n s l (.returned (.bool false)) := ⟨false, rfl, by simp⟩
theorem OKEnd.yes {n s l : Int} (h : 1 ≤ n ∧ n ≤ 12 ∧ 0 ≤ s ∧ s < n ∧ l ≤ 8) : OKEnd n s l (.returned (.bool true)) := ⟨true, rfl, fun _ => h⟩

set_option maxHeartbeats 400000 in
/-- 'shapeArgsOK' answers; where it says yes the bounds hold. -/
theorem argsOK_any (w : World) (n s l : Int) :
    Calls Try.prog 9 #[.int .i64 n, .int .i64 s, .int .i64 l] w fun e w' => OKEnd n s l e ∧ w' = w := by
  by_cases h1 : 1 ≤ n
  · by_cases h2 : n ≤ 12
    · by_cases h3 : 0 ≤ s
      · by_cases h4 : s < n
        · by_cases h5 : l ≤ 8
          · go_enter Try.func9, Try.ntmps9
            go_wp2
            go_ret
            exact ⟨OKEnd.yes ⟨h1, h2, h3, h4, h5⟩, rfl⟩
          · go_enter Try.func9, Try.ntmps9
            go_wp2
            go_ret
            exact ⟨OKEnd.no _ _ _, rfl⟩
        · go_enter Try.func9, Try.ntmps9
          go_wp2
          go_ret
          exact ⟨OKEnd.no _ _ _, rfl⟩
      · go_enter Try.func9, Try.ntmps9
        go_wp2
        go_ret
        exact ⟨OKEnd.no _ _ _, rfl⟩
    · go_enter Try.func9, Try.ntmps9
      go_wp2
      go_ret
      exact ⟨OKEnd.no _ _ _, rfl⟩
  · go_enter Try.func9, Try.ntmps9
    go_wp2
    go_ret
    exact ⟨OKEnd.no _ _ _, rfl⟩

/-- The table of starts, its first k numbers, as cells. -/
def stl (n : Nat) (rep : Bool) (k : Nat) : List Value := (List.range k).map fun i => .int .i64 (sta n rep i : Int)

theorem stl_get (n : Nat) (rep : Bool) (k i : Nat) (h : i < k) : (stl n rep k)[i]? = some (.int .i64 (sta n rep i : Int)) := by
  unfold stl; simp [h]

theorem stl_succ (n : Nat) (rep : Bool) (k : Nat) : stl n rep (k + 1) = stl n rep k ++ [.int .i64 (sta n rep k : Int)] := by
  unfold stl; simp [List.range_succ]

theorem own_cell {w : World} {base e g n cap : Nat} {xs : List Value} (h : w.ownsRow base e 1 (.slice (some ⟨g, 0, none⟩) n cap) n xs) (i : Nat) (v : Value) (hv : xs[i]? = some v) : w.cell? ⟨g, i, none⟩ = some v := by
  have := h.cells (g := g) rfl i v hv
  have hadd : (⟨g, 0, none⟩ : Addr).add i = ⟨g, i, none⟩ := by unfold Addr.add; split <;> simp_all
  rw [hadd] at this
  exact this

theorem cell_set_ne (w : World) (b o b' o' : Nat) (v : Value) (h : b ≠ b' ∨ o ≠ o') : (w.setCell ⟨b, o, none⟩ v).cell? ⟨b', o', none⟩ = w.cell? ⟨b', o', none⟩ :=
  World.cell?_setCell_other _ _ _ _ (fun e => by simp only [Addr.mk.injEq] at e; omega)
theorem cell_set_eq (w : World) (b o : Nat) (v u : Value) (h : w.cell? ⟨b, o, none⟩ = some u) : (w.setCell ⟨b, o, none⟩ v).cell? ⟨b, o, none⟩ = some v :=
  World.cell?_setCell_same _ _ _ h

/-- What holds at the head of round j + 1 of 'newShape''s loop: the struct in block b, the table, so far, in block g. -/
structure NewRel (w wr : World) (b g cap n src : Nat) (rep : Bool) (j : Nat) : Prop where
  c0 : wr.cell? ⟨b, 0, none⟩ = some (.int .i64 (n : Int))
  c1 : wr.cell? ⟨b, 1, none⟩ = some (.int .i64 (src : Int))
  c2 : wr.cell? ⟨b, 2, none⟩ = some (.bool rep)
  c3 : wr.cell? ⟨b, 3, none⟩ = some (.slice (some ⟨g, 0, none⟩) (j + 2) cap)
  f3 : wr.frozen? ⟨b, 3, none⟩ = false
  own : wr.ownsRow w.heap.size 3 1 (.slice (some ⟨g, 0, none⟩) (j + 2) cap) (j + 2) (stl n rep (j + 2))
  ne : g ≠ b
  bel : Below w.heap.size w wr
  jb : j + 1 ≤ 8
  pos : Pos n rep (j + 1)

theorem NewRel.start (w : World) (n src : Nat) (rep : Bool) :
    NewRel w ((w.alloc (Obj.cells #[Value.int IntKind.i64 0, Value.int IntKind.i64 1] 3)).alloc (Obj.cells #[Value.int IntKind.i64 (n : Int), Value.int IntKind.i64 (src : Int), Value.bool rep, Value.slice (some { block := w.heap.size, off := 0 }) 2 2] 44)) (w.heap.size + 1) w.heap.size 2 n src rep 0 := by
  have hh : ((w.alloc (Obj.cells #[Value.int IntKind.i64 0, Value.int IntKind.i64 1] 3)).alloc (Obj.cells #[Value.int IntKind.i64 (n : Int), Value.int IntKind.i64 (src : Int), Value.bool rep, Value.slice (some { block := w.heap.size, off := 0 }) 2 2] 44)).heap[w.heap.size + 1]? = some (Obj.cells #[Value.int IntKind.i64 (n : Int), Value.int IntKind.i64 (src : Int), Value.bool rep, Value.slice (some { block := w.heap.size, off := 0 }) 2 2] 44) := by
    have := heap_alloc_new (w.alloc (Obj.cells #[Value.int IntKind.i64 0, Value.int IntKind.i64 1] 3)) (Obj.cells #[Value.int IntKind.i64 (n : Int), Value.int IntKind.i64 (src : Int), Value.bool rep, Value.slice (some { block := w.heap.size, off := 0 }) 2 2] 44)
    simpa using this
  refine ⟨?_, ?_, ?_, ?_, ?_, ⟨by simp [stl], .inr ⟨w.heap.size, 2, #[.int .i64 0, .int .i64 1], rfl, Nat.le_refl _, ?_, by omega, by decide, by simp, by simp [stl, List.range_succ, sta, wid]⟩⟩, by omega, ?_, by omega, fun l h1 h2 => by omega⟩
  · rw [cell_of_row _ _ _ _ _ _ hh]; rfl
  · rw [cell_of_row _ _ _ _ _ _ hh]; rfl
  · rw [cell_of_row _ _ _ _ _ _ hh]; rfl
  · rw [cell_of_row _ _ _ _ _ _ hh]; rfl
  · simp only [World.frozen?]; rw [hh]; rfl
  · exact (heap_alloc_old (w.alloc _) _ (by simp)).trans (heap_alloc_new w _)
  · exact ((Below.refl _ _).alloc (Nat.le_refl _) _).alloc (by simp) _

theorem NewRel.shp {w wr : World} {b g cap n src : Nat} {rep : Bool} {j : Nat} (h : NewRel w wr b g cap n src rep j) (hn1 : 1 ≤ n) (hn2 : n ≤ 12) (hs : src < n) : Shp wr b g cap n src rep (j + 1) :=
  ⟨h.c0, h.c1, h.c2, h.c3, fun i hi => own_cell h.own i _ (stl_get n rep (j + 2) i (by omega)), hn1, hn2, hs, by omega, h.jb, h.pos⟩

/-- One round: the table has grown by one number, the new slice is stored into the struct. -/
theorem NewRel.next {w wr W w1 : World} {b g cap n src : Nat} {rep : Bool} {j gg cap' : Nat} (h : NewRel w wr b g cap n src rep j) (hb : w.heap.size ≤ b) (hW : Below wr.heap.size wr W)
    (hown : w1.ownsRow w.heap.size 3 1 (.slice (some ⟨gg, 0, none⟩) (j + 2 + 1) cap') (j + 2 + 1) (stl n rep (j + 2) ++ [.int .i64 (sta n rep (j + 2) : Int)]))
    (hgrow : W.grownBy w1 (some g)) (hat : gg = g ∨ wr.heap.size ≤ gg) (hj : j + 1 < 8) (hp : 0 < fan n rep (j + 1)) :
    NewRel w (w1.setCell ⟨b, 3, none⟩ (.slice (some ⟨gg, 0, none⟩) (j + 2 + 1) cap')) b gg cap' n src rep (j + 1) := by
  have lb : b < wr.heap.size := World.block_lt_of_cell? wr _ h.c0
  have hne : some b ≠ some g := by
    intro e; cases e; exact h.ne rfl
  have lW : b < W.heap.size := Nat.lt_of_lt_of_le lb hW.size
  have hcell : ∀ o, w1.cell? ⟨b, o, none⟩ = wr.cell? ⟨b, o, none⟩ := fun o => by
    rw [hgrow.cell_far ⟨b, o, none⟩ lW hne, hW.cell (p := ⟨b, o, none⟩) lb]
  have hfr : ∀ o, w1.frozen? ⟨b, o, none⟩ = wr.frozen? ⟨b, o, none⟩ := fun o => by
    rw [hgrow.frozen_far ⟨b, o, none⟩ lW hne, hW.frozen (p := ⟨b, o, none⟩) lb]
  have lgg : gg ≠ b := by
    rcases hat with e | e
    · subst e; exact h.ne
    · omega
  have hg : w.heap.size ≤ g := (h.own.lt g rfl).1
  refine ⟨?_, ?_, ?_, ?_, ?_, ?_, lgg, ?_, hj, ?_⟩
  · rw [cell_set_ne _ _ _ _ _ _ (by omega), hcell]; exact h.c0
  · rw [cell_set_ne _ _ _ _ _ _ (by omega), hcell]; exact h.c1
  · rw [cell_set_ne _ _ _ _ _ _ (by omega), hcell]; exact h.c2
  · exact cell_set_eq _ _ _ _ _ ((hcell 3).trans h.c3)
  · rw [World.frozen?_setCell, hfr]; exact h.f3
  · rw [stl_succ]
    obtain ⟨h1, h2⟩ := hown
    refine ⟨h1, ?_⟩
    rcases h2 with ⟨e, _⟩ | ⟨q, cp, cur, hv, hq, hh, r⟩
    · cases e
    · cases hv
      exact Or.inr ⟨gg, _, cur, rfl, hq, by rw [Below.heap_setCell _ _ _ _ lgg]; exact hh, r⟩
  · have b1 : Below w.heap.size w W := h.bel.trans (hW.mono h.bel.size)
    exact (b1.grown hgrow b1.size (fun k e => by cases e; exact hg)).setCell hb _
  · intro l h1 h2
    by_cases e : l = j + 1
    · subst e; exact hp
    · exact h.pos l h1 (by omega)

/-- What 'newShape' leaves: a pointer to a layout in new memory; all else as it was. -/
def NewEnd (w : World) (n src : Nat) (rep : Bool) (e : Ending) (w' : World) : Prop := ∃ b g cap L, e = .returned (.pointer (some ⟨b, 0, none⟩)) ∧ Shp w' b g cap n src rep L ∧ Below w.heap.size w w'
theorem NewRel.fin {w wr : World} {b g cap n src : Nat} {rep : Bool} {j : Nat} (h : NewRel w wr b g cap n src rep j) (hn1 : 1 ≤ n) (hn2 : n ≤ 12) (hs : src < n) : NewEnd w n src rep (.returned (.pointer (some ⟨b, 0, none⟩))) wr :=
  ⟨_, _, _, _, rfl, h.shp hn1 hn2 hs, h.bel⟩

theorem sta_next (n : Nat) (rep : Bool) (j : Nat) : (sta n rep (j + 1) : Int) + ((sta n rep (j + 1) : Int) - (sta n rep j : Int)) * (fan n rep (j + 1) : Int) = (sta n rep (j + 2) : Int) := by
  have h1 : (sta n rep (j + 1) : Int) - (sta n rep j : Int) = (wid n rep j : Int) := by simp only [sta]; omega
  rw [h1, ← Int.natCast_mul, ← Int.natCast_add]
  rfl

/-- A cell of the old row reads as it did behind the append. -/
theorem app_old {W w1 : World} {base n cap' g gg H i : Nat} {xs ys : List Value} {v : Value} (hown : w1.ownsRow base 3 1 (.slice (some ⟨gg, 0, none⟩) n cap') n (xs ++ ys)) (hgrow : W.grownBy w1 (some g)) (hat : gg = g ∨ (gg = H ∧ Below H W w1)) (hH : g < H)
    (hc : W.cell? ⟨g, i, none⟩ = some v) (hx : xs[i]? = some v) : w1.cell? ⟨g, i, none⟩ = some v := by
  rcases hat with e | ⟨_, hb⟩
  · subst e
    refine own_cell hown i v ?_
    rw [List.getElem?_append_left (by have := List.getElem?_eq_some_iff.1 hx; exact this.1)]
    exact hx
  · rw [hb.cell (p := ⟨g, i, none⟩) hH]; exact hc

theorem own_drewN {w : World} {base e size : Nat} {v : Value} {n : Nat} {xs : List Value} (m : Nat) (h : w.ownsRow base e size v n xs) : (w.drewN m).ownsRow base e size v n xs := by
  obtain ⟨h1, h2⟩ := h
  exact ⟨h1, by simpa using h2⟩
theorem below_drewN {B : Nat} {w : World} (m : Nat) : Below B w (w.drewN m) := ⟨rfl, rfl, rfl, Nat.le_refl _, fun _ _ => rfl⟩

set_option maxHeartbeats 16000000 in
theorem newShape_any (w : World) (n src : Nat) (lv : Int) (rep : Bool) (hn1 : 1 ≤ n) (hn2 : n ≤ 12) (hs : src < n) (hl : lv ≤ 8) (hlo : -9223372036854775808 ≤ lv) :
    Calls Try.prog 32 #[.int .i64 (n : Int), .int .i64 (src : Int), .int .i64 lv, .bool rep] w fun e w' => NewEnd w n src rep e w' := by
  obtain ⟨i0, hi0, hz0, hz1, hz2⟩ := info_parts Try.info3
  go_enter Try.func32, Try.ntmps32
  go_wp2
  go_loopw [10, 11] (fun l wd wr => ∃ j g cap : Nat, l = .int .i64 ((j : Int) + 1) ∧ NewRel w wr (w.heap.size + 1) g cap n src rep j) (fun l _ _ => 9 - (intOf l).toNat)
  case atStart => exact ⟨0, w.heap.size, 2, rfl, NewRel.start w n src rep⟩
  case round =>
    obtain ⟨j, g, cap, rfl, hrel⟩ := hrel
    obtain ⟨c0, c1, c2, c3, f3, own, ne, bel, jb, pos⟩ := id hrel
    have HR := hide hrel
    clear hrel own bel pos
    have hc0 : wr.cell? ⟨w.heap.size + 1, 0, none⟩ = some (.int .i64 (n : Int)) := c0
    by_cases hlv : (j : Int) + 1 < lv
    · by_cases hf : 0 < fan n rep (j + 1)
      · have own := (unhide HR).own
        have s1 := own_cell own j _ (stl_get n rep (j + 2) j (by omega))
        have s2 := own_cell own (j + 1) _ (stl_get n rep (j + 2) (j + 1) (by omega))
        have b1 := Pl.sta_bd n rep hn2 j (by omega)
        have b2 := Pl.sta_bd n rep hn2 (j + 1) (by omega)
        have b3 := Pl.sta_mono n rep j (j + 1) (by omega)
        have hf2 := Pl.fan_le n rep (j + 1) (by omega)
        have hq1 : 0 ≤ ((sta n rep (j + 1) : Int) - (sta n rep j : Int)) * (fan n rep (j + 1) : Int) := Int.mul_nonneg (by omega) (by omega)
        have hq2 : ((sta n rep (j + 1) : Int) - (sta n rep j : Int)) * (fan n rep (j + 1) : Int) ≤ 429981696 * 11 := Int.mul_le_mul (by omega) (by omega) (by omega) (by omega)
        have OWN := hide own
        clear own
        go_wp2_with (go_at_call 31; refine (fanout_any _ (w.heap.size + 1) n (j + 1) rep _ c0 c2 hn2 (by omega) (by omega) (by omega)).mono ?_; rintro e w' ⟨rfl, rfl⟩)
        go_quiet (fail)
        go_wp2_with fail
        have C0 : (w'.drewN nq).cell? ⟨w.heap.size + 1, 0, none⟩ = some (.int .i64 (n : Int)) := by simpa using c0
        have C2 : (w'.drewN nq).cell? ⟨w.heap.size + 1, 2, none⟩ = some (.bool rep) := by simpa using c2
        have C3 : (w'.drewN nq).cell? ⟨w.heap.size + 1, 3, none⟩ = some (.slice (some ⟨g, 0, none⟩) (j + 2) cap) := by simpa using c3
        have F3 : (w'.drewN nq).frozen? ⟨w.heap.size + 1, 3, none⟩ = false := by simpa using f3
        have S2 : (w'.drewN nq).cell? ⟨g, j + 1, none⟩ = some (.int .i64 (sta n rep (j + 1) : Int)) := by simpa using s2
        have OW : Hid ((w'.drewN nq).ownsRow w.heap.size 3 1 (.slice (some ⟨g, 0, none⟩) (j + 2) cap) (j + 2) (stl n rep (j + 2))) := own_drewN nq (unhide OWN)
        have HB : Hid (Below w'.heap.size w' (w'.drewN nq)) := below_drewN nq
        clear c0 c1 c2 c3 f3 s1 s2 OWN hc0
        generalize w'.drewN nq = W at *
        have lb : w.heap.size + 1 < W.heap.size := World.block_lt_of_cell? W _ C0
        have lg : g < W.heap.size := World.block_lt_of_cell? W _ S2
        have fz : ∀ o : Obj, (W.alloc o).frozen? ⟨w.heap.size + 1, 3, none⟩ = false := fun o => (World.frozen?_of_block (w := W) (a := ⟨w.heap.size + 1, 3, none⟩) (heap_alloc_old W o lb)).trans F3
        have hj0 : (0 : Int) ≤ (j : Int) + 1 := by omega
        have hj1 : (j : Int) + 1 < ((j + 2 : Nat) : Int) := by omega
        have hbg : some (w.heap.size + 1) ≠ some g := by intro e; cases e; exact ne rfl
        have e1 := wrapIn (((sta n rep (j + 1) : Int) - (sta n rep j : Int)) * (fan n rep (j + 1) : Int)) (by omega) (by omega)
        have e2 := wrapIn ((sta n rep (j + 1) : Int) + ((sta n rep (j + 1) : Int) - (sta n rep j : Int)) * (fan n rep (j + 1) : Int)) (by omega) (by omega)
        go_region_law (first
          | (refine step_call enter31 #[.pointer (some ⟨w.heap.size + 1, 0, none⟩), .int .i64 ((j : Int) + 1)] (.int .i64 (fan n rep (j + 1) : Int)) (by simp [Act.eval, Act.put]) (fanout_any _ (w.heap.size + 1) n (j + 1) rep _ C0 C2 hn2 (by omega) (by omega) (by omega)) ?_)
          | (refine step_append_more _ (by rfl) _ _ _ (by rfl) w.heap.size 3 i0 _ 1 8 Try.underlying26 hi0 hz0 hz1 hz2 rfl (by omega) g (j + 2) cap (stl n rep (j + 2)) (by rfl) ((unhide OW).alloc _).drew ⟨W.heap.size, 0, none⟩ 1 1 [.int .i64 ((sta n rep (j + 1) : Int) + ((sta n rep (j + 1) : Int) - (sta n rep j : Int)) * (fan n rep (j + 1) : Int))] (by rfl) (by rfl) (World.news_of_block (cs := #[.int .i64 ((sta n rep (j + 1) : Int) + ((sta n rep (j + 1) : Int) - (sta n rep j : Int)) * (fan n rep (j + 1) : Int))]) (t := 3) (fr := (0, 0)) (heap_alloc_new W _)) (by simp [Value.oneCell']) (by omega) (by unfold maxLen; omega) (by omega) (by simp; omega) (W.heap.size + 1) (by simp) ?_; intro gg cap' w1 hown1' hgrow hat hlt; have hown1 := hide hown1'; clear hown1'; have F3' := hgrow.frozen_far ⟨w.heap.size + 1, 3, none⟩ (by simp; omega) hbg; have C3' := hgrow.cell_far ⟨w.heap.size + 1, 3, none⟩ (by simp; omega) hbg))
        all_goals go_wp2_with fail
        all_goals
          go_roundw
          case rel =>
            have hx := sta_next n rep j
            have ho := unhide hown1
            rw [hx] at ho
            exact ⟨j + 1, gg, cap', by go_num, (unhide HR).next (by omega) (((unhide HB).alloc (unhide HB).size _).drew) ho hgrow (hat.imp id (fun h => by have := (unhide HB).size; omega)) (by omega) hf⟩
          case measure => simp [intOf]; omega
      · go_wp2_with (go_at_call 31; refine (fanout_any _ (w.heap.size + 1) n (j + 1) rep _ c0 c2 hn2 (by omega) (by omega) (by omega)).mono ?_; rintro e w' ⟨rfl, rfl⟩)
        go_ret
        exact (unhide HR).fin hn1 hn2 hs
    · go_wp2_with fail
      go_ret
      exact (unhide HR).fin hn1 hn2 hs

end Go.Proofs.Qxb6003570a
