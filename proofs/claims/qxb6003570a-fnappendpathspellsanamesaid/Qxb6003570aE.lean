import Derived.Test.Qxb6003570aD
namespace Go.Proofs.Qxb6003570a
open Go.RowKit
set_option linter.unusedVariables false
open Pl (fan wid sta Pos has fr mm Valid idx Right Done Turn)

theorem Try.info21 : (Try.prog.info? 21).map (fun i => (i.zero, i.size, i.bytes)) = some (some (.int .i32 0), 1, 4) := by kernel_rfl
theorem Try.info4 : (Try.prog.info? 4).map (fun i => (i.zero, i.size, i.bytes)) = some (some (.bool false), 1, 1) := by kernel_rfl

theorem own_free {w : World} {base e g n cap : Nat} {xs : List Value} (h : w.ownsRow base e 1 (.slice (some ⟨g, 0, none⟩) n cap) n xs) (i : Nat) : w.frozen? ⟨g, i, none⟩ = false := by
  rcases h.2 with ⟨e1, _⟩ | ⟨q, cq, cur, e1, _, hh, _⟩
  · cases e1
  · cases e1
    simp only [World.frozen?]; rw [hh]; simp

theorem made_cell {w : World} {base e g n cap : Nat} {z : Value} (hz : z.cells = #[z]) (h : w.ownsRow base e 1 (.slice (some ⟨g, 0, none⟩) n cap) n (madeCells z.cells (n * 1)).toList) (i : Nat) (hi : i < n) : w.cell? ⟨g, i, none⟩ = some z := by
  refine own_cell h i z ?_
  rw [hz, toList_madeCells_one]
  simp [hi]

/-- What 'Ends' leaves. -/
def EndsEnd (w : World) (n src : Nat) (rep : Bool) (L : Nat) (e : Ending) (w' : World) : Prop :=
  ∃ (eb : Nat) (E : Nat → Nat), e = .returned (.slice (some ⟨eb, 0, none⟩) (sta n rep L) (sta n rep L)) ∧ Below w.heap.size w w' ∧ w.heap.size ≤ eb ∧ (∀ u, u < sta n rep L → w'.cell? ⟨eb, u, none⟩ = some (.int .i32 (E u : Int))) ∧ ∀ u, u < sta n rep L → Right n src rep L u (E u)

/-- The root's name, and what it bars. -/
theorem root_valid (n src : Nat) (rep : Bool) : Valid n src rep (fun _ => src) 0 := ⟨rfl, fun i h1 h2 => by omega⟩
theorem root_has (src : Nat) (rep : Bool) (q : Nat) : has (fun _ => src) (mm rep 1) q = (src == q) := by
  cases rep <;> simp [mm, has]

/-- Every vertex of the tree lies at some depth. -/
theorem depth_of (n : Nat) (rep : Bool) (u : Nat) : ∀ L, u < sta n rep L → ∃ d, d < L ∧ sta n rep d ≤ u ∧ u < sta n rep (d + 1)
  | 0, h => by simp [sta] at h
  | L + 1, h => by
    by_cases e : u < sta n rep L
    · obtain ⟨d, h1, h2, h3⟩ := depth_of n rep u L e
      exact ⟨d, by omega, h2, h3⟩
    · exact ⟨L, by omega, by omega, h⟩

/-- All is right when the root is and all below it. -/
theorem all_right {n src : Nat} {rep : Bool} {L : Nat} {E0 E : Nat → Nat} (hs : src < n) (hL : 1 ≤ L) (h0 : E0 0 = src) (ht : Turn n src rep L E0 E) (hd : Done n src rep L (fun _ => src) 0 n E) : ∀ u, u < sta n rep L → Right n src rep L u (E u) := by
  intro u hu
  obtain ⟨d, h1, h2, h3⟩ := depth_of n rep u L hu
  have h4 : u - sta n rep d < wid n rep d := by simp only [sta] at h3; omega
  obtain ⟨f, f1, f2⟩ := Pl.idx_onto hs d _ h4
  have hu2 : u = sta n rep d + idx n rep f d := by omega
  by_cases e : d = 0
  · subst e
    have hu0 : u = 0 := by simp [sta, wid] at h3; omega
    subst hu0
    refine ht.right ?_
    rw [h0]
    exact ⟨0, fun _ => src, by omega, root_valid n src rep, by simp [sta, idx], rfl⟩
  · rw [hu2]
    exact hd d f (by omega) h1 f1 (fun i hi => by have : i = 0 := by omega
                                                  subst this; exact f1.1) ((f1.2 1 (by omega) (by omega)).1)

/-- Behind the first 'make': the table of ends, all noughts. -/
theorem made1 {w w1 : World} {m b N : Nat} {x y : Value} (hb : b < w.heap.size) (h0 : w.cell? ⟨b, 0, none⟩ = some x) (h1 : w.cell? ⟨b, 1, none⟩ = some y)
    (own : w1.ownsRow w.heap.size 21 1 (.slice (some ⟨(w.drewN m).heap.size, 0, none⟩) N N) N (madeCells (Value.int .i32 0).cells (N * 1)).toList) (grow : (w.drewN m).grownBy w1 none) (hN : 1 ≤ N) :
    Hid (Below w.heap.size w w1) ∧ w1.cell? ⟨b, 0, none⟩ = some x ∧ w1.cell? ⟨b, 1, none⟩ = some y ∧ w1.cell? ⟨w.heap.size, 0, none⟩ = some (.int .i32 0) ∧ w1.frozen? ⟨w.heap.size, 0, none⟩ = false ∧ w.heap.size < w1.heap.size ∧
    Hid (∀ u, u < N → w1.cell? ⟨w.heap.size, u, none⟩ = some (.int .i32 0) ∧ w1.frozen? ⟨w.heap.size, u, none⟩ = false) := by
  have hB : Below w.heap.size w w1 := (below_drewN (B := w.heap.size) (w := w) m).grown grow (Nat.le_refl _) (fun k e => by cases e)
  have hc : ∀ u, u < N → w1.cell? ⟨w.heap.size, u, none⟩ = some (.int .i32 0) ∧ w1.frozen? ⟨w.heap.size, u, none⟩ = false := fun u hu => ⟨made_cell rfl own u hu, own_free own u⟩
  refine ⟨hB, (hB.cell (p := ⟨b, 0, none⟩) hb).trans h0, (hB.cell (p := ⟨b, 1, none⟩) hb).trans h1, (hc 0 (by omega)).1, (hc 0 (by omega)).2, ?_, hc⟩
  exact World.block_lt_of_cell? w1 _ (hc 0 (by omega)).1

/-- Behind the second 'make': the marks, none set. -/
theorem made2 {w w1 w2 : World} {b g cap n src : Nat} {rep : Bool} {L : Nat} (h : Shp w b g cap n src rep L) (hB1 : Below w.heap.size w w1) (hsz : w.heap.size < w1.heap.size) {x : Value}
    (own : w2.ownsRow w.heap.size 4 1 (.slice (some ⟨(w1.setCell ⟨w.heap.size, 0, none⟩ x).heap.size, 0, none⟩) n n) n (madeCells (Value.bool false).cells (n * 1)).toList) (grow : (w1.setCell ⟨w.heap.size, 0, none⟩ x).grownBy w2 none) :
    Hid (Below w1.heap.size (w1.setCell ⟨w.heap.size, 0, none⟩ x) w2) ∧ w2.cell? ⟨b, 1, none⟩ = some (.int .i64 (src : Int)) ∧ w2.cell? ⟨w1.heap.size, src, none⟩ = some (.bool false) ∧ w2.frozen? ⟨w1.heap.size, src, none⟩ = false ∧
    Hid (∀ q, q < n → w2.cell? ⟨w1.heap.size, q, none⟩ = some (.bool false) ∧ w2.frozen? ⟨w1.heap.size, q, none⟩ = false) := by
  have hb : b < w.heap.size := World.block_lt_of_cell? w _ h.c0
  rw [World.size_setCell] at own
  have hB : Below w1.heap.size (w1.setCell ⟨w.heap.size, 0, none⟩ x) w2 := (Below.refl _ _).grown grow (by simp) (fun k e => by cases e)
  have hc : ∀ q, q < n → w2.cell? ⟨w1.heap.size, q, none⟩ = some (.bool false) ∧ w2.frozen? ⟨w1.heap.size, q, none⟩ = false := fun u hu => ⟨made_cell rfl own u hu, own_free own u⟩
  refine ⟨hB, ?_, (hc src h.hs).1, (hc src h.hs).2, hc⟩
  rw [hB.cell (p := ⟨b, 1, none⟩) (by show b < _; omega), cell_set_ne _ _ _ _ _ _ (by omega), hB1.cell (p := ⟨b, 1, none⟩) hb]
  exact h.c1

/-- The tables as 'endBelow' is handed them. -/
theorem made3 {w w1 w2 : World} {b g cap n src : Nat} {rep : Bool} {L : Nat} (h : Shp w b g cap n src rep L) (hB1 : Below w.heap.size w w1) (hsz : w.heap.size < w1.heap.size)
    (hB2 : Below w1.heap.size (w1.setCell ⟨w.heap.size, 0, none⟩ (.int .i32 (src : Int))) w2)
    (h1 : ∀ u, u < sta n rep L → w1.cell? ⟨w.heap.size, u, none⟩ = some (.int .i32 0) ∧ w1.frozen? ⟨w.heap.size, u, none⟩ = false)
    (h2 : ∀ q, q < n → w2.cell? ⟨w1.heap.size, q, none⟩ = some (.bool false) ∧ w2.frozen? ⟨w1.heap.size, q, none⟩ = false) :
    EB (w2.setCell ⟨w1.heap.size, src, none⟩ (.bool true)) w.heap.size w1.heap.size (sta n rep L) n (fun u => if u = 0 then src else 0) (fun q => if q = src then true else false) ∧ Below w.heap.size w (w2.setCell ⟨w1.heap.size, src, none⟩ (.bool true)) := by
  constructor
  · have e1 : EB w2 w.heap.size w1.heap.size (sta n rep L) n (fun u => if u = 0 then src else 0) (fun _ => false) := by
      refine ⟨fun u hu => ?_, fun u hu => ?_, fun q hq => (h2 q hq).1, fun q hq => (h2 q hq).2⟩
      · rw [hB2.cell (p := ⟨w.heap.size, u, none⟩) hsz]
        by_cases e : u = 0
        · subst e; rw [if_pos rfl]; exact cell_set_eq _ _ _ _ _ (h1 0 hu).1
        · rw [if_neg e, cell_set_ne _ _ _ _ _ _ (by omega)]; exact (h1 u hu).1
      · rw [hB2.frozen (p := ⟨w.heap.size, u, none⟩) hsz, World.frozen?_setCell]; exact (h1 u hu).2
    exact e1.setM hsz src true h.hs
  · exact ((hB1.setCell (p := ⟨w.heap.size, 0, none⟩) (Nat.le_refl _) _).trans (hB2.mono (Nat.le_of_lt hsz))).setCell (p := ⟨w1.heap.size, src, none⟩) (Nat.le_of_lt hsz) _

theorem mark_eq (src q : Nat) : (if q = src then true else false) = (src == q) := by
  by_cases e : q = src
  · subst e; simp
  · have : ¬ src = q := fun h => e h.symm
    simp [e, this]

theorem endBelow_at (b g cap n src : Nat) (rep : Bool) (L eb nb : Nat) (hbe : b < eb) (hge : g < eb) (hne : eb < nb) (w : World) (vi li : Int) (E : Nat → Nat) (M : Nat → Bool) (hS : Shp w b g cap n src rep L) (hE : EB w eb nb (sta n rep L) n E M)
    (hvi : vi = 0) (hli : li = 1) (hM : ∀ q, q < n → M q = (src == q)) :
    Calls Try.prog 30 #[.pointer (some ⟨b, 0, none⟩), .slice (some ⟨eb, 0, none⟩) (sta n rep L) (sta n rep L), .slice (some ⟨nb, 0, none⟩) n n, .int .i64 vi, .int .i64 li] w
      fun e w' => e = .returned (.tuple #[]) ∧ EBEnd w eb nb (sta n rep L) n src rep L (fun _ => src) 0 E M w' := by
  have h := endBelow_any b g cap n src rep L eb nb hbe hge hne (L - 1) w (fun _ => src) 0 0 li E M (by have := hS.hL1; omega) hS hE (root_valid n src rep) rfl (by simpa using hli) (fun q hq => by rw [root_has]; exact hM q hq)
  subst hvi
  exact h

set_option maxHeartbeats 1000000 in
theorem ends_any (w : World) (b g cap n src : Nat) (rep : Bool) (L : Nat) (h : Shp w b g cap n src rep L) :
    Calls Try.prog 23 #[.pointer (some ⟨b, 0, none⟩)] w fun e w' => EndsEnd w n src rep L e w' := by
  obtain ⟨i1, hi1, hz11, hz12, hz13⟩ := info_parts Try.info21
  obtain ⟨i2, hi2, hz21, hz22, hz23⟩ := info_parts Try.info4
  have hlen := hide (len_any w b g cap n src rep L h)
  have HS := hide h
  have hb : b < w.heap.size := World.block_lt_of_cell? w _ h.c0
  have hg : g < w.heap.size := World.block_lt_of_cell? w _ (h.st 0 (by omega))
  have hN := Pl.sta_bd n rep h.hn2 L h.hL2
  have hN1 : 1 ≤ sta n rep L := by have := Pl.sta_mono n rep 1 L h.hL1; have e : sta n rep 1 = 1 := rfl; omega
  have hn1 := h.hn1
  have hn2 := h.hn2
  have hs := h.hs
  have hc0 := h.c0
  have hc1 := h.c1
  clear h
  go_enter Try.func23, Try.ntmps23
  go_wp2_with fail
  refine (unhide hlen).mono ?_
  rintro e w' ⟨rfl, m, rfl⟩
  go_wp2_with (first
    | (at_make; refine wpList_make_full _ rfl (.tmp 6) (.tmp 6) 39 rfl w.heap.size 21 i1 (.int .i32 0) 1 Try.underlying39 hi1 hz11 hz12 .i64 .i64 _ _ (sta n rep L) rfl rfl rfl rfl (by rw [hz13]; omega) (by unfold maxLen; omega) (by simp) ?_; intro w1 own1 grow1; obtain ⟨hB1, k0, k1, z0, zf, hsz, HO1⟩ := made1 hb hc0 hc1 own1 grow1 hN1; clear own1 grow1 hc0 hc1)
    | (at_make; refine wpList_make_full _ rfl (.tmp 18) (.tmp 18) 47 rfl w.heap.size 4 i2 (.bool false) 1 Try.underlying47 hi2 hz21 hz22 .i64 .i64 _ _ n rfl rfl rfl rfl (by rw [hz23]; omega) (by unfold maxLen; omega) (by simp; omega) ?_; intro w2 own2 grow2; obtain ⟨hB2, q1, y0, yf, HO2⟩ := made2 (unhide HS) (unhide hB1) hsz own2 grow2; clear own2 grow2 k0 k1 z0 zf))
  obtain ⟨hEB, hBA⟩ := made3 (unhide HS) (unhide hB1) hsz (unhide hB2) (unhide HO1) (unhide HO2)
  have HB := hide hBA
  refine (endBelow_at b g cap n src rep L w.heap.size w1.heap.size hb hg hsz _ _ _ (fun u => if u = 0 then src else 0) (fun q => if q = src then true else false) ((unhide HS).below hBA hb hg) hEB rfl rfl (fun q _ => mark_eq src q)).mono ?_
  rintro e w3 ⟨rfl, hend⟩
  obtain ⟨E, h1, h2, h3, h4⟩ := hend
  have HF : Hid (EndsEnd w n src rep L (.returned (.slice (some ⟨w.heap.size, 0, none⟩) (sta n rep L) (sta n rep L))) w3) := ⟨w.heap.size, E, rfl, (unhide HB).trans h2, Nat.le_refl _, h1.ec, all_right hs (unhide HS).hL1 (by simp) h3 h4⟩
  clear hEB hBA h1 h2 h3 h4 hB1 hB2 HO1 HO2 q1 y0 yf
  go_wp2_with fail
  go_ret
  exact unhide HF

end Go.Proofs.Qxb6003570a
