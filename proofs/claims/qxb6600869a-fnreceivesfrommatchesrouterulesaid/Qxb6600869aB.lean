import Derived.Test.Qxb6600869aA
import Derived.Test.Qxb6600869aPlain
namespace Go.Proofs.Qxb6600869a
open Go.RowKit
set_option linter.unusedVariables false
set_option linter.unusedSimpArgs false
open Pl (Perm swp)

/-- n numbers of a kind, one behind the other from the head of a block on, which may be written. -/
def Cells (w : World) (blk n : Nat) (k : IntKind) (G : Nat → Int) : Prop := ∀ i, i < n → w.cell? ⟨blk, i, none⟩ = some (.int k (G i)) ∧ w.frozen? ⟨blk, i, none⟩ = false

theorem Cells.set {w : World} {blk n : Nat} {k : IntKind} {G : Nat → Int} (h : Cells w blk n k G) (i : Nat) (x : Int) : Cells (w.setCell ⟨blk, i, none⟩ (.int k x)) blk n k (fun j => if j = i then x else G j) := by
  intro j hj
  rw [World.frozen?_setCell]
  refine ⟨?_, (h j hj).2⟩
  by_cases e : j = i
  · subst e
    dsimp only
    rw [if_pos rfl]; exact cell_set_eq _ _ _ _ _ (h j hj).1
  · dsimp only
    rw [if_neg e, cell_set_ne _ _ _ _ _ _ (by omega)]; exact (h j hj).1
theorem Cells.other {w : World} {blk n : Nat} {k : IntKind} {G : Nat → Int} (h : Cells w blk n k G) (b i : Nat) (v : Value) (hb : b ≠ blk) : Cells (w.setCell ⟨b, i, none⟩ v) blk n k G := by
  intro j hj
  rw [World.frozen?_setCell, cell_set_ne _ _ _ _ _ _ (by omega)]
  exact h j hj
theorem Cells.below {w w' : World} {blk n B : Nat} {k : IntKind} {G : Nat → Int} (h : Cells w blk n k G) (hb : Below B w w') (hB : w.heap.size ≤ B) : Cells w' blk n k G := by
  intro j hj
  have h1 := h j hj
  have h2 := World.block_lt_of_cell? w _ h1.1
  rw [hb.cell (p := ⟨blk, j, none⟩) (Nat.lt_of_lt_of_le h2 hB), hb.frozen (p := ⟨blk, j, none⟩) (Nat.lt_of_lt_of_le h2 hB)]
  exact h1
theorem Cells.congr {w : World} {blk n : Nat} {k : IntKind} {G G' : Nat → Int} (h : Cells w blk n k G) (e : ∀ i, i < n → G i = G' i) : Cells w blk n k G' := fun i hi => by
  rw [← e i hi]; exact h i hi
theorem Cells.made {w : World} {base e g n cap : Nat} {k : IntKind} (h : w.ownsRow base e 1 (.slice (some ⟨g, 0, none⟩) n cap) n (madeCells (Value.int k 0).cells (n * 1)).toList) : Cells w g n k (fun _ => 0) :=
  fun i hi => ⟨made_cell rfl h i hi, own_free h i⟩
theorem Cells.drewN {w : World} {blk n : Nat} {k : IntKind} {G : Nat → Int} (h : Cells w blk n k G) (m : Nat) : Cells (w.drewN m) blk n k G := h

/-- The first loop: the identity is laid. -/
def Lay1 (w wr : World) (ab n k : Nat) : Prop := k ≤ n ∧ Below w.heap.size w wr ∧ w.heap.size ≤ ab ∧ ab < wr.heap.size ∧ ∃ G, Cells wr ab n .i64 G ∧ ∀ i, i < k → G i = (i : Int)

/-- The second loop: some permutation lies there. -/
def Lay2 (w wr : World) (ab n : Nat) : Prop := Below w.heap.size w wr ∧ w.heap.size ≤ ab ∧ ab < wr.heap.size ∧ ∃ A B, Perm n A B ∧ Cells wr ab n .i64 (fun i => (A i : Int))

/-- The fourth loop: the positions of the first k. -/
def Lay4 (w wr : World) (ab pb n : Nat) (A B : Nat → Nat) (k : Nat) : Prop := k ≤ n ∧ Below w.heap.size w wr ∧ w.heap.size ≤ ab ∧ ab < pb ∧ pb < wr.heap.size ∧ Cells wr ab n .i64 (fun i => (A i : Int)) ∧ ∃ G, Cells wr pb n .i64 G ∧ ∀ x, x < n → B x < k → G x = (B x : Int)

/-- The fifth loop: rows and columns of the first k. -/
def Lay5 (w wr : World) (ab pb rb cb n wd : Nat) (A B : Nat → Nat) (k : Nat) : Prop := k ≤ n ∧ Below w.heap.size w wr ∧ w.heap.size ≤ ab ∧ ab < pb ∧ pb < rb ∧ rb < cb ∧ Cells wr ab n .i64 (fun i => (A i : Int)) ∧ Cells wr pb n .i64 (fun x => (B x : Int)) ∧
  (∃ R, Cells wr rb n .i32 R ∧ ∀ x, x < k → R x = ((B x / wd : Nat) : Int)) ∧ ∃ C, Cells wr cb n .i32 C ∧ ∀ x, x < k → C x = ((B x % wd : Nat) : Int)

/-- The layout as it lies at the end. -/
structure Lay (w : World) (ab rb cb n wd : Nat) (A B : Nat → Nat) : Prop where
  at_ : Cells w ab n .i64 (fun i => (A i : Int))
  rows : Cells w rb n .i32 (fun x => ((B x / wd : Nat) : Int))
  cols : Cells w cb n .i32 (fun x => ((B x % wd : Nat) : Int))
  perm : Perm n A B
  wpos : 0 < n → 1 ≤ wd
  wsq : wd * wd ≤ n

theorem Lay.below {w w' : World} {ab rb cb n wd : Nat} {A B : Nat → Nat} (h : Lay w ab rb cb n wd A B) (hb : Below w.heap.size w w') : Lay w' ab rb cb n wd A B :=
  ⟨h.at_.below hb (Nat.le_refl _), h.rows.below hb (Nat.le_refl _), h.cols.below hb (Nat.le_refl _), h.perm, h.wpos, h.wsq⟩

theorem Lay1.start {w w1 : World} {n cap : Nat} (own : w1.ownsRow w.heap.size 3 1 (.slice (some ⟨w.heap.size, 0, none⟩) n cap) n (madeCells (Value.int .i64 0).cells (n * 1)).toList) (grow : w.grownBy w1 none) : Lay1 w w1 w.heap.size n 0 :=
  ⟨Nat.zero_le _, (Below.refl _ _).grown grow (Nat.le_refl _) (fun k e => by cases e), Nat.le_refl _, (own.lt _ rfl).2, _, Cells.made own, fun i hi => by omega⟩
theorem Lay1.next {w wr : World} {ab n k : Nat} (h : Lay1 w wr ab n k) (hk : k < n) : Lay1 w (wr.setCell ⟨ab, k, none⟩ (.int .i64 (k : Int))) ab n (k + 1) := by
  obtain ⟨h1, h2, h3, h4, G, h5, h6⟩ := h
  refine ⟨hk, h2.setCell (p := ⟨ab, k, none⟩) h3 _, h3, by simpa using h4, _, h5.set k _, fun i hi => ?_⟩
  by_cases e : i = k
  · subst e; simp
  · simp only [e, if_false]; exact h6 i (by omega)
theorem Lay1.slot {w wr : World} {ab n k : Nat} (h : Lay1 w wr ab n k) (hk : k < n) : (∃ x, wr.cell? ⟨ab, k, none⟩ = some (.int .i64 x)) ∧ wr.frozen? ⟨ab, k, none⟩ = false := by
  obtain ⟨h1, h2, h3, h4, G, h5, h6⟩ := h
  exact ⟨⟨_, (h5 k hk).1⟩, (h5 k hk).2⟩
theorem Lay1.fin {w wr : World} {ab n : Nat} (h : Lay1 w wr ab n n) : Lay2 w wr ab n := by
  obtain ⟨h1, h2, h3, h4, G, h5, h6⟩ := h
  exact ⟨h2, h3, h4, _, _, Perm.id n, h5.congr h6⟩

/-- One exchange. -/
theorem Lay2.next {w wr : World} {ab n a b : Nat} {A B : Nat → Nat} (h2 : Below w.heap.size w wr) (h3 : w.heap.size ≤ ab) (h4 : ab < wr.heap.size) (hp : Perm n A B) (hc : Cells wr ab n .i64 (fun i => (A i : Int))) (ha : a < n) (hb : b < n) :
    Lay2 w ((wr.setCell ⟨ab, a, none⟩ (.int .i64 (A b : Int))).setCell ⟨ab, b, none⟩ (.int .i64 (A a : Int))) ab n := by
  obtain ⟨B', hp'⟩ := hp.swap ha hb
  refine ⟨(h2.setCell (p := ⟨ab, a, none⟩) h3 _).setCell (p := ⟨ab, b, none⟩) h3 _, h3, by simpa using h4, _, B', hp', ((hc.set a _).set b _).congr (fun i hi => ?_)⟩
  simp only [swp]
  by_cases e1 : i = b
  · simp [e1]
  · by_cases e2 : i = a
    · subst e2; simp [e1]
    · simp [e1, e2]

theorem Lay4.start {w wr w1 : World} {ab n cap : Nat} {A B : Nat → Nat} (h2 : Below w.heap.size w wr) (h3 : w.heap.size ≤ ab) (h4 : ab < wr.heap.size) (hc : Cells wr ab n .i64 (fun i => (A i : Int)))
    (own : w1.ownsRow w.heap.size 3 1 (.slice (some ⟨wr.heap.size, 0, none⟩) n cap) n (madeCells (Value.int .i64 0).cells (n * 1)).toList) (grow : wr.grownBy w1 none) : Lay4 w w1 ab wr.heap.size n A B 0 := by
  have hb : Below wr.heap.size wr w1 := (Below.refl _ _).grown grow (Nat.le_refl _) (fun k e => by cases e)
  exact ⟨Nat.zero_le _, h2.trans (hb.mono h2.size), h3, h4, (own.lt _ rfl).2, hc.below hb (Nat.le_refl _), _, Cells.made own, fun x _ hx => by omega⟩
theorem Lay4.next {w wr : World} {ab pb n k : Nat} {A B : Nat → Nat} (h : Lay4 w wr ab pb n A B k) (hp : Perm n A B) (hk : k < n) : Lay4 w (wr.setCell ⟨pb, A k, none⟩ (.int .i64 (k : Int))) ab pb n A B (k + 1) := by
  obtain ⟨h1, h2, h3, h4, h5, h6, G, h7, h8⟩ := h
  refine ⟨hk, h2.setCell (p := ⟨pb, A k, none⟩) (by show _ ≤ pb; omega) _, h3, h4, by simpa using h5, h6.other pb _ _ (by omega), _, h7.set (A k) _, fun x hx hxk => ?_⟩
  by_cases e : x = A k
  · subst e; simp [hp.ba k hk]
  · simp only [e, if_false]
    refine h8 x hx ?_
    have : B x ≠ k := fun e2 => e (by rw [← e2, hp.ab x hx])
    omega
theorem Lay4.fin {w wr : World} {ab pb n : Nat} {A B : Nat → Nat} (h : Lay4 w wr ab pb n A B n) (hp : Perm n A B) : Below w.heap.size w wr ∧ w.heap.size ≤ ab ∧ ab < pb ∧ pb < wr.heap.size ∧ Cells wr ab n .i64 (fun i => (A i : Int)) ∧ Cells wr pb n .i64 (fun x => (B x : Int)) := by
  obtain ⟨h1, h2, h3, h4, h5, h6, G, h7, h8⟩ := h
  exact ⟨h2, h3, h4, h5, h6, h7.congr (fun x hx => h8 x hx (hp.b x hx))⟩

theorem Lay5.start {w wr w1 w2 : World} {ab pb n wd c1 c2 : Nat} {A B : Nat → Nat} (h2 : Below w.heap.size w wr) (h3 : w.heap.size ≤ ab) (h4 : ab < pb) (h5 : pb < wr.heap.size) (hc : Cells wr ab n .i64 (fun i => (A i : Int))) (hd : Cells wr pb n .i64 (fun x => (B x : Int)))
    (own1 : w1.ownsRow w.heap.size 21 1 (.slice (some ⟨wr.heap.size, 0, none⟩) n c1) n (madeCells (Value.int .i32 0).cells (n * 1)).toList) (grow1 : wr.grownBy w1 none)
    (own2 : w2.ownsRow w.heap.size 21 1 (.slice (some ⟨w1.heap.size, 0, none⟩) n c2) n (madeCells (Value.int .i32 0).cells (n * 1)).toList) (grow2 : w1.grownBy w2 none) : Lay5 w w2 ab pb wr.heap.size w1.heap.size n wd A B 0 := by
  have hb1 : Below wr.heap.size wr w1 := (Below.refl _ _).grown grow1 (Nat.le_refl _) (fun k e => by cases e)
  have hb2 : Below w1.heap.size w1 w2 := (Below.refl _ _).grown grow2 (Nat.le_refl _) (fun k e => by cases e)
  have hb : Below wr.heap.size wr w2 := hb1.trans (hb2.mono hb1.size)
  exact ⟨Nat.zero_le _, h2.trans (hb.mono h2.size), h3, h4, h5, (own1.lt _ rfl).2, hc.below hb (Nat.le_refl _), hd.below hb (Nat.le_refl _), ⟨_, (Cells.made own1).below hb2 (Nat.le_refl _), fun x hx => by omega⟩, _, Cells.made own2, fun x hx => by omega⟩
theorem Lay5.slots {w wr : World} {ab pb rb cb n wd k : Nat} {A B : Nat → Nat} (h : Lay5 w wr ab pb rb cb n wd A B k) (hk : k < n) :
    wr.cell? ⟨pb, k, none⟩ = some (.int .i64 (B k : Int)) ∧ (∃ x, wr.cell? ⟨rb, k, none⟩ = some (.int .i32 x)) ∧ wr.frozen? ⟨rb, k, none⟩ = false ∧ (∃ x, wr.cell? ⟨cb, k, none⟩ = some (.int .i32 x)) ∧ wr.frozen? ⟨cb, k, none⟩ = false ∧ rb ≠ pb ∧ rb ≠ cb := by
  obtain ⟨h1, h2, h3, h4, h5, h6, h7, h8, ⟨R, h9, h10⟩, C, h11, h12⟩ := h
  exact ⟨(h8 k hk).1, ⟨_, (h9 k hk).1⟩, (h9 k hk).2, ⟨_, (h11 k hk).1⟩, (h11 k hk).2, by omega, by omega⟩
theorem Lay4.slots {w wr : World} {ab pb n k : Nat} {A B : Nat → Nat} (h : Lay4 w wr ab pb n A B k) (hp : Perm n A B) (hk : k < n) :
    wr.cell? ⟨ab, k, none⟩ = some (.int .i64 (A k : Int)) ∧ (∃ x, wr.cell? ⟨pb, A k, none⟩ = some (.int .i64 x)) ∧ wr.frozen? ⟨pb, A k, none⟩ = false := by
  obtain ⟨h1, h2, h3, h4, h5, h6, G, h7, h8⟩ := h
  exact ⟨(h6 k hk).1, ⟨_, (h7 _ (hp.a k hk)).1⟩, (h7 _ (hp.a k hk)).2⟩
theorem Lay5.next {w wr : World} {ab pb rb cb n wd k : Nat} {A B : Nat → Nat} {x y : Int} (h : Lay5 w wr ab pb rb cb n wd A B k) (hk : k < n) (hx : x = ((B k / wd : Nat) : Int)) (hy : y = ((B k % wd : Nat) : Int)) :
    Lay5 w ((wr.setCell ⟨rb, k, none⟩ (.int .i32 x)).setCell ⟨cb, k, none⟩ (.int .i32 y)) ab pb rb cb n wd A B (k + 1) := by
  subst hx
  subst hy
  obtain ⟨h1, h2, h3, h4, h5, h6, h7, h8, ⟨R, h9, h10⟩, C, h11, h12⟩ := h
  refine ⟨hk, (h2.setCell (p := ⟨rb, k, none⟩) (by show _ ≤ rb; omega) _).setCell (p := ⟨cb, k, none⟩) (by show _ ≤ cb; omega) _, h3, h4, h5, h6, (h7.other rb _ _ (by omega)).other cb _ _ (by omega), (h8.other rb _ _ (by omega)).other cb _ _ (by omega),
    ⟨_, (h9.set k _).other cb _ _ (by omega), fun x hx => ?_⟩, _, (h11.other rb _ _ (by omega)).set k _, fun x hx => ?_⟩
  · by_cases e : x = k
    · subst e; simp
    · simp only [e, if_false]; exact h10 x (by omega)
  · by_cases e : x = k
    · subst e; simp
    · simp only [e, if_false]; exact h12 x (by omega)
theorem Lay5.fin {w wr : World} {ab pb rb cb n wd : Nat} {A B : Nat → Nat} (h : Lay5 w wr ab pb rb cb n wd A B n) (hp : Perm n A B) (hw : 0 < n → 1 ≤ wd) (hq : wd * wd ≤ n) : Lay wr ab rb cb n wd A B ∧ Below w.heap.size w wr := by
  obtain ⟨h1, h2, h3, h4, h5, h6, h7, h8, ⟨R, h9, h10⟩, C, h11, h12⟩ := h
  exact ⟨⟨h7, h9.congr h10, h11.congr h12, hp, hw, hq⟩, h2⟩

/-- What 'buildLayout' leaves. -/
def BuildEnd (w : World) (n : Nat) (e : Ending) (w' : World) : Prop := ∃ (ab pb rb cb wd : Nat) (A B : Nat → Nat),
  e = .returned (.tuple #[.slice (some ⟨ab, 0, none⟩) n n, .slice (some ⟨pb, 0, none⟩) n n, .slice (some ⟨rb, 0, none⟩) n n, .slice (some ⟨cb, 0, none⟩) n n, .int .i64 (wd : Int)]) ∧ Lay w' ab rb cb n wd A B ∧ Below w.heap.size w w' ∧ w.heap.size ≤ ab

end Go.Proofs.Qxb6600869a
