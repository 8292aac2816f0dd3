import Derived.Test.Qxb6600869aRows
import Derived.WalkKit
import Derived.WalkSpells
import Derived.BigQuiet
import Derived.Deep.QuietTactic
import Derived.OpenShut
import Derived.Lib.SliceRun
namespace Go.Proofs.Qxb6600869a
open Go.RowKit
set_option linter.unusedVariables false
set_option linter.unusedSimpArgs false

theorem Try.info3 : (Try.prog.info? 3).map (fun i => (i.zero, i.size, i.bytes)) = some (some (.int .i64 0), 1, 8) := by kernel_rfl
theorem Try.info21 : (Try.prog.info? 21).map (fun i => (i.zero, i.size, i.bytes)) = some (some (.int .i32 0), 1, 4) := by kernel_rfl

theorem hide {p : Prop} (h : p) : Hid p := h
theorem unhide {p : Prop} (h : Hid p) : p := h
theorem ret_int {k : IntKind} {a b : Int} (h : a = b) : Ending.returned (.int k a) = .returned (.int k b) := by rw [h]

theorem ret_two {k l : IntKind} {a b c d : Int} (h : a = b) (h' : c = d) : Ending.returned (.tuple #[.int k a, .int l c]) = .returned (.tuple #[.int k b, .int l d]) := by rw [h, h']

theorem own_cell {w : World} {base e g n cap : Nat} {xs : List Value} (h : w.ownsRow base e 1 (.slice (some ⟨g, 0, none⟩) n cap) n xs) (i : Nat) (v : Value) (hv : xs[i]? = some v) : w.cell? ⟨g, i, none⟩ = some v := by
  have := h.cells (g := g) rfl i v hv
  have hadd : (⟨g, 0, none⟩ : Addr).add i = ⟨g, i, none⟩ := by unfold Addr.add; split <;> simp_all
  rw [hadd] at this
  exact this

theorem cell_set_ne (w : World) (b o b' o' : Nat) (v : Value) (h : b ≠ b' ∨ o ≠ o') : (w.setCell ⟨b, o, none⟩ v).cell? ⟨b', o', none⟩ = w.cell? ⟨b', o', none⟩ :=
  World.cell?_setCell_other _ _ _ _ (fun e => by simp only [Addr.mk.injEq] at e; omega)
theorem cell_set_eq (w : World) (b o : Nat) (v u : Value) (h : w.cell? ⟨b, o, none⟩ = some u) : (w.setCell ⟨b, o, none⟩ v).cell? ⟨b, o, none⟩ = some v :=
  World.cell?_setCell_same _ _ _ h

theorem own_drewN {w : World} {base e size : Nat} {v : Value} {n : Nat} {xs : List Value} (m : Nat) (h : w.ownsRow base e size v n xs) : (w.drewN m).ownsRow base e size v n xs := by
  obtain ⟨h1, h2⟩ := h
  exact ⟨h1, by simpa using h2⟩
theorem below_drewN {B : Nat} {w : World} (m : Nat) : Below B w (w.drewN m) := ⟨rfl, rfl, rfl, Nat.le_refl _, fun _ _ => rfl⟩

theorem below_drewN' {B : Nat} {a w : World} (n : Nat) (h : Below B a w) : Below B a (w.drewN n) := h.trans (below_drewN n)

theorem own_free {w : World} {base e g n cap : Nat} {xs : List Value} (h : w.ownsRow base e 1 (.slice (some ⟨g, 0, none⟩) n cap) n xs) (i : Nat) : w.frozen? ⟨g, i, none⟩ = false := by
  rcases h.2 with ⟨e1, _⟩ | ⟨q, cq, cur, e1, _, hh, _⟩
  · cases e1
  · cases e1
    simp only [World.frozen?]; rw [hh]; simp

theorem made_cell {w : World} {base e g n cap : Nat} {z : Value} (hz : z.cells = #[z]) (h : w.ownsRow base e 1 (.slice (some ⟨g, 0, none⟩) n cap) n (madeCells z.cells (n * 1)).toList) (i : Nat) (hi : i < n) : w.cell? ⟨g, i, none⟩ = some z := by
  refine own_cell h i z ?_
  rw [hz, toList_madeCells_one]
  simp [hi]

/-- The first k numbers of G, as cells. -/
def rowl (G : Nat → Int) (k : Nat) : List Value := (List.range k).map fun i => .int .i64 (G i)

theorem rowl_get (G : Nat → Int) (k i : Nat) (h : i < k) : (rowl G k)[i]? = some (.int .i64 (G i)) := by
  unfold rowl; simp [h]
theorem rowl_len (G : Nat → Int) (k : Nat) : (rowl G k).length = k := by simp [rowl]

theorem rowl_zeros (F : Nat → Int) (n k : Nat) : rowl F n ++ List.replicate k (Value.int .i64 0) = rowl (fun j => if j < n then F j else 0) (n + k) := by
  refine List.ext_getElem? (fun i => ?_)
  by_cases h : i < n
  · rw [List.getElem?_append_left (by rw [rowl_len]; exact h), rowl_get F n i h, rowl_get _ (n + k) i (by omega)]
    simp [h]
  · by_cases h2 : i < n + k
    · rw [List.getElem?_append_right (by rw [rowl_len]; omega), rowl_get _ (n + k) i h2, rowl_len]
      have h3 : i - n < k := by omega
      simp [h, h3]
    · rw [List.getElem?_eq_none (by rw [List.length_append, rowl_len, List.length_replicate]; omega), List.getElem?_eq_none (by rw [rowl_len]; omega)]

theorem rowl_set (G : Nat → Int) (k i : Nat) (x : Int) : (rowl G k).set i (.int .i64 x) = rowl (fun j => if j = i then x else G j) k := by
  refine List.ext_getElem? (fun j => ?_)
  by_cases h : j < k
  · rw [rowl_get _ k j h]
    by_cases e : j = i
    · subst e
      rw [List.getElem?_set_self (by rw [rowl_len]; exact h)]; simp
    · rw [List.getElem?_set_ne (fun q => e q.symm), rowl_get G k j h]; simp [e]
  · rw [List.getElem?_eq_none (by rw [List.length_set, rowl_len]; omega), List.getElem?_eq_none (by rw [rowl_len]; omega)]

theorem rowl_congr (F G : Nat → Int) (k : Nat) (h : ∀ i, i < k → F i = G i) : rowl F k = rowl G k := by
  unfold rowl
  refine List.map_congr_left (fun i hi => ?_)
  rw [h i (List.mem_range.1 hi)]

theorem own_le {w : World} {base e g n cap : Nat} {xs : List Value} (h : w.ownsRow base e 1 (.slice (some ⟨g, 0, none⟩) n cap) n xs) : n ≤ cap := by
  rcases h.2 with ⟨e1, _⟩ | ⟨q, cq, cur, e1, _, hh, hnc, _⟩
  · cases e1
  · cases e1; exact hnc

/-- WHAT THE WALK IS TOLD OF A SLICE OF INTEGERS THAT CAME IN (the guide's shell). -/
def IsRow (k : IntKind) (w : World) (a : Option Addr) (len cap : Nat) (zs : List Int) : Prop :=
  (a = none ∧ len = 0 ∧ cap = 0 ∧ zs = []) ∨
  ∃ x, a = some x ∧ len ≤ cap ∧ cap ≤ maxLen ∧ zs.length = cap ∧ (∀ i, i < zs.length → w.cell? (x.add i) = some (.int k (zs.getD i 0))) ∧ ∀ n ∈ zs, (Lit.int k n).wf = true

/-- The same, as numbers by index: nil and empty; or the elements' cells lie one behind the other. -/
def ArgAt (w : World) (a : Option Addr) (len : Nat) (F : Nat → Int) : Prop :=
  (a = none → len = 0) ∧ (0 < len → ∃ b off, a = some ⟨b, off, none⟩ ∧ ∀ i, i < len → w.cell? ⟨b, off + i, none⟩ = some (.int .i64 (F i))) ∧ ∀ i, i < len → -9223372036854775808 ≤ F i ∧ F i ≤ 9223372036854775807

theorem IsRow.arg {w : World} {a : Option Addr} {len cap : Nat} {zs : List Int} (h : IsRow .i64 w a len cap zs) : ArgAt w a len (fun i => zs.getD i 0) := by
  rcases h with ⟨rfl, rfl, rfl, rfl⟩ | ⟨x, rfl, h1, h2, h3, h4, h5⟩
  · exact ⟨fun _ => rfl, fun h => absurd h (by omega), fun i hi => absurd hi (by omega)⟩
  · refine ⟨fun h => (by cases h), fun h => ?_, fun i hi => ?_⟩
    · obtain ⟨b, off, e, hc⟩ := ints_at h4 (by omega)
      subst e
      exact ⟨b, off, rfl, fun i hi => hc i (by omega)⟩
    · have hi2 : i < zs.length := by omega
      have : zs.getD i 0 ∈ zs := by
        rw [List.getD_eq_getElem?_getD, List.getElem?_eq_getElem hi2]; exact List.getElem_mem hi2
      exact bounds_i64 (h5 _ this)

theorem IsRow.len {w : World} {a : Option Addr} {len cap : Nat} {zs : List Int} (h : IsRow .i64 w a len cap zs) : len ≤ maxLen := by
  rcases h with ⟨rfl, rfl, rfl, rfl⟩ | ⟨x, rfl, h1, h2, h3, h4, h5⟩
  · exact Nat.zero_le _
  · omega

theorem ArgAt.below {w w' : World} {a : Option Addr} {len : Nat} {F : Nat → Int} (h : ArgAt w a len F) (hb : Below w.heap.size w w') : ArgAt w' a len F := by
  refine ⟨h.1, fun hl => ?_, h.2.2⟩
  obtain ⟨b, off, e, hc⟩ := h.2.1 hl
  refine ⟨b, off, e, fun i hi => ?_⟩
  have h1 := hc i hi
  rw [hb.cell (p := ⟨b, off + i, none⟩) (World.block_lt_of_cell? w _ h1)]
  exact h1

/-- A yes or a no. -/
def AnyBool (e : Ending) : Prop := ∃ r : Bool, e = .returned (.bool r)
theorem AnyBool.mk (r : Bool) : AnyBool (.returned (.bool r)) := ⟨r, rfl⟩

theorem made_row {w : World} {base g n cap : Nat} (h : w.ownsRow base 3 1 (.slice (some ⟨g, 0, none⟩) n cap) n (madeCells (Value.int .i64 0).cells (n * 1)).toList) : w.ownsRow base 3 1 (.slice (some ⟨g, 0, none⟩) n cap) n (List.replicate n (.int .i64 0)) := by
  have e : (madeCells (Value.int .i64 0).cells (n * 1)).toList = List.replicate n (.int .i64 0) := by
    rw [Nat.mul_one]; exact toList_madeCells_one _ _
  rw [e] at h; exact h

/-- What a clone is: a slice of the call's own, of the same numbers. -/
def CloneEnd (w : World) (len : Nat) (F : Nat → Int) (e : Ending) (w' : World) : Prop :=
  ∃ pa cp, e = .returned (.slice pa len cp) ∧ w'.ownsRow w.heap.size 3 1 (.slice pa len cp) len (rowl F len) ∧ Below w.heap.size w w'

theorem CloneEnd.nil (w : World) (F : Nat → Int) : CloneEnd w 0 F (.returned (.slice none 0 0)) w := ⟨none, 0, rfl, World.ownsRow_nil _ _ _ _, Below.refl _ _⟩

/-- At round k of a clone's loop: the first k numbers are there, behind them noughts. -/
def CloneRel (w wr : World) (gb len cp : Nat) (F : Nat → Int) (k : Nat) : Prop :=
  k ≤ len ∧ Below w.heap.size w wr ∧ w.heap.size ≤ gb ∧ ∃ G, wr.ownsRow w.heap.size 3 1 (.slice (some ⟨gb, 0, none⟩) len cp) len (rowl G len) ∧ ∀ i, i < k → G i = F i

theorem CloneRel.start {w w1 : World} {len cp : Nat} {F : Nat → Int} (own : w1.ownsRow w.heap.size 3 1 (.slice (some ⟨w.heap.size, 0, none⟩) len cp) len (List.replicate len (.int .i64 0))) (grow : w.grownBy w1 none) : CloneRel w w1 w.heap.size len cp F 0 := by
  refine ⟨Nat.zero_le _, (Below.refl _ _).grown grow (Nat.le_refl _) (fun k e => by cases e), Nat.le_refl _, fun _ => 0, ?_, fun i hi => by omega⟩
  have h := rowl_zeros F 0 len
  simp only [Nat.zero_add, Nat.not_lt_zero, if_false] at h
  have e : rowl F 0 = [] := rfl
  rw [e, List.nil_append] at h
  rw [← h]; exact own

theorem CloneRel.next {w wr : World} {gb len cp : Nat} {F : Nat → Int} {k : Nat} (h : CloneRel w wr gb len cp F k) (hk : k < len) : CloneRel w (wr.setCell ⟨gb, k, none⟩ (.int .i64 (F k))) gb len cp F (k + 1) := by
  obtain ⟨h1, h2, h3, G, h4, h5⟩ := h
  refine ⟨hk, h2.setCell (p := ⟨gb, k, none⟩) h3 _, h3, fun j => if j = k then F k else G j, ?_, fun i hi => ?_⟩
  · rw [← rowl_set]; exact (h4.stored k _).1
  · by_cases e : i = k
    · subst e; simp
    · simp only [e, if_false]; exact h5 i (by omega)

theorem CloneRel.fin {w wr : World} {gb len cp : Nat} {F : Nat → Int} (h : CloneRel w wr gb len cp F len) : CloneEnd w len F (.returned (.slice (some ⟨gb, 0, none⟩) len cp)) wr := by
  obtain ⟨h1, h2, h3, G, h4, h5⟩ := h
  exact ⟨_, _, rfl, by rw [← rowl_congr G F len h5]; exact h4, h2⟩

theorem CloneRel.slot {w wr : World} {gb len cp : Nat} {F : Nat → Int} {k : Nat} (h : CloneRel w wr gb len cp F k) (hk : k < len) : (∃ x, wr.cell? ⟨gb, k, none⟩ = some (.int .i64 x)) ∧ wr.frozen? ⟨gb, k, none⟩ = false := by
  obtain ⟨h1, h2, h3, G, h4, h5⟩ := h
  exact ⟨⟨_, own_cell h4 k _ (rowl_get G len k hk)⟩, own_free h4 k⟩

set_option maxHeartbeats 1000000 in
theorem clone_any (w : World) (a : Option Addr) (len cap : Nat) (F : Nat → Int) (h : ArgAt w a len F) (hl : len ≤ 70000) :
    Calls Try.prog 9 #[.slice a len cap] w fun e w' => CloneEnd w len F e w' := by
  obtain ⟨i0, hi0, hz0, hz1, hz2⟩ := info_parts Try.info3
  have hnil := fun wx => Lib.run_eql_slice_nil (P := Try.prog) wx 22 3 a len cap 0 0 Try.underlying22
  cases a with
  | none =>
    obtain rfl : len = 0 := h.1 rfl
    have hfin := hide (CloneEnd.nil w F)
    clear h
    simp only [Option.isNone_none] at hnil
    go_enter Try.func9, Try.ntmps9
    go_wp2_with fail
    go_ret
    exact unhide hfin
  | some x =>
    simp only [Option.isNone_some] at hnil
    have HA := hide h
    clear h
    go_enter Try.func9, Try.ntmps9
    go_wp2_with (at_make; refine wpList_make_full _ rfl (.tmp 8) (.tmp 8) 22 rfl w.heap.size 3 i0 (.int .i64 0) 1 Try.underlying22 hi0 hz0 hz1 .i64 .i64 _ _ len rfl rfl rfl rfl (by rw [hz2]; omega) (by unfold maxLen; omega) (Nat.le_refl _) ?_; intro w1 own1 grow1; have HC := hide (CloneRel.start (F := F) (made_row own1) grow1); clear own1 grow1)
    go_loopw [4] (fun kv wr => ∃ k : Nat, kv = .int .i64 (k : Int) ∧ CloneRel w wr w.heap.size len len F k) (fun kv _ => len - (intOf kv).toNat)
    case atStart => exact ⟨0, rfl, unhide HC⟩
    case round =>
      obtain ⟨k, rfl, hrel⟩ := hrel
      have HR := hide hrel
      have hk := hrel.1
      have hbel := hide hrel.2.1
      clear hrel
      by_cases hkn : k < len
      · obtain ⟨b, off, e, hc⟩ := (unhide HA).2.1 (by omega)
        simp only [Option.some.injEq] at e
        subst e
        have hck := hc k hkn
        have hcr : wr.cell? ⟨b, off + k, none⟩ = some (.int .i64 (F k)) := ((unhide hbel).cell (p := ⟨b, off + k, none⟩) (World.block_lt_of_cell? w _ hck)).trans hck
        obtain ⟨⟨x, hx⟩, hfx⟩ := (unhide HR).slot hkn
        clear hc hck
        go_wp2_with fail
        go_roundw
        case rel => first | exact ⟨k + 1, by go_num, (unhide HR).next hkn⟩ | ((repeat apply Exists.intro); refine ⟨?_, rfl⟩; exact ⟨k + 1, by go_num, (unhide HR).next hkn⟩)
        case measure => simp [intOf]; omega
      · obtain rfl : len = k := by omega
        have hfin := hide (unhide HR).fin
        go_wp2_with fail
        go_ret
        exact unhide hfin

end Go.Proofs.Qxb6600869a
