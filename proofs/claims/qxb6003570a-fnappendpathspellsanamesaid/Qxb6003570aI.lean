import Derived.Test.Qxb6003570aH
import Derived.OpenShut
import Derived.Lib.SliceRun
namespace Go.Proofs.Qxb6003570a
open Go.RowKit
set_option linter.unusedVariables false
set_option linter.unusedSimpArgs false
open Pl (fan wid sta Pos has fr mm Valid idx Right Done Turn)

/-- WHAT THE WALK IS TOLD OF A SLICE OF INTEGERS THAT CAME IN (the guide's shell). -/
def IsRow (k : IntKind) (w : World) (a : Option Addr) (len cap : Nat) (zs : List Int) : Prop :=
  (a = none ∧ len = 0 ∧ cap = 0 ∧ zs = []) ∨
  ∃ x, a = some x ∧ len ≤ cap ∧ cap ≤ maxLen ∧ zs.length = cap ∧ (∀ i, i < zs.length → w.cell? (x.add i) = some (.int k (zs.getD i 0))) ∧ ∀ n ∈ zs, (Lit.int k n).wf = true

/-- The same, as numbers by index: nil and empty; or the elements' cells lie one behind the other. -/
def ArgAt (w : World) (a : Option Addr) (len : Nat) (F : Nat → Int) : Prop :=
  (a = none → len = 0) ∧ (0 < len → ∃ b off, a = some ⟨b, off, none⟩ ∧ ∀ i, i < len → w.cell? ⟨b, off + i, none⟩ = some (.int .i64 (F i))) ∧ ∀ i, i < len → -9223372036854775808 ≤ F i ∧ F i ≤ 9223372036854775807

theorem IsRow.arg {w : World} {a : Option Addr} {len cap : Nat} {zs : List Int} (h : IsRow .i64 w a len cap zs) : ArgAt w a len (fun i => zs.getD i 0) := by
  rcases h with ⟨rfl, rfl, rfl, rfl⟩ | ⟨x, rfl, h1, h2, h3, h4, h5⟩
  · exact ⟨fun _ => rfl, fun h => absurd h (by omega), fun i hi => absurd hi (by omega)⟩
  · refine ⟨fun h => (by cases h), fun h => ?_, fun i hi => ?_⟩
    · obtain ⟨b, off, e, hc⟩ := ints_at h4 (by omega)
      subst e
      exact ⟨b, off, rfl, fun i hi => hc i (by omega)⟩
    · have hi2 : i < zs.length := by omega
      have : zs.getD i 0 ∈ zs := by
        rw [List.getD_eq_getElem?_getD, List.getElem?_eq_getElem hi2]; exact List.getElem_mem hi2
      exact bounds_i64 (h5 _ this)

theorem IsRow.len {w : World} {a : Option Addr} {len cap : Nat} {zs : List Int} (h : IsRow .i64 w a len cap zs) : len ≤ maxLen := by
  rcases h with ⟨rfl, rfl, rfl, rfl⟩ | ⟨x, rfl, h1, h2, h3, h4, h5⟩
  · exact Nat.zero_le _
  · omega

theorem ArgAt.below {w w' : World} {a : Option Addr} {len : Nat} {F : Nat → Int} (h : ArgAt w a len F) (hb : Below w.heap.size w w') : ArgAt w' a len F := by
  refine ⟨h.1, fun hl => ?_, h.2.2⟩
  obtain ⟨b, off, e, hc⟩ := h.2.1 hl
  refine ⟨b, off, e, fun i hi => ?_⟩
  have h1 := hc i hi
  rw [hb.cell (p := ⟨b, off + i, none⟩) (World.block_lt_of_cell? w _ h1)]
  exact h1

/-- A yes or a no. -/
def AnyBool (e : Ending) : Prop := ∃ r : Bool, e = .returned (.bool r)
theorem AnyBool.mk (r : Bool) : AnyBool (.returned (.bool r)) := ⟨r, rfl⟩

set_option maxHeartbeats 1000000 in
theorem bytes21 (w : World) (x0 x1 x2 : Int) (x3 : Bool) (p q : Option Addr) (l1 c1 l2 c2 : Nat) (h1 : l1 ≤ maxLen) (h2 : l2 ≤ maxLen) :
    Calls Try.prog 21 #[.int .i64 x0, .int .i64 x1, .int .i64 x2, .bool x3, .slice p l1 c1, .slice q l2 c2] w fun e w' => AnyBool e ∧ w' = w := by
  unfold maxLen at h1 h2
  go_enter Try.func21, Try.ntmps21
  go_wp2
  all_goals (go_ret; exact ⟨AnyBool.mk _, rfl⟩)

set_option maxHeartbeats 1000000 in
theorem bytes19 (w : World) (x0 x1 x2 : Int) (x3 : Bool) (p : Option Addr) (l1 c1 : Nat) (h1 : l1 ≤ maxLen) :
    Calls Try.prog 19 #[.int .i64 x0, .int .i64 x1, .int .i64 x2, .bool x3, .slice p l1 c1] w fun e w' => AnyBool e ∧ w' = w := by
  unfold maxLen at h1
  go_enter Try.func19, Try.ntmps19
  go_wp2
  all_goals (go_ret; exact ⟨AnyBool.mk _, rfl⟩)

set_option maxHeartbeats 1000000 in
theorem bytes14 (w : World) (x0 x1 x2 : Int) (x3 : Bool) (p : Option Addr) (l1 c1 : Nat) (x5 : Int) (h1 : l1 ≤ maxLen) :
    Calls Try.prog 14 #[.int .i64 x0, .int .i64 x1, .int .i64 x2, .bool x3, .slice p l1 c1, .int .i64 x5] w fun e w' => AnyBool e ∧ w' = w := by
  unfold maxLen at h1
  go_enter Try.func14, Try.ntmps14
  go_wp2
  all_goals (go_ret; exact ⟨AnyBool.mk _, rfl⟩)

theorem made_row {w : World} {base g n cap : Nat} (h : w.ownsRow base 3 1 (.slice (some ⟨g, 0, none⟩) n cap) n (madeCells (Value.int .i64 0).cells (n * 1)).toList) : w.ownsRow base 3 1 (.slice (some ⟨g, 0, none⟩) n cap) n (List.replicate n (.int .i64 0)) := by
  have e : (madeCells (Value.int .i64 0).cells (n * 1)).toList = List.replicate n (.int .i64 0) := by
    rw [Nat.mul_one]; exact toList_madeCells_one _ _
  rw [e] at h; exact h

/-- What a clone is: a slice of the call's own, of the same numbers. -/
def CloneEnd (w : World) (len : Nat) (F : Nat → Int) (e : Ending) (w' : World) : Prop :=
  ∃ pa cp, e = .returned (.slice pa len cp) ∧ w'.ownsRow w.heap.size 3 1 (.slice pa len cp) len (rowl F len) ∧ Below w.heap.size w w'

theorem CloneEnd.nil (w : World) (F : Nat → Int) : CloneEnd w 0 F (.returned (.slice none 0 0)) w := ⟨none, 0, rfl, World.ownsRow_nil _ _ _ _, Below.refl _ _⟩

/-- At round k of a clone's loop: the first k numbers are there, behind them noughts. -/
def CloneRel (w wr : World) (gb len cp : Nat) (F : Nat → Int) (k : Nat) : Prop :=
  k ≤ len ∧ Below w.heap.size w wr ∧ w.heap.size ≤ gb ∧ ∃ G, wr.ownsRow w.heap.size 3 1 (.slice (some ⟨gb, 0, none⟩) len cp) len (rowl G len) ∧ ∀ i, i < k → G i = F i

theorem CloneRel.start {w w1 : World} {len cp : Nat} {F : Nat → Int} (own : w1.ownsRow w.heap.size 3 1 (.slice (some ⟨w.heap.size, 0, none⟩) len cp) len (List.replicate len (.int .i64 0))) (grow : w.grownBy w1 none) : CloneRel w w1 w.heap.size len cp F 0 := by
  refine ⟨Nat.zero_le _, (Below.refl _ _).grown grow (Nat.le_refl _) (fun k e => by cases e), Nat.le_refl _, fun _ => 0, ?_, fun i hi => by omega⟩
  have h := rowl_zeros F 0 len
  simp only [Nat.zero_add, Nat.not_lt_zero, if_false] at h
  have e : rowl F 0 = [] := rfl
  rw [e, List.nil_append] at h
  rw [← h]; exact own

theorem CloneRel.next {w wr : World} {gb len cp : Nat} {F : Nat → Int} {k : Nat} (h : CloneRel w wr gb len cp F k) (hk : k < len) : CloneRel w (wr.setCell ⟨gb, k, none⟩ (.int .i64 (F k))) gb len cp F (k + 1) := by
  obtain ⟨h1, h2, h3, G, h4, h5⟩ := h
  refine ⟨hk, h2.setCell (p := ⟨gb, k, none⟩) h3 _, h3, fun j => if j = k then F k else G j, ?_, fun i hi => ?_⟩
  · rw [← rowl_set]; exact (h4.stored k _).1
  · by_cases e : i = k
    · subst e; simp
    · simp only [e, if_false]; exact h5 i (by omega)

theorem CloneRel.fin {w wr : World} {gb len cp : Nat} {F : Nat → Int} (h : CloneRel w wr gb len cp F len) : CloneEnd w len F (.returned (.slice (some ⟨gb, 0, none⟩) len cp)) wr := by
  obtain ⟨h1, h2, h3, G, h4, h5⟩ := h
  exact ⟨_, _, rfl, by rw [← rowl_congr G F len h5]; exact h4, h2⟩

theorem CloneRel.slot {w wr : World} {gb len cp : Nat} {F : Nat → Int} {k : Nat} (h : CloneRel w wr gb len cp F k) (hk : k < len) : (∃ x, wr.cell? ⟨gb, k, none⟩ = some (.int .i64 x)) ∧ wr.frozen? ⟨gb, k, none⟩ = false := by
  obtain ⟨h1, h2, h3, G, h4, h5⟩ := h
  exact ⟨⟨_, own_cell h4 k _ (rowl_get G len k hk)⟩, own_free h4 k⟩

set_option maxHeartbeats 1000000 in
theorem clone_any (w : World) (a : Option Addr) (len cap : Nat) (F : Nat → Int) (h : ArgAt w a len F) (hl : len ≤ 70000) :
    Calls Try.prog 15 #[.slice a len cap] w fun e w' => CloneEnd w len F e w' := by
  obtain ⟨i0, hi0, hz0, hz1, hz2⟩ := info_parts Try.info3
  have hnil := fun wx => Lib.run_eql_slice_nil (P := Try.prog) wx 26 3 a len cap 0 0 Try.underlying26
  cases a with
  | none =>
    obtain rfl : len = 0 := h.1 rfl
    have hfin := hide (CloneEnd.nil w F)
    clear h
    simp only [Option.isNone_none] at hnil
    go_enter Try.func15, Try.ntmps15
    go_wp2_with fail
    go_ret
    exact unhide hfin
  | some x =>
    simp only [Option.isNone_some] at hnil
    have HA := hide h
    clear h
    go_enter Try.func15, Try.ntmps15
    go_wp2_with (at_make; refine wpList_make_full _ rfl (.tmp 8) (.tmp 8) 26 rfl w.heap.size 3 i0 (.int .i64 0) 1 Try.underlying26 hi0 hz0 hz1 .i64 .i64 _ _ len rfl rfl rfl rfl (by rw [hz2]; omega) (by unfold maxLen; omega) (Nat.le_refl _) ?_; intro w1 own1 grow1; have HC := hide (CloneRel.start (F := F) (made_row own1) grow1); clear own1 grow1)
    go_loopw [4] (fun kv wr => ∃ k : Nat, kv = .int .i64 (k : Int) ∧ CloneRel w wr w.heap.size len len F k) (fun kv _ => len - (intOf kv).toNat)
    case atStart => exact ⟨0, rfl, unhide HC⟩
    case round =>
      obtain ⟨k, rfl, hrel⟩ := hrel
      have HR := hide hrel
      have hk := hrel.1
      have hbel := hide hrel.2.1
      clear hrel
      by_cases hkn : k < len
      · obtain ⟨b, off, e, hc⟩ := (unhide HA).2.1 (by omega)
        simp only [Option.some.injEq] at e
        subst e
        have hck := hc k hkn
        have hcr : wr.cell? ⟨b, off + k, none⟩ = some (.int .i64 (F k)) := ((unhide hbel).cell (p := ⟨b, off + k, none⟩) (World.block_lt_of_cell? w _ hck)).trans hck
        obtain ⟨⟨x, hx⟩, hfx⟩ := (unhide HR).slot hkn
        clear hc hck
        go_wp2_with fail
        go_roundw
        case rel => first | exact ⟨k + 1, by go_num, (unhide HR).next hkn⟩ | ((repeat apply Exists.intro); refine ⟨?_, rfl⟩; exact ⟨k + 1, by go_num, (unhide HR).next hkn⟩)
        case measure => simp [intOf]; omega
      · obtain rfl : len = k := by omega
        have hfin := hide (unhide HR).fin
        go_wp2_with fail
        go_ret
        exact unhide hfin

end Go.Proofs.Qxb6003570a
