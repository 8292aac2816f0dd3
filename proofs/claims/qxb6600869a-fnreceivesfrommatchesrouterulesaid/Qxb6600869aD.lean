import Derived.Test.Qxb6600869aC
namespace Go.Proofs.Qxb6600869a
open Go.RowKit
set_option linter.unusedVariables false
set_option linter.unusedSimpArgs false
open Pl (Perm swp)

set_option maxHeartbeats 2000000 in
theorem bytes7 (w : World) (x0 x2 x3 : Int) (p q : Option Addr) (l1 c1 l2 c2 : Nat) (h1 : l1 ≤ maxLen) (h2 : l2 ≤ maxLen) :
    Calls Try.prog 7 #[.int .i64 x0, .slice p l1 c1, .int .i64 x2, .int .i64 x3, .slice q l2 c2] w fun e w' => AnyBool e ∧ w' = w := by
  unfold maxLen at h1 h2
  go_enter Try.func7, Try.ntmps7
  go_wp2
  all_goals (go_ret; exact ⟨AnyBool.mk _, rfl⟩)

set_option maxHeartbeats 2000000 in
theorem bytes15 (w : World) (x0 x3 x4 x5 x6 : Int) (p q r : Option Addr) (l1 c1 l2 c2 l3 c3 : Nat) (h1 : l1 ≤ maxLen) (h2 : l2 ≤ maxLen) (h3 : l3 ≤ maxLen) :
    Calls Try.prog 15 #[.int .i64 x0, .slice p l1 c1, .slice q l2 c2, .int .i64 x3, .int .i64 x4, .int .i64 x5, .int .i64 x6, .slice r l3 c3] w fun e w' => AnyBool e ∧ w' = w := by
  unfold maxLen at h1 h2 h3
  go_enter Try.func15, Try.ntmps15
  go_wp2
  all_goals (go_ret; exact ⟨AnyBool.mk _, rfl⟩)

/-- Does q stand among the first m numbers of F? -/
def hasI (F : Nat → Int) : Nat → Int → Bool
  | 0, _ => false
  | m + 1, q => hasI F m q || F m == q

theorem hasI_true (F : Nat → Int) (q : Int) : ∀ m, hasI F m q = true ↔ ∃ i, i < m ∧ F i = q
  | 0 => by simp [hasI]
  | m + 1 => by
    have h := hasI_true F q m
    simp only [hasI, Bool.or_eq_true, beq_iff_eq]
    rw [h]
    constructor
    · rintro (⟨i, h1, h2⟩ | h1)
      · exact ⟨i, by omega, h2⟩
      · exact ⟨m, by omega, h1⟩
    · rintro ⟨i, h1, h2⟩
      by_cases e : i = m
      · subst e; exact Or.inr h2
      · exact Or.inl ⟨i, by omega, h2⟩

/-- What 'slices.Index' answers: a place that is not negative just where there is one. -/
def IdxEnd (F : Nat → Int) (len : Nat) (q : Int) (e : Ending) : Prop := ∃ x : Int, e = .returned (.int .i64 x) ∧ decide (0 ≤ x) = hasI F len q
theorem IdxEnd.no {F : Nat → Int} {len : Nat} {q : Int} (h : hasI F len q = false) : IdxEnd F len q (.returned (.int .i64 (-1))) := ⟨-1, rfl, by rw [h]; rfl⟩
theorem IdxEnd.yes {F : Nat → Int} {len : Nat} {q : Int} {k : Nat} (hk : k < len) (h : F k = q) : IdxEnd F len q (.returned (.int .i64 (k : Int))) :=
  ⟨k, rfl, by rw [(hasI_true F q len).2 ⟨k, hk, h⟩]; exact decide_eq_true (by omega)⟩

set_option maxHeartbeats 1000000 in
theorem index_any (w : World) (a : Option Addr) (len c : Nat) (q : Int) (F : Nat → Int) (h : ArgAt w a len F) (hm : len ≤ 1000000) :
    Calls Try.prog 24 #[.slice a len c, .int .i64 q] w fun e w' => IdxEnd F len q e ∧ w' = w := by
  have HC := hide h
  clear h
  go_enter Try.func24, Try.ntmps24
  go_wp2_with fail
  go_loop [4, 5, 8] (fun r s5 i => ∃ k : Nat, k ≤ len ∧ i = .int .i64 (k : Int) ∧ hasI F k q = false) (fun _ _ i => len - (intOf i).toNat)
  case atStart => exact ⟨0, Nat.zero_le _, rfl, rfl⟩
  case round =>
    obtain ⟨k, hk, rfl, hno⟩ := hrel
    have HNO := hide hno
    clear hno
    by_cases hlt : k < len
    · obtain ⟨b, off, e, hc⟩ := (unhide HC).2.1 (by omega)
      subst e
      have hcell := hc k hlt
      clear hc
      cases hq : q == F k
      · have hnx : Hid (hasI F (k + 1) q = false) := by
          have h2 : (F k == q) = false := by rw [beq_eq_false_iff_ne] at hq ⊢; exact fun e => hq e.symm
          show _ = _
          simp [hasI, unhide HNO, h2]
        go_wp2_with fail
        go_round
        case rel => first | exact ⟨k + 1, by omega, by go_num, unhide hnx⟩ | (refine ⟨trivial, ?_⟩; (repeat apply Exists.intro); refine ⟨?_, rfl⟩; exact ⟨k + 1, by omega, by go_num, unhide hnx⟩)
        case measure => simp [intOf]; omega
      · have hfin := hide (IdxEnd.yes (F := F) (q := q) hlt (by rw [beq_iff_eq] at hq; exact hq.symm))
        go_wp2_with fail
        go_ret
        exact ⟨unhide hfin, rfl⟩
    · have hfin : Hid (IdxEnd F len q (.returned (.int .i64 (-1)))) := IdxEnd.no (by have e : len = k := by omega
                                                                                     rw [e]; exact unhide HNO)
      go_wp2_with fail
      go_ret
      exact ⟨unhide hfin, rfl⟩

set_option maxHeartbeats 1000000 in
theorem contains_any (w : World) (a : Option Addr) (len c : Nat) (q : Int) (F : Nat → Int) (h : ArgAt w a len F) (hm : len ≤ 1000000) :
    Calls Try.prog 21 #[.slice a len c, .int .i64 q] w fun e w' => e = .returned (.bool (hasI F len q)) ∧ w' = w := by
  go_enter Try.func21, Try.ntmps21
  go_wp2_with fail
  refine (index_any w a len c q F h hm).mono ?_
  rintro e w' ⟨⟨x, rfl, hx⟩, rfl⟩
  have HX := hide hx
  clear hx h
  go_wp2_with fail
  go_ret
  exact ⟨by rw [← unhide HX]; rfl, rfl⟩

set_option maxHeartbeats 1000000 in
theorem hasInt_any (w : World) (a : Option Addr) (len c : Nat) (q : Int) (F : Nat → Int) (h : ArgAt w a len F) (hm : len ≤ 1000000) :
    Calls Try.prog 12 #[.slice a len c, .int .i64 q] w fun e w' => e = .returned (.bool (hasI F len q)) ∧ w' = w := by
  have HC := hide h
  clear h
  go_enter Try.func12, Try.ntmps12
  go_wp2_with fail
  go_loop [5] (fun i => ∃ k : Nat, k ≤ len ∧ i = .int .i64 (k : Int) ∧ hasI F k q = false) (fun i => len - (intOf i).toNat)
  case atStart => exact ⟨0, Nat.zero_le _, rfl, rfl⟩
  case round =>
    obtain ⟨k, hk, rfl, hno⟩ := hrel
    have HNO := hide hno
    clear hno
    by_cases hlt : k < len
    · obtain ⟨b, off, e, hc⟩ := (unhide HC).2.1 (by omega)
      subst e
      have hcell := hc k hlt
      clear hc
      cases hq : F k == q
      · have hnx : Hid (hasI F (k + 1) q = false) := by show _ = _; simp [hasI, unhide HNO, hq]
        go_wp2_with fail
        go_round
        case rel => first | exact ⟨k + 1, by omega, by go_num, unhide hnx⟩ | (refine ⟨trivial, ?_⟩; (repeat apply Exists.intro); refine ⟨?_, rfl⟩; exact ⟨k + 1, by omega, by go_num, unhide hnx⟩)
        case measure => simp [intOf]; omega
      · have hfin : Hid (hasI F len q = true) := (hasI_true F q len).2 ⟨k, hlt, by simpa using hq⟩
        go_wp2_with fail
        go_ret
        exact ⟨by rw [unhide hfin]; rfl, rfl⟩
    · have hfin : Hid (hasI F len q = false) := by
        have e : len = k := by omega
        show _ = _; rw [e]; exact unhide HNO
      go_wp2_with fail
      go_ret
      exact ⟨by rw [unhide hfin]; rfl, rfl⟩

/-- A yes or no; where it is a yes every number is below n and not negative. -/
def IdsEnd (F : Nat → Int) (len : Nat) (n : Int) (e : Ending) : Prop := ∃ r : Bool, e = .returned (.bool r) ∧ (r = true → ∀ i, i < len → 0 ≤ F i ∧ F i < n)
theorem IdsEnd.no (F : Nat → Int) (len : Nat) (n : Int) : IdsEnd F len n (.returned (.bool false)) := ⟨false, rfl, by simp⟩
theorem IdsEnd.yes {F : Nat → Int} {len : Nat} {n : Int} (h : ∀ i, i < len → 0 ≤ F i ∧ F i < n) : IdsEnd F len n (.returned (.bool true)) := ⟨true, rfl, fun _ => h⟩

set_option maxHeartbeats 1000000 in
theorem idsIn_any (w : World) (a : Option Addr) (len c : Nat) (n : Int) (F : Nat → Int) (h : ArgAt w a len F) (hm : len ≤ 1000000) :
    Calls Try.prog 8 #[.slice a len c, .int .i64 n] w fun e w' => IdsEnd F len n e ∧ w' = w := by
  have HC := hide h
  clear h
  go_enter Try.func8, Try.ntmps8
  go_wp2_with fail
  go_loop [5] (fun i => ∃ k : Nat, k ≤ len ∧ i = .int .i64 (k : Int) ∧ ∀ j, j < k → 0 ≤ F j ∧ F j < n) (fun i => len - (intOf i).toNat)
  case atStart => exact ⟨0, Nat.zero_le _, rfl, fun j hj => by omega⟩
  case round =>
    obtain ⟨k, hk, rfl, hno⟩ := hrel
    have HNO := hide hno
    clear hno
    by_cases hlt : k < len
    · obtain ⟨b, off, e, hc⟩ := (unhide HC).2.1 (by omega)
      subst e
      have hcell := hc k hlt
      clear hc
      by_cases hneg : F k < 0
      · go_wp2_with fail
        go_ret
        exact ⟨IdsEnd.no _ _ _, rfl⟩
      · by_cases hbig : n ≤ F k
        · go_wp2_with fail
          go_ret
          exact ⟨IdsEnd.no _ _ _, rfl⟩
        · have hnx : Hid (∀ j, j < k + 1 → 0 ≤ F j ∧ F j < n) := fun j hj => by
            by_cases e : j = k
            · subst e; omega
            · exact unhide HNO j (by omega)
          go_wp2_with fail
          go_round
          case rel => first | exact ⟨k + 1, by omega, by go_num, unhide hnx⟩ | (refine ⟨trivial, ?_⟩; (repeat apply Exists.intro); refine ⟨?_, rfl⟩; exact ⟨k + 1, by omega, by go_num, unhide hnx⟩)
          case measure => simp [intOf]; omega
    · have hfin : Hid (IdsEnd F len n (.returned (.bool true))) := IdsEnd.yes (fun i hi => unhide HNO i (by omega))
      go_wp2_with fail
      go_ret
      exact ⟨unhide hfin, rfl⟩

/-- Where there is an element, the elements' cells lie one behind the other. -/
def RowC (w : World) (a : Option Addr) (len : Nat) (F : Nat → Int) : Prop := 0 < len → ∃ b off, a = some ⟨b, off, none⟩ ∧ ∀ i, i < len → w.cell? ⟨b, off + i, none⟩ = some (.int .i64 (F i))

set_option maxHeartbeats 1000000 in
theorem same_yes (w : World) (a a' : Option Addr) (len c1 c2 : Nat) (F : Nat → Int) (hl : len ≤ 1000000) (h : RowC w a len F) (h' : RowC w a' len F) :
    Calls Try.prog 17 #[.slice a len c1, .slice a' len c2] w fun e w' => e = .returned (.bool true) ∧ ∃ m, w' = w.drewN m := by
  have HF := hide h
  have HG := hide h'
  have hne : ((len : Int) != (len : Int)) = false := by simp
  clear h h'
  go_enter Try.func17, Try.ntmps17
  go_wp2_with fail
  go_loopw [5] (fun kv wr => ∃ k m : Nat, k ≤ len ∧ kv = .int .i64 (k : Int) ∧ wr = w.drewN m) (fun kv _ => len - (intOf kv).toNat)
  case atStart => exact ⟨0, 0, Nat.zero_le _, rfl, rfl⟩
  case round =>
    obtain ⟨k, m, hk, rfl, rfl⟩ := hrel
    by_cases hkn : k < len
    · obtain ⟨b, off, e, hc⟩ := (unhide HF) (by omega)
      obtain ⟨b', off', e', hc'⟩ := (unhide HG) (by omega)
      subst e
      subst e'
      have hf := hc k hkn
      have hg := hc' k hkn
      clear hc hc'
      have hnk : (F k != F k) = false := by simp
      go_wp2_with fail
      go_quiet (fail)
      go_wp2_with fail
      go_roundw
      case rel => first | exact ⟨k + 1, _, by omega, by go_num, rfl⟩ | ((repeat apply Exists.intro); refine ⟨?_, rfl⟩; exact ⟨k + 1, _, by omega, by go_num, rfl⟩)
      case measure => simp [intOf]; omega
    · go_wp2_with fail
      go_ret
      exact ⟨rfl, _, rfl⟩

end Go.Proofs.Qxb6600869a
