import Derived.Test.Qxb6003570aI
namespace Go.Proofs.Qxb6003570a
open Go.RowKit
set_option linter.unusedVariables false
set_option linter.unusedSimpArgs false
open Pl (fan wid sta Pos has fr mm Valid idx Right Done Turn)

theorem drew3 (w : World) (a b c : Nat) : ∃ m, ((w.drewN a).drewN b).drewN c = w.drewN m := ⟨_, by rw [World.drewN_drewN, World.drewN_drewN]⟩

/-- What 'lexCompare' answers for two rows of one length. -/
def LexIs (F G : Nat → Int) (len : Nat) (c : Int) : Prop :=
  (c = 0 ∧ ∀ i, i < len → F i = G i) ∨ (c = -1 ∧ ∃ i, i < len ∧ (∀ j, j < i → F j = G j) ∧ F i < G i) ∨ (c = 1 ∧ ∃ i, i < len ∧ (∀ j, j < i → F j = G j) ∧ G i < F i)
def LexEnd (F G : Nat → Int) (len : Nat) (e : Ending) : Prop := ∃ c : Int, e = .returned (.int .i64 c) ∧ LexIs F G len c

set_option maxHeartbeats 1000000 in
theorem lex_any (w : World) (pb po qb qo len c1 c2 : Nat) (F G : Nat → Int) (hl : len ≤ 1000000) (hF : ∀ i, i < len → w.cell? ⟨pb, po + i, none⟩ = some (.int .i64 (F i))) (hG : ∀ i, i < len → w.cell? ⟨qb, qo + i, none⟩ = some (.int .i64 (G i))) :
    Calls Try.prog 22 #[.slice (some ⟨pb, po, none⟩) len c1, .slice (some ⟨qb, qo, none⟩) len c2] w fun e w' => LexEnd F G len e ∧ ∃ m, w' = w.drewN m := by
  have HF := hide hF
  have HG := hide hG
  clear hF hG
  go_enter Try.func22, Try.ntmps22
  go_wp2_with fail
  go_loopw [5] (fun kv wr => ∃ k m : Nat, k ≤ len ∧ kv = .int .i64 (k : Int) ∧ (∀ j, j < k → F j = G j) ∧ wr = w.drewN m) (fun kv _ => len - (intOf kv).toNat)
  case atStart => exact ⟨0, 0, Nat.zero_le _, rfl, fun j hj => by omega, rfl⟩
  case round =>
    obtain ⟨k, m, hk, rfl, heq, rfl⟩ := hrel
    have HE := hide heq
    clear heq
    by_cases hkn : k < len
    · have hf := unhide HF k hkn
      have hg := unhide HG k hkn
      by_cases hlt : F k < G k
      · have hfin : Hid (LexEnd F G len (.returned (.int .i64 (-1)))) := ⟨_, rfl, .inr (.inl ⟨rfl, k, hkn, unhide HE, hlt⟩)⟩
        go_wp2_with fail
        go_quiet (fail)
        go_wp2_with fail
        go_ret
        exact ⟨unhide hfin, _, World.drewN_drewN _ _ _⟩
      · by_cases hgt : G k < F k
        · have hfin : Hid (LexEnd F G len (.returned (.int .i64 1))) := ⟨_, rfl, .inr (.inr ⟨rfl, k, hkn, unhide HE, hgt⟩)⟩
          go_wp2_with fail
          go_quiet (fail)
          go_wp2_with fail
          go_quiet (fail)
          go_wp2_with fail
          go_ret
          exact ⟨unhide hfin, drew3 _ _ _ _⟩
        · have hnx : Hid (∀ j, j < k + 1 → F j = G j) := fun j hj => by
            by_cases e : j = k
            · subst e; omega
            · exact unhide HE j (by omega)
          go_wp2_with fail
          go_quiet (fail)
          go_wp2_with fail
          go_quiet (fail)
          go_wp2_with fail
          go_roundw
          case rel => first | exact ⟨k + 1, _, by omega, by go_num, unhide hnx, rfl⟩ | ((repeat apply Exists.intro); refine ⟨?_, rfl⟩; exact ⟨k + 1, _, by omega, by go_num, unhide hnx, rfl⟩)
          case measure => simp [intOf]; omega
    · obtain rfl : len = k := by omega
      have hfin : Hid (LexEnd F G len (.returned (.int .i64 0))) := ⟨_, rfl, .inl ⟨rfl, unhide HE⟩⟩
      go_wp2_with fail
      go_ret
      exact ⟨unhide hfin, _, rfl⟩

set_option maxHeartbeats 1000000 in
theorem equal_yes (w : World) (pb po qb qo len c1 c2 : Nat) (F : Nat → Int) (hl : len ≤ 1000000) (hF : ∀ i, i < len → w.cell? ⟨pb, po + i, none⟩ = some (.int .i64 (F i))) (hG : ∀ i, i < len → w.cell? ⟨qb, qo + i, none⟩ = some (.int .i64 (F i))) :
    Calls Try.prog 20 #[.slice (some ⟨pb, po, none⟩) len c1, .slice (some ⟨qb, qo, none⟩) len c2] w fun e w' => e = .returned (.bool true) ∧ ∃ m, w' = w.drewN m := by
  have HF := hide hF
  have HG := hide hG
  have hne : ((len : Int) != (len : Int)) = false := by simp
  clear hF hG
  go_enter Try.func20, Try.ntmps20
  go_wp2_with fail
  go_loopw [5] (fun kv wr => ∃ k m : Nat, k ≤ len ∧ kv = .int .i64 (k : Int) ∧ wr = w.drewN m) (fun kv _ => len - (intOf kv).toNat)
  case atStart => exact ⟨0, 0, Nat.zero_le _, rfl, rfl⟩
  case round =>
    obtain ⟨k, m, hk, rfl, rfl⟩ := hrel
    by_cases hkn : k < len
    · have hf := unhide HF k hkn
      have hg := unhide HG k hkn
      have hnk : (F k != F k) = false := by simp
      go_wp2_with fail
      go_quiet (fail)
      go_wp2_with fail
      go_roundw
      case rel => first | exact ⟨k + 1, _, by omega, by go_num, rfl⟩ | ((repeat apply Exists.intro); refine ⟨?_, rfl⟩; exact ⟨k + 1, _, by omega, by go_num, rfl⟩)
      case measure => simp [intOf]; omega
    · go_wp2_with fail
      go_ret
      exact ⟨rfl, _, rfl⟩

end Go.Proofs.Qxb6003570a
