import Derived.Test.Qxb6600869aE
import Derived.Test.Qxb6600869aPlain3
namespace Go.Proofs.Qxb6600869a
open Go.RowKit
set_option linter.unusedVariables false
set_option linter.unusedSimpArgs false
open Pl (Perm swp anyI rfm rfN cellB)

set_option maxHeartbeats 1000000 in
theorem cellIs_any (w : World) (ab n : Nat) (A : Nat → Nat) (hA : ∀ p, p < n → w.cell? ⟨ab, p, none⟩ = some (.int .i64 (A p : Int))) (wd r c : Nat) (u : Int) (hr : r ≤ 32768) (hwd : wd ≤ 32768) (hc : c ≤ 32768) (hn : n ≤ 32768) :
    Calls Try.prog 13 #[.slice (some ⟨ab, 0, none⟩) n n, .int .i64 (wd : Int), .int .i64 (r : Int), .int .i64 (c : Int), .int .i64 u] w fun e w' => e = .returned (.bool (cellB A n wd r c u)) ∧ w' = w := by
  have hP : r * wd ≤ 32768 * 32768 := Nat.mul_le_mul hr hwd
  obtain ⟨P, eP⟩ : ∃ P, r * wd = P := ⟨_, rfl⟩
  have hmul : (r : Int) * (wd : Int) = (P : Int) := by rw [← eP, Int.natCast_mul]
  rw [eP] at hP
  obtain ⟨p, ep⟩ : ∃ p, P + c = p := ⟨_, rfl⟩
  have hadd : (P : Int) + (c : Int) = (p : Int) := by omega
  have HE : Hid (cellB A n wd r c u = (decide (p < n) && ((A p : Int) == u))) := by show _ = _; unfold cellB; rw [eP, ep]
  have hp : p ≤ 1073741824 + 32768 := by omega
  clear eP ep
  by_cases hlt : p < n
  · have hcell := hA p hlt
    have HF : Hid (cellB A n wd r c u = ((A p : Int) == u)) := by show _ = _; rw [unhide HE, decide_eq_true hlt, Bool.true_and]
    clear HE hA
    go_enter Try.func13, Try.ntmps13
    go_wp2_with fail
    go_ret
    exact ⟨by rw [unhide HF]; rfl, rfl⟩
  · have HF : Hid (cellB A n wd r c u = false) := by show _ = _; rw [unhide HE, decide_eq_false hlt, Bool.false_and]
    clear HE hA
    go_enter Try.func13, Try.ntmps13
    go_wp2_with fail
    go_ret
    exact ⟨by rw [unhide HF]; rfl, rfl⟩

end Go.Proofs.Qxb6600869a
