import Derived.Test.Qxb6003570aH
import Derived.OpenShut
namespace Go.Proofs.Qxb6003570a
open Go.RowKit
set_option linter.unusedVariables false
open Pl (fan wid sta Pos has fr mm Valid idx Right Done Turn)

theorem below_drewN' {B : Nat} {a w : World} (n : Nat) (h : Below B a w) : Below B a (w.drewN n) := h.trans (below_drewN n)

/-- A name for every vertex of the tree. -/
theorem name_of {n src : Nat} {rep : Bool} {L v : Nat} (hs : src < n) (hv : v < sta n rep L) : ∃ d f, d < L ∧ Valid n src rep f d ∧ v = sta n rep d + idx n rep f d := by
  obtain ⟨d, h1, h2, h3⟩ := depth_of n rep v L hv
  have h4 : v - sta n rep d < wid n rep d := by simp only [sta] at h3; omega
  obtain ⟨f, f1, f2⟩ := Pl.idx_onto hs d _ h4
  exact ⟨d, f, h1, f1, by omega⟩

/-- What 'AppendPath' has spelt, as a path that 'Find' can read. -/
theorem AP.path {w wr : World} {B gb cap len d : Nat} {F G : Nat → Int} {f : Nat → Nat} (h : AP w wr B gb cap len d F G) (hf : ∀ j, j ≤ d → G (len + j) = (f j : Int)) : ∀ i, i < d + 1 → wr.cell? ⟨gb, len + i, none⟩ = some (.int .i64 ((fun j => (f j : Int)) i)) := fun i hi => by
  rw [h.cell i (by omega), hf i (by omega)]

set_option maxHeartbeats 2000000 in
theorem walk3 (a0 a1 a2 : Int) (a3 : Bool) (a4 : Int) (w0 : (Lit.int .i64 a0).wf = true) (w1 : (Lit.int .i64 a1).wf = true) (w2 : (Lit.int .i64 a2).wf = true) (w4 : (Lit.int .i64 a4).wf = true) (w : World) :
    Calls Try.prog 3 #[.int .i64 a0, .int .i64 a1, .int .i64 a2, .bool a3, .int .i64 a4] w fun e w' => e = .returned (.bool true) ∧ Below w.heap.size w w' := by
  have lo2 : -9223372036854775808 ≤ a2 := (bounds_i64 w2).1
  have b4 := bounds_i64 w4
  clear w0 w1 w2 w4
  go_enter Try.func3, Try.ntmps3
  go_wp2_with fail
  refine (argsOK_any w a0 a1 a2).mono ?_
  rintro e w' ⟨⟨r, rfl, hr⟩, rfl⟩
  cases r
  · go_wp2_with fail
    go_ret
    exact ⟨rfl, Below.refl _ _⟩
  obtain ⟨h1, h2, h3, h4, h5⟩ := hr rfl
  clear hr
  obtain ⟨n, rfl⟩ := Int.eq_ofNat_of_zero_le (show 0 ≤ a0 by omega)
  obtain ⟨src, rfl⟩ := Int.eq_ofNat_of_zero_le h3
  go_wp2_with fail
  refine (build_any w' n src a2 a3 (by omega) (by omega) (by omega) h5 lo2).mono ?_
  rintro e w1 ⟨b, g, cap, L, rfl, hS, hB⟩
  have HS := hide hS
  have HB := hide hB
  have hbw : b < w1.heap.size := World.block_lt_of_cell? w1 _ hS.c0
  have hgw : g < w1.heap.size := World.block_lt_of_cell? w1 _ (hS.st 0 (by omega))
  have hN := Pl.sta_bd n a3 hS.hn2 L hS.hL2
  have hL2 := hS.hL2
  clear hS hB
  by_cases hneg : a4 < 0
  · go_wp2_with fail
    go_ret
    exact ⟨rfl, unhide HB⟩
  obtain ⟨v, rfl⟩ := Int.eq_ofNat_of_zero_le (show 0 ≤ a4 by omega)
  by_cases hbig : sta n a3 L ≤ v
  · go_wp2_with fail
    refine (len_any w1 b g cap n src a3 L (unhide HS)).mono ?_
    rintro e w2 ⟨rfl, m, rfl⟩
    go_wp2_with fail
    go_ret
    exact ⟨rfl, below_drewN' m (unhide HB)⟩
  obtain ⟨d, f, hd, hf, hv⟩ := name_of (src := src) (by omega) (show v < sta n a3 L by omega)
  have HF := hide hf
  have HV := hide hv
  clear hf hv
  go_wp2_with fail
  refine (len_any w1 b g cap n src a3 L (unhide HS)).mono ?_
  rintro e w2 ⟨rfl, m, rfl⟩
  go_wp2_with fail
  refine (appendPath_any (w1.drewN m) b g cap n src a3 L w1.heap.size none 0 0 (fun _ => 0) f d v ((unhide HS).drewN m) hbw hgw (Nat.le_refl _) (World.ownsRow_nil _ _ _ _) (by omega) (unhide HF) hd (unhide HV)).mono ?_
  rintro e w2 ⟨gb, cp, G, rfl, hap, hG⟩
  have HAP := hide hap
  have HG := hide hG
  clear hap hG
  have HS2 := hide ((unhide HS).below ((below_drewN (B := w1.heap.size) m).trans (unhide HAP).bel) hbw hgw)
  have hpath := hide ((unhide HAP).path (unhide HG))
  have hcap := own_le (unhide HAP).own
  go_wp2_with fail
  refine (find_any w2 b g cap (some ⟨gb, 0, none⟩) (d + 1) cp n src a3 L (fun j => (f j : Int)) (unhide HS2) (.inr ⟨gb, 0, rfl, by omega, fun i hi => unhide hpath i (by omega)⟩) (fun i hi => by have := (unhide HF).lt (by omega) i (by omega); omega) (by omega)).mono ?_
  rintro e w3 ⟨hfe, m3, rfl⟩
  obtain rfl := hfe.of_valid hd (fun i _ => rfl) (unhide HF)
  clear hfe
  rw [← unhide HV]
  go_wp2_with fail
  go_ret
  exact ⟨by simp, below_drewN' m3 ((below_drewN' m (unhide HB)).trans ((unhide HAP).bel.mono (unhide HB).size))⟩

end Go.Proofs.Qxb6003570a
