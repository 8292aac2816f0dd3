import Derived.Test.Qxb6003570aH
import Derived.OpenShut
namespace Go.Proofs.Qxb6003570a
open Go.RowKit
set_option linter.unusedVariables false
set_option linter.unusedSimpArgs false
open Pl (fan wid sta Pos has fr mm Valid idx Right Done Turn)

theorem below_drewN' {B : Nat} {a w : World} (n : Nat) (h : Below B a w) : Below B a (w.drewN n) := h.trans (below_drewN n)

theorem name_of {n src : Nat} {rep : Bool} {L v : Nat} (hs : src < n) (hv : v < sta n rep L) : ∃ d f, d < L ∧ Valid n src rep f d ∧ v = sta n rep d + idx n rep f d := by
  obtain ⟨d, h1, h2, h3⟩ := depth_of n rep v L hv
  have h4 : v - sta n rep d < wid n rep d := by simp only [sta] at h3; omega
  obtain ⟨f, f1, f2⟩ := Pl.idx_onto hs d _ h4
  exact ⟨d, f, h1, f1, by omega⟩

/-- A right table's entry is the last step of the vertex's name. -/
theorem right_last {n src : Nat} {rep : Bool} {L v x d : Nat} {f : Nat → Nat} (h : Right n src rep L v x) (hs : src < n) (hf : Valid n src rep f d) (hv : v = sta n rep d + idx n rep f d) : x = f d := by
  have h1 := Pl.idx_lt hs d hf
  obtain ⟨f', hf', hu, hx⟩ := h.at hs (d := d) (by omega) (by show v < sta n rep d + wid n rep d; omega)
  rw [hx]
  exact Pl.idx_inj hs d hf' hf (by omega) d (Nat.le_refl _)

/-- The buffer, cut to nothing, is the call's own still. -/
theorem own_cut0 {w : World} {B : Nat} {pa : Option Addr} {l c : Nat} {xs : List Value} (h : w.ownsRow B 3 1 (.slice pa l c) l xs) : w.ownsRow B 3 1 (.slice pa 0 c) 0 [] := by
  refine ⟨by simp, ?_⟩
  rcases h.2 with ⟨e, h0⟩ | ⟨g, cap, cur, e, h1, h2, h3, h4, h5, _⟩
  · cases e; exact .inl ⟨rfl, rfl⟩
  · cases e; exact .inr ⟨g, c, cur, rfl, h1, h2, Nat.zero_le _, h4, h5, by simp⟩

theorem own_shape {w : World} {B : Nat} {pa : Option Addr} {l c : Nat} {xs : List Value} (h : w.ownsRow B 3 1 (.slice pa l c) l xs) : (pa = none ∧ l = 0 ∧ c = 0) ∨ ∃ g, pa = some ⟨g, 0, none⟩ := by
  rcases h.2 with ⟨e, h0⟩ | ⟨g, cap, cur, e, _⟩
  · cases e; exact .inl ⟨rfl, rfl, rfl⟩
  · cases e; exact .inr ⟨g, rfl⟩

set_option maxRecDepth 100000 in
set_option maxHeartbeats 4000000 in
theorem walk7 (a0 a1 a2 : Int) (a3 : Bool) (w0 : (Lit.int .i64 a0).wf = true) (w1 : (Lit.int .i64 a1).wf = true) (w2 : (Lit.int .i64 a2).wf = true) (w : World) :
    Calls Try.prog 7 #[.int .i64 a0, .int .i64 a1, .int .i64 a2, .bool a3] w fun e w' => e = .returned (.bool true) ∧ Below w.heap.size w w' := by
  have lo2 : -9223372036854775808 ≤ a2 := (bounds_i64 w2).1
  clear w0 w1 w2
  go_enter Try.func7, Try.ntmps7
  go_wp2_with fail
  refine (argsOK_any w a0 a1 a2).mono ?_
  rintro e w' ⟨⟨r, rfl, hr⟩, rfl⟩
  cases r
  · go_wp2_with fail
    go_ret
    exact ⟨rfl, Below.refl _ _⟩
  obtain ⟨h1, h2, h3, h4, h5⟩ := hr rfl
  clear hr
  obtain ⟨n, rfl⟩ := Int.eq_ofNat_of_zero_le (show 0 ≤ a0 by omega)
  obtain ⟨src, rfl⟩ := Int.eq_ofNat_of_zero_le h3
  go_wp2_with fail
  refine (build_any w' n src a2 a3 (by omega) (by omega) (by omega) h5 lo2).mono ?_
  rintro e w1 ⟨b, g, cap, L, rfl, hS, hB⟩
  have HS := hide hS
  have HB := hide hB
  clear hS hB
  have hN := Pl.sta_bd n a3 (unhide HS).hn2 L (unhide HS).hL2
  go_wp2_with fail
  refine (len_any w1 b g cap n src a3 L (unhide HS)).mono ?_
  rintro e w2 ⟨rfl, m, rfl⟩
  by_cases hbig : 65536 < sta n a3 L
  · go_wp2_with fail
    go_ret
    exact ⟨rfl, below_drewN' m (unhide HB)⟩
  go_wp2_with fail
  refine (ends_any (w1.drewN m) b g cap n src a3 L ((unhide HS).drewN m)).mono ?_
  rintro e w2 ⟨eb, E, rfl, hB2, hsz, hE, hR⟩
  have hbw : b < w1.heap.size := World.block_lt_of_cell? w1 _ (unhide HS).c0
  have hgw : g < w1.heap.size := World.block_lt_of_cell? w1 _ ((unhide HS).st 0 (by omega))
  have HS2 := hide ((unhide HS).below ((below_drewN (B := w1.heap.size) m).trans hB2) hbw hgw)
  have HB2 : Hid (Below w'.heap.size w' w2) := (below_drewN' m (unhide HB)).trans (hB2.mono (unhide HB).size)
  have hsz2 : w1.heap.size ≤ w2.heap.size := hB2.size
  have hL1 := (unhide HS2).hL1
  have hL2 := (unhide HS2).hL2
  have hN1 : 1 ≤ sta n a3 L := by have := Pl.sta_mono n a3 1 L hL1; have e : sta n a3 1 = 1 := rfl; omega
  have heb : eb < w2.heap.size := World.block_lt_of_cell? w2 _ (hE 0 (by omega))
  have HE := hide hE
  have HR := hide hR
  clear hE hR hB2 hsz HS HB
  go_wp2_with fail
  refine (len_any w2 b g cap n src a3 L (unhide HS2)).mono ?_
  rintro e w3 ⟨rfl, m2, rfl⟩
  go_wp2_with fail
  clear hbig
  go_loopw [11, 12] (fun bv v wr => ∃ (k : Nat) (pa : Option Addr) (l c : Nat) (xs : List Value), k ≤ sta n a3 L ∧ v = .int .i64 (k : Int) ∧ bv = .slice pa l c ∧ wr.ownsRow w2.heap.size 3 1 (.slice pa l c) l xs ∧ Below w2.heap.size w2 wr) (fun _ v _ => sta n a3 L - (intOf v).toNat)
  case atStart => exact ⟨0, none, 0, 0, [], Nat.zero_le _, rfl, rfl, World.ownsRow_nil _ _ _ _, below_drewN m2⟩
  case round =>
    obtain ⟨k, pa, l, c, xs, hk, rfl, rfl, hown, hbel⟩ := hrel
    have HO := hide (own_cut0 hown)
    have HBL := hide hbel
    have HSr := hide ((unhide HS2).below hbel (by omega) (by omega))
    by_cases hkn : k < sta n a3 L
    · obtain ⟨d, f, hd, hf, hv⟩ := name_of (src := src) (by omega) hkn
      have HF := hide hf
      have HV := hide hv
      have hlast := hide (right_last (unhide HR k hkn) (by omega) hf hv)
      have hfd := hf.lt (show src < n by omega) d (Nat.le_refl _)
      have hAP := hide (fun (F : Nat → Int) => appendPath_any wr b g cap n src a3 L w2.heap.size pa 0 c F f d k (unhide HSr) (by omega) (by omega) hbel.size (unhide HO) (by omega) hf hd hv)
      have hsh := own_shape hown
      clear hf hv hown hbel
      rcases hsh with ⟨rfl, rfl, rfl⟩ | ⟨gg, rfl⟩
      all_goals
        go_wp2_with fail
        refine (unhide hAP (fun _ => 0)).mono ?_
        rintro e w3 ⟨gb, cq, G, rfl, hap, hG⟩
        have HAP := hide hap
        have hcl := hap.cell d (Nat.le_refl _)
        rw [hG d (Nat.le_refl _), Nat.zero_add] at hcl
        have hce := (hap.bel.cell (p := ⟨eb, k, none⟩) heb).trans (((unhide HBL).cell (p := ⟨eb, k, none⟩) heb).trans (unhide HE k hkn))
        rw [unhide hlast] at hce
        obtain ⟨l2, hl2⟩ : ∃ l2, 0 + (d + 1) = l2 := ⟨_, rfl⟩
        rw [hl2]
        obtain rfl : d = l2 - 1 := by omega
        have hl3 : 1 ≤ l2 := by omega
        have hl4 : l2 ≤ 8 := by omega
        have hne0 : ((l2 : Int) == 0) = false := by rw [beq_eq_false_iff_ne]; omega
        have hnef : ((f (l2 - 1) : Int) != (f (l2 - 1) : Int)) = false := by simp
        have OW : Hid (w3.ownsRow w2.heap.size 3 1 (.slice (some ⟨gb, 0, none⟩) l2 cq) l2 (rowl G l2)) := by
          have h := hap.own
          rw [hl2] at h; exact h
        clear hap hG hl2
        go_wp2_with fail
        go_quiet (fail)
        go_wp2_with fail
        go_roundw
        case rel => first | exact ⟨k + 1, _, l2, cq, _, by omega, by go_num, rfl, own_drewN _ (unhide OW), below_drewN' _ ((unhide HBL).trans (unhide HAP).bel)⟩ | ((repeat apply Exists.intro); refine ⟨?_, rfl⟩; exact ⟨k + 1, _, l2, cq, _, by omega, by go_num, rfl, own_drewN _ (unhide OW), below_drewN' _ ((unhide HBL).trans (unhide HAP).bel)⟩)
        case measure => simp [intOf]; omega
    · go_wp2_with fail
      go_ret
      exact ⟨rfl, (unhide HB2).trans ((unhide HBL).mono (unhide HB2).size)⟩

end Go.Proofs.Qxb6003570a
