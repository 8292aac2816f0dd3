import Derived.Test.Qxb6003570aW6
import Derived.Test.Qxb6003570aW3b
namespace Go.Proofs.Qxb6003570a
open Go.RowKit
set_option linter.unusedVariables false
set_option linter.unusedSimpArgs false
open Pl (fan wid sta Pos has fr mm Valid idx Right Done Turn)

theorem Level_len (w : World) (b g cap n src : Nat) (rep : Bool) (L : Nat) (h : Shp w b g cap n src rep L) (d len : Nat) (hd : d < L) (e : len = d + 1) :
    Calls Try.prog 18 #[.pointer (some ⟨b, 0, none⟩), .int .i64 (len : Int)] w fun e w' => e = .returned (.tuple #[.int .i64 (sta n rep d : Int), .int .i64 (sta n rep (d + 1) : Int)]) ∧ ∃ m, w' = w.drewN m := by
  subst e
  exact Level_any w b g cap n src rep L h d hd
theorem equal_len (w : World) (pb po qb qo l1 l2 c1 c2 : Nat) (F : Nat → Int) (e : l1 = l2) (hl : l1 ≤ 1000000) (hF : ∀ i, i < l1 → w.cell? ⟨pb, po + i, none⟩ = some (.int .i64 (F i))) (hG : ∀ i, i < l1 → w.cell? ⟨qb, qo + i, none⟩ = some (.int .i64 (F i))) :
    Calls Try.prog 20 #[.slice (some ⟨pb, po, none⟩) l1 c1, .slice (some ⟨qb, qo, none⟩) l2 c2] w fun e w' => e = .returned (.bool true) ∧ ∃ m, w' = w.drewN m := by
  subst e
  exact equal_yes w pb po qb qo l1 c1 c2 F hl hF hG

set_option maxRecDepth 100000 in
set_option maxHeartbeats 4000000 in
theorem walk5 (a0 : Int) (a1 : Int) (a2 : Int) (a3 : Bool) (a4 : Option Addr) (len4 cap4 : Nat) (z4 : List Int) (w : World) (w0 : (Lit.int .i64 a0).wf = true) (w1 : (Lit.int .i64 a1).wf = true) (w2 : (Lit.int .i64 a2).wf = true) (w4 : IsRow .i64 w a4 len4 cap4 z4) :
    Calls Try.prog 5 #[.int .i64 a0, .int .i64 a1, .int .i64 a2, .bool a3, .slice a4 len4 cap4] w fun e w' => e = .returned (.bool true) ∧ Below w.heap.size w w' := by
  have lo2 : -9223372036854775808 ≤ a2 := (bounds_i64 w2).1
  have m4 : len4 ≤ maxLen := w4.len
  have A4 := hide w4.arg
  generalize (fun i => z4.getD i 0) = F at *
  clear w0 w1 w2 w4
  unfold maxLen at m4
  go_enter Try.func5, Try.ntmps5
  go_wp2_with fail
  refine (bytes19 w a0 a1 a2 a3 a4 len4 cap4 m4).mono ?_
  rintro e w' ⟨⟨r, rfl⟩, rfl⟩
  cases r
  · go_wp2_with fail
    go_ret
    exact ⟨rfl, Below.refl _ _⟩
  by_cases hb4 : 65536 < len4
  · go_wp2_with fail
    go_ret
    exact ⟨rfl, Below.refl _ _⟩
  go_wp2_with fail
  refine (argsOK_any w' a0 a1 a2).mono ?_
  rintro e w1 ⟨⟨r, rfl, hr⟩, rfl⟩
  cases r
  · go_wp2_with fail
    go_ret
    exact ⟨rfl, Below.refl _ _⟩
  obtain ⟨h1, h2, h3, h4, h5⟩ := hr rfl
  clear hr
  obtain ⟨n, rfl⟩ := Int.eq_ofNat_of_zero_le (show 0 ≤ a0 by omega)
  obtain ⟨src, rfl⟩ := Int.eq_ofNat_of_zero_le h3
  go_wp2_with fail
  refine (clone_any w1 a4 len4 cap4 F (unhide A4) (by omega)).mono ?_
  rintro e wd ⟨pa, cp, rfl, hown4, hbel4⟩
  have O4 := hide hown4
  have B4 := hide hbel4
  clear hown4 hbel4
  go_wp2_with fail
  refine (build_any wd n src a2 a3 (by omega) (by omega) (by omega) h5 lo2).mono ?_
  rintro e ws ⟨b, g, cap, L, rfl, hS, hB⟩
  have HS := hide hS
  have HB := hide hB
  have hsn := hS.hs
  have hn2 := hS.hn2
  have hL2 := hS.hL2
  have hbw : b < ws.heap.size := World.block_lt_of_cell? ws _ hS.c0
  have hgw : g < ws.heap.size := World.block_lt_of_cell? ws _ (hS.st 0 (by omega))
  clear hS hB
  have P4 := hide (own_path (own_below (unhide O4) (unhide HB) (Nat.le_refl _)))
  have BB : Hid (Below w1.heap.size w1 ws) := (unhide B4).trans ((unhide HB).mono (unhide B4).size)
  have W4 := hide (unhide A4).2.2
  clear A4 O4 B4 HB
  go_wp2_with fail
  refine (find_any ws b g cap pa len4 cp n src a3 L F (unhide HS) (unhide P4) (unhide W4) (by omega)).mono ?_
  rintro e w2 ⟨hf1, m1, rfl⟩
  rcases hf1 with ⟨rfl, _⟩ | ⟨f, d, e1, hdL, hFf, hfv, rfl⟩
  · go_wp2_with fail
    go_ret
    exact ⟨rfl, below_drewN' _ (unhide BB)⟩
  obtain ⟨v, hv⟩ : ∃ v, v = sta n a3 d + idx n a3 f d := ⟨_, rfl⟩
  rw [← hv]
  have E1 := hide e1
  have hl1 : 1 ≤ len4 := by omega
  have hl2 : len4 ≤ L := by omega
  clear e1
  rcases unhide P4 with ⟨_, h0, _⟩ | ⟨pb, po, rfl, _, hc4⟩
  · have := unhide E1; omega
  have hil := Pl.idx_lt hsn d hfv
  have hv1 : sta n a3 d ≤ v := by omega
  have hv2 : v < sta n a3 (d + 1) := by show v < sta n a3 d + wid n a3 d; omega
  have hv3 := Pl.sta_mono n a3 (d + 1) L hdL
  have hv4 := Pl.sta_bd n a3 hn2 L hL2
  have VP := hide hv
  have FF := hide hFf
  have FV := hide hfv
  have C4 := hide hc4
  clear hv hFf hfv hil hc4 P4 W4
  go_wp2_with fail
  refine (len_any (ws.drewN m1) b g cap n src a3 L ((unhide HS).drewN m1)).mono ?_
  rintro e w2 ⟨rfl, m2, rfl⟩
  go_wp2_with fail
  refine (levels_any (ws.drewN (m1 + m2)) b g cap n src a3 L ((unhide HS).drewN _)).mono ?_
  rintro e w2 ⟨rfl, rfl⟩
  go_wp2_with fail
  refine (Level_len (ws.drewN (m1 + m2)) b g cap n src a3 L ((unhide HS).drewN _) d len4 hdL (unhide E1)).mono ?_
  rintro e w2 ⟨rfl, m3, rfl⟩
  go_wp2_with fail
  refine (appendPath_any (ws.drewN (m1 + m2 + m3)) b g cap n src a3 L ws.heap.size none 0 0 (fun _ => 0) f d v ((unhide HS).drewN _) hbw hgw (Nat.le_refl _) (World.ownsRow_nil _ _ _ _) (by omega) (unhide FV) hdL (unhide VP)).mono ?_
  rintro e w3 ⟨gb, cq, G, rfl, hap, hG⟩
  have HAP := hide hap
  have HG := hide hG
  clear hap hG
  have hpath := hide ((unhide HAP).path (unhide HG))
  have C4b : Hid (∀ i, i < d + 1 → w3.cell? ⟨pb, po + i, none⟩ = some (.int .i64 ((fun j => (f j : Int)) i))) := fun i hi => by
    have h1 := unhide C4 i (by have := unhide E1; omega)
    rw [unhide FF i (by omega)] at h1
    rw [(unhide HAP).bel.cell (p := ⟨pb, po + i, none⟩) (World.block_lt_of_cell? ws _ h1)]
    exact h1
  go_wp2_with fail
  refine (equal_len w3 gb 0 pb po (d + 1) len4 cq cp (fun j => (f j : Int)) (unhide E1).symm (by omega) (unhide hpath) (unhide C4b)).mono ?_
  rintro e w4 ⟨rfl, m4, rfl⟩
  go_wp2_with fail
  go_ret
  exact ⟨rfl, below_drewN' m4 ((below_drewN' _ (unhide BB)).trans ((unhide HAP).bel.mono (unhide BB).size))⟩

end Go.Proofs.Qxb6003570a
