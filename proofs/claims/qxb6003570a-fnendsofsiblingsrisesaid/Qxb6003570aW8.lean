import Derived.Test.Qxb6003570aE
import Derived.Test.Qxb6003570aPlain3
import Derived.OpenShut
namespace Go.Proofs.Qxb6003570a
open Go.RowKit
set_option linter.unusedVariables false
open Pl (fan wid sta Pos has fr mm Valid idx Right Done Turn)

theorem below_drewN' {B : Nat} {a w : World} (n : Nat) (h : Below B a w) : Below B a (w.drewN n) := h.trans (below_drewN n)

set_option maxRecDepth 100000 in
set_option maxHeartbeats 4000000 in
theorem walk8 (a0 a1 a2 : Int) (a3 : Bool) (w0 : (Lit.int .i64 a0).wf = true) (w1 : (Lit.int .i64 a1).wf = true) (w2 : (Lit.int .i64 a2).wf = true) (w : World) :
    Calls Try.prog 8 #[.int .i64 a0, .int .i64 a1, .int .i64 a2, .bool a3] w fun e w' => e = .returned (.bool true) ∧ Below w.heap.size w w' := by
  have lo2 : -9223372036854775808 ≤ a2 := (bounds_i64 w2).1
  clear w0 w1 w2
  go_enter Try.func8, Try.ntmps8
  go_wp2_with fail
  refine (argsOK_any w a0 a1 a2).mono ?_
  rintro e w' ⟨⟨r, rfl, hr⟩, rfl⟩
  cases r
  · go_wp2_with fail
    go_ret
    exact ⟨rfl, Below.refl _ _⟩
  obtain ⟨h1, h2, h3, h4, h5⟩ := hr rfl
  clear hr
  obtain ⟨n, rfl⟩ := Int.eq_ofNat_of_zero_le (show 0 ≤ a0 by omega)
  obtain ⟨src, rfl⟩ := Int.eq_ofNat_of_zero_le h3
  go_wp2_with fail
  refine (build_any w' n src a2 a3 (by omega) (by omega) (by omega) h5 lo2).mono ?_
  rintro e w1 ⟨b, g, cap, L, rfl, hS, hB⟩
  have HS := hide hS
  have HB := hide hB
  clear hS hB
  have hN := Pl.sta_bd n a3 (unhide HS).hn2 L (unhide HS).hL2
  go_wp2_with fail
  refine (len_any w1 b g cap n src a3 L (unhide HS)).mono ?_
  rintro e w2 ⟨rfl, m, rfl⟩
  by_cases hbig : 65536 < sta n a3 L
  · go_wp2_with fail
    go_ret
    exact ⟨rfl, below_drewN' m (unhide HB)⟩
  go_wp2_with fail
  refine (ends_any (w1.drewN m) b g cap n src a3 L ((unhide HS).drewN m)).mono ?_
  rintro e w2 ⟨eb, E, rfl, hB2, hsz, hE, hR⟩
  have hbw : b < w1.heap.size := World.block_lt_of_cell? w1 _ (unhide HS).c0
  have hgw : g < w1.heap.size := World.block_lt_of_cell? w1 _ ((unhide HS).st 0 (by omega))
  have HS2 := hide ((unhide HS).below ((below_drewN (B := w1.heap.size) m).trans hB2) hbw hgw)
  have HB2 : Hid (Below w'.heap.size w' w2) := (below_drewN' m (unhide HB)).trans (hB2.mono (unhide HB).size)
  have HE := hide hE
  have HR := hide hR
  clear hE hR hB2 hsz HS HB hbw hgw
  have hL1 := (unhide HS2).hL1
  have hL2 := (unhide HS2).hL2
  have hN1 : 1 ≤ sta n a3 L := by have := Pl.sta_mono n a3 1 L hL1; have e : sta n a3 1 = 1 := rfl; omega
  have hE0 : w2.cell? ⟨eb, 0, none⟩ = some (.int .i32 (src : Int)) := by
    rw [unhide HE 0 (by omega)]
    obtain ⟨f, hf, _, hx⟩ := (unhide HR 0 (by omega)).at (d := 0) (by omega) (Nat.le_refl _) (by simp [sta, wid])
    rw [hx, hf.1]
  go_wp2_with fail
  refine (len_any w2 b g cap n src a3 L (unhide HS2)).mono ?_
  rintro e w3 ⟨rfl, m2, rfl⟩
  go_wp2_with fail
  clear hE0 hbig
  go_loopw [11, 12, 13, 14] (fun v f e c wr => ∃ k m : Nat, k ≤ sta n a3 L ∧ v = .int .i64 (k : Int) ∧ wr = w2.drewN m) (fun v _ _ _ _ => sta n a3 L - (intOf v).toNat)
  case atStart => exact ⟨0, m2, Nat.zero_le _, rfl, rfl⟩
  case round =>
    obtain ⟨k, m3, hk, rfl, rfl⟩ := hrel
    by_cases hkn : k < sta n a3 L
    · obtain ⟨d, hd, hd1, hd2⟩ := depth_of n a3 k L hkn
      by_cases hleaf : d + 1 = L
      · have HLf := hide hleaf
        clear hleaf
        go_wp2_with fail
        refine (children_leaf (w2.drewN m3) b g cap n src a3 L ((unhide HS2).drewN m3) d k (unhide HLf) hd1 hd2).mono ?_
        rintro e w4 ⟨rfl, m4, rfl⟩
        go_wp2_with fail
        go_loopw [14] (fun c wr => c = .int .i64 (sta n a3 L : Int) ∧ wr = w2.drewN (m3 + m4)) (fun _ _ => 0)
        case atStart => exact ⟨rfl, rfl⟩
        case round =>
          obtain ⟨rfl, rfl⟩ := hrel
          go_wp2_with fail
          go_roundw
          case rel => first | exact ⟨k + 1, m3 + m4, by omega, by go_num, rfl⟩ | ((repeat apply Exists.intro); exact ⟨⟨k + 1, m3 + m4, by omega, by go_num, rfl⟩, rfl⟩)
          case measure => simp [intOf]; omega
      · have hdl : d + 1 < L := by omega
        have hfan := (unhide HS2).hp (d + 1) (by omega) hdl
        have hfan2 := Pl.fan_le n a3 (d + 1) (by omega)
        have hup := Pl.sta_mono n a3 (d + 2) L hdl
        have hlast := Pl.child_lt hd1 hd2 (Nat.sub_lt hfan (by omega : 0 < 1))
        obtain ⟨F, hF⟩ : ∃ F, F = sta n a3 (d + 1) + (k - sta n a3 d) * fan n a3 (d + 1) := ⟨_, rfl⟩
        rw [← hF] at hlast
        have HF := hide hF
        clear hF hleaf
        go_wp2_with fail
        refine (children_any (w2.drewN m3) b g cap n src a3 L ((unhide HS2).drewN m3) d k hdl hd1 hd2).mono ?_
        rw [← unhide HF]
        rintro e w4 ⟨rfl, m4, rfl⟩
        have hend : ((F + fan n a3 (d + 1) : Nat) : Int) = (F : Int) + (fan n a3 (d + 1) : Int) := by omega
        rw [hend]
        clear hend
        go_wp2_with fail
        go_loopw [14] (fun cv wr => ∃ c m : Nat, F ≤ c ∧ c ≤ F + fan n a3 (d + 1) ∧ cv = .int .i64 (c : Int) ∧ wr = w2.drewN m) (fun c _ => F + fan n a3 (d + 1) - (intOf c).toNat)
        case atStart => exact ⟨F, m3 + m4, Nat.le_refl _, by omega, rfl, rfl⟩
        case round =>
          obtain ⟨c, m5, hj1, hj2, rfl, rfl⟩ := hrel
          by_cases hjn : c < F + fan n a3 (d + 1)
          · have hcell := unhide HE c (by omega)
            obtain ⟨hx1, hx2⟩ := Pl.rise1 (d := d) (unhide HR c (by omega)) (by omega) (by have := unhide HF; omega) (by omega)
            have hx3 : ((E c : Int) == (src : Int)) = false := by rw [beq_eq_false_iff_ne]; omega
            clear hx2
            by_cases hjj : F < c
            · have hcell2 := unhide HE (c - 1) (by omega)
              have hlt : E (c - 1) < E c := by
                have e : c - 1 + 1 = c := by omega
                have h7 := Pl.rise2 (u := c - 1) (d := d) (k := k - sta n a3 d) (j := c - 1 - F) (unhide HR (c - 1) (by omega)) (by rw [e]; exact unhide HR c (by omega)) (by omega) (by have := unhide HF; omega) (by omega) (by omega)
                exact h7
              go_wp2_with fail
              go_quiet (fail)
              go_wp2_with fail
              go_roundw
              case rel => first | exact ⟨c + 1, _, by omega, by omega, by go_num, rfl⟩ | ((repeat apply Exists.intro); exact ⟨⟨c + 1, _, by omega, by omega, by go_num, rfl⟩, rfl⟩)
              case measure => simp [intOf]; omega
            · have hnd : decide ((F : Int) < (c : Int)) = false := by simp; omega
              go_wp2_with fail
              go_quiet (fail)
              go_wp2_with fail
              go_roundw
              case rel => first | exact ⟨c + 1, _, by omega, by omega, by go_num, rfl⟩ | ((repeat apply Exists.intro); exact ⟨⟨c + 1, _, by omega, by omega, by go_num, rfl⟩, rfl⟩)
              case measure => simp [intOf]; omega
          · go_wp2_with fail
            go_roundw
            case rel => first | exact ⟨k + 1, m5, by omega, by go_num, rfl⟩ | ((repeat apply Exists.intro); exact ⟨⟨k + 1, m5, by omega, by go_num, rfl⟩, rfl⟩)
            case measure => simp [intOf]; omega
    · go_wp2_with fail
      go_ret
      exact ⟨rfl, below_drewN' _ (unhide HB2)⟩

end Go.Proofs.Qxb6003570a
