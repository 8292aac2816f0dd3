import Derived.Test.Qxb6003570aF
namespace Go.Proofs.Qxb6003570a
open Go.RowKit
set_option linter.unusedVariables false
set_option linter.unusedSimpArgs false
open Pl (fan wid sta Pos has fr mm Valid idx Right Done Turn cntlt)

theorem FindRel.start {n src : Nat} {rep : Bool} {L len : Nat} {F : Nat → Int} (he : F 0 = (src : Int)) (hl : 1 ≤ len) : FindRel n src rep L len F 1 0 := by
  refine ⟨by omega, hl, fun j hj => ?_, ⟨?_, fun i h1 h2 => by omega⟩, by simp [sta, idx]⟩
  · have : j = 0 := by omega
    subst this; omega
  · simp only [nat]; omega

theorem FindRel.bd {n src : Nat} {rep : Bool} {L len : Nat} {F : Nat → Int} {i v : Nat} (h : FindRel n src rep L len F i v) (hs : src < n) : sta n rep (i - 1) ≤ v ∧ v < sta n rep i := by
  obtain ⟨h1, _, _, h4, h5⟩ := h
  have := Pl.idx_lt hs (i - 1) h4
  refine ⟨by omega, ?_⟩
  obtain ⟨d, rfl⟩ : ∃ d, i = d + 1 := ⟨i - 1, by omega⟩
  simp only [Nat.add_sub_cancel] at *
  show v < sta n rep d + wid n rep d
  omega

theorem children_i (w : World) (b g cap n src : Nat) (rep : Bool) (L : Nat) (h : Shp w b g cap n src rep L) (i v : Nat) (hi : 1 ≤ i) (hd : i < L) (h1 : sta n rep (i - 1) ≤ v) (h2 : v < sta n rep i) :
    Calls Try.prog 24 #[.pointer (some ⟨b, 0, none⟩), .int .i64 (v : Int)] w fun e w' => ∃ last : Int,
      e = .returned (.tuple #[.int .i64 ((sta n rep i + (v - sta n rep (i - 1)) * fan n rep i : Nat) : Int), .int .i64 last]) ∧ ∃ m, w' = w.drewN m := by
  obtain ⟨d, rfl⟩ : ∃ d, i = d + 1 := ⟨i - 1, by omega⟩
  simp only [Nat.add_sub_cancel] at *
  exact (children_any w b g cap n src rep L h d v hd h1 h2).mono (fun e w' hh => ⟨_, hh⟩)

theorem FindRel.rank {n src : Nat} {rep : Bool} {L len : Nat} {F : Nat → Int} {i v : Nat} (h : FindRel n src rep L len F i v) (p : Nat) : (p : Int) - (cntlt (nat F) (mm rep i) p : Int) = (fr (has (nat F) (mm rep i)) p : Int) := by
  obtain ⟨h1, _, _, h4, _⟩ := h
  obtain ⟨d, rfl⟩ : ∃ d, i = d + 1 := ⟨i - 1, by omega⟩
  exact Pl.rank_eq h4 p

theorem FindRel.first_bd {n src : Nat} {rep : Bool} {L len : Nat} {F : Nat → Int} {i v : Nat} (h : FindRel n src rep L len F i v) (hs : src < n) (hn : n ≤ 12) (hi : i + 1 ≤ 8) : sta n rep i + (v - sta n rep (i - 1)) * fan n rep i ≤ 429981696 := by
  obtain ⟨h1, _, _, h4, h5⟩ := h
  have h6 := Pl.idx_lt hs (i - 1) h4
  obtain ⟨d, rfl⟩ : ∃ d, i = d + 1 := ⟨i - 1, by omega⟩
  simp only [Nat.add_sub_cancel] at *
  rw [h5, Nat.add_sub_cancel_left]
  have h7 : idx n rep (nat F) d * fan n rep (d + 1) ≤ wid n rep d * fan n rep (d + 1) := Nat.mul_le_mul_right _ (by omega)
  have h8 := Pl.sta_bd n rep hn (d + 2) hi
  have h9 : sta n rep (d + 2) = sta n rep (d + 1) + wid n rep d * fan n rep (d + 1) := rfl
  omega

set_option maxRecDepth 100000 in
set_option maxHeartbeats 4000000 in
theorem find_yes (w : World) (b g cp : Nat) (pb po len cap n src : Nat) (rep : Bool) (L : Nat) (F : Nat → Int) (h : Shp w b g cp n src rep L) (hl : 1 ≤ len) (hcap : len ≤ cap) (hc : ∀ i, i < len → w.cell? ⟨pb, po + i, none⟩ = some (.int .i64 (F i)))
    (hwf : ∀ i, i < len → -9223372036854775808 ≤ F i ∧ F i ≤ 9223372036854775807) (he : F 0 = (src : Int)) (hL : len ≤ L) :
    Calls Try.prog 13 #[.pointer (some ⟨b, 0, none⟩), .slice (some ⟨pb, po, none⟩) len cap] w fun e w' => FindEnd n src rep L len F e ∧ ∃ m, w' = w.drewN m := by
  have HL := hide (fun m => levels_any (w.drewN m) b g cp n src rep L (h.drewN m))
  have HS := hide h
  have HC := hide hc
  have HW := hide hwf
  have HE := hide (FindRel.start (n := n) (rep := rep) (L := L) he hl)
  have h0 := hc 0 (by omega)
  rw [he] at h0
  simp only [Nat.add_zero] at h0
  have hL2 := h.hL2
  have hn2 := h.hn2
  have hs := h.hs
  have hc1 := h.c1
  have hb0 : ((len : Int) == 0) = false := by rw [beq_eq_false_iff_ne]; omega
  have hb1 : ((src : Int) != (src : Int)) = false := by simp
  have hd1 : decide ((L : Int) < (len : Int)) = false := by simp; omega
  have hd2 : decide (L < len) = false := by simp; omega
  clear h he hc hwf
  go_enter Try.func13, Try.ntmps13
  go_wp2_with fail
  go_quiet ((go_at_call 17; exact Calls.quiet_of_same (unhide HL _)))
  go_wp2_with fail
  clear h0 hc1 HL
  go_loopw [6, 7, 8, 9, 10, 12, 13, 14] (fun v i s8 s9 s10 s12 s13 s14 wr => ∃ iv vv m : Nat, FindRel n src rep L len F iv vv ∧ i = .int .i64 (iv : Int) ∧ v = .int .i64 (vv : Int) ∧ wr = w.drewN m) (fun _ i _ _ _ _ _ _ _ => len - (intOf i).toNat)
  case atStart => exact ⟨1, 0, nq, unhide HE, rfl, rfl, rfl⟩
  case round =>
    obtain ⟨i, v, m, hrel, rfl, rfl, rfl⟩ := hrel
    have hi1 := hrel.1
    have hi2 := hrel.2.1
    have HR := hide hrel
    obtain ⟨hv1, hv2⟩ := hrel.bd hs
    have hv3 : v ≤ 429981696 := by have := Pl.sta_bd n rep hn2 i (by omega); omega
    clear hrel
    by_cases hin : i < len
    · have hci := unhide HC i hin
      have hwi := unhide HW i hin
      have hc2 := (unhide HS).c2
      have hc0 := (unhide HS).c0
      by_cases hneg : F i < 0
      · have hfin := hide (FindEnd.no_step (n := n) (src := src) (rep := rep) (L := L) (F := F) hi1 hin (.inl hneg))
        cases rep
        all_goals
          go_wp2_with fail
          go_ret2
          exact ⟨unhide hfin, _, rfl⟩
      · by_cases hbig : (n : Int) ≤ F i
        · have hfin := hide (FindEnd.no_step (n := n) (src := src) (rep := rep) (L := L) (F := F) hi1 hin (.inr (.inl hbig)))
          cases rep
          all_goals
            go_wp2_with fail
            go_ret2
            exact ⟨unhide hfin, _, rfl⟩
        · obtain ⟨p, hp⟩ := Int.eq_ofNat_of_zero_le (show 0 ≤ F i by omega)
          have hpn : p < n := by omega
          rw [hp] at hci
          have HP := hide hp
          have hml := Pl.mm_le rep i hi1
          have hm1 := Pl.mm_pos rep i hi1
          have hcells : Hid (∀ j, j < mm rep i → w.cell? ⟨pb, po + j, none⟩ = some (.int .i64 (F j))) := fun j hj => unhide HC j (by omega)
          have hcn : Hid (∀ j, j < mm rep i → F j = ((nat F j : Nat) : Int)) := fun j hj => by
            have := (unhide HR).2.2.1 j (by omega)
            simp only [nat]; omega
          have HCon := hide (fun c => contains_any (w.drewN m) pb po (mm rep i) c (p : Int) F (by simpa using unhide hcells) (by omega))
          clear hp hwi hneg hbig
          cases hh : hasI F (mm rep i) (p : Int)
          · have hnx := hide ((unhide HR).next hin (by have := unhide HP; omega) (by have := unhide HP; omega) (by rw [unhide HP]; exact hh))
            rw [hh] at HCon
            have hrk := hide ((unhide HR).rank p)
            have hnp : Hid (nat F i = p) := by show _ = _; simp only [nat]; rw [unhide HP]; rfl
            have hfb := (unhide HR).first_bd hs hn2 (by omega)
            have hcl := Pl.cntlt_le (nat F) p
            have HCl := hide hcl
            clear hcl hh
            have HCh := hide (fun m => children_i (w.drewN m) b g cp n src rep L ((unhide HS).drewN m) i v hi1 (by omega) hv1 hv2)
            generalize hC : sta n rep i + (v - sta n rep (i - 1)) * fan n rep i = C at *
            clear hC
            cases rep
            · simp only [mm] at HCon hcells hcn hrk hnx hml hm1
              simp only [if_true, Bool.false_eq_true, if_false] at HCon hcells hcn hrk hnx hml hm1
              go_wp2_with fail
              refine (unhide HCon _).mono ?_
              rintro e w' ⟨rfl, rfl⟩
              go_wp2_with fail
              go_loop [10, 12, 72] (fun r q kv => ∃ k : Nat, k ≤ i ∧ kv = .int .i64 (k : Int) ∧ r = .int .i64 ((p : Int) - (cntlt (nat F) k p : Int))) (fun _ _ kv => i - (intOf kv).toNat)
              case atStart => exact ⟨0, by omega, rfl, by simp [cntlt]⟩
              case round =>
                obtain ⟨k, hk, rfl, rfl⟩ := hrel
                have hck := unhide HCl k
                by_cases hkm : k < i
                · have hcell := unhide hcells k hkm
                  rw [unhide hcn k hkm] at hcell
                  by_cases hlt : nat F k < p
                  · have hst : Hid (cntlt (nat F) (k + 1) p = cntlt (nat F) k p + 1) := by show _ = _; simp [cntlt, hlt]
                    go_wp2_with fail
                    go_round
                    case rel => exact ⟨k + 1, by omega, by go_num, by rw [unhide hst]; go_num⟩
                    case measure => simp [intOf]; omega
                  · have hst : Hid (cntlt (nat F) (k + 1) p = cntlt (nat F) k p) := by show _ = _; simp [cntlt, hlt]
                    go_wp2_with fail
                    go_round
                    case rel => exact ⟨k + 1, by omega, by go_num, by rw [unhide hst]⟩
                    case measure => simp [intOf]; omega
                · have e : i = k := by omega
                  subst e
                  go_wp2_with fail
                  refine (unhide HCh m).mono ?_
                  rintro e w' ⟨last, rfl, m', rfl⟩
                  go_wp2_with fail
                  go_roundw
                  case rel => first | exact ⟨i + 1, _, _, unhide hnx, by go_num, by rw [unhide hnp, Int.natCast_add _ (fr _ _), ← unhide hrk], rfl⟩ | ((repeat apply Exists.intro); exact ⟨⟨i + 1, _, _, unhide hnx, by go_num, by rw [unhide hnp, Int.natCast_add _ (fr _ _), ← unhide hrk], rfl⟩, rfl⟩)
                  case measure => simp [intOf]; omega
            · simp only [mm] at HCon hcells hcn hrk hnx hml hm1
              simp only [if_true, Bool.false_eq_true, if_false] at HCon hcells hcn hrk hnx hml hm1
              go_wp2_with fail
              refine (unhide HCon _).mono ?_
              rintro e w' ⟨rfl, rfl⟩
              go_wp2_with fail
              go_loop [10, 12, 72] (fun r q kv => ∃ k : Nat, k ≤ 1 ∧ kv = .int .i64 (k : Int) ∧ r = .int .i64 ((p : Int) - (cntlt (nat F) k p : Int))) (fun _ _ kv => 1 - (intOf kv).toNat)
              case atStart => exact ⟨0, by omega, rfl, by simp [cntlt]⟩
              case round =>
                obtain ⟨k, hk, rfl, rfl⟩ := hrel
                have hck := unhide HCl k
                by_cases hkm : k < 1
                · have hcell := unhide hcells k hkm
                  rw [unhide hcn k hkm] at hcell
                  by_cases hlt : nat F k < p
                  · have hst : Hid (cntlt (nat F) (k + 1) p = cntlt (nat F) k p + 1) := by show _ = _; simp [cntlt, hlt]
                    go_wp2_with fail
                    go_round
                    case rel => exact ⟨k + 1, by omega, by go_num, by rw [unhide hst]; go_num⟩
                    case measure => simp [intOf]; omega
                  · have hst : Hid (cntlt (nat F) (k + 1) p = cntlt (nat F) k p) := by show _ = _; simp [cntlt, hlt]
                    go_wp2_with fail
                    go_round
                    case rel => exact ⟨k + 1, by omega, by go_num, by rw [unhide hst]⟩
                    case measure => simp [intOf]; omega
                · obtain rfl : k = 1 := by omega
                  go_wp2_with fail
                  refine (unhide HCh m).mono ?_
                  rintro e w' ⟨last, rfl, m', rfl⟩
                  go_wp2_with fail
                  go_roundw
                  case rel => first | exact ⟨i + 1, _, _, unhide hnx, by go_num, by rw [unhide hnp, Int.natCast_add _ (fr _ _), ← unhide hrk], rfl⟩ | ((repeat apply Exists.intro); exact ⟨⟨i + 1, _, _, unhide hnx, by go_num, by rw [unhide hnp, Int.natCast_add _ (fr _ _), ← unhide hrk], rfl⟩, rfl⟩)
                  case measure => simp [intOf]; omega
          · have hfin := hide (FindEnd.no_step (n := n) (src := src) (rep := rep) (L := L) (F := F) hi1 hin (.inr (.inr (by rw [unhide HP]; exact hh))))
            rw [hh] at HCon
            clear hh
            cases rep
            all_goals
              simp only [mm] at HCon
              simp only [if_true, Bool.false_eq_true, if_false] at HCon
              go_wp2_with fail
              refine (unhide HCon _).mono ?_
              rintro e w' ⟨rfl, rfl⟩
              go_wp2_with fail
              go_ret2
              exact ⟨unhide hfin, _, rfl⟩
    · have e : i = len := by omega
      subst e
      have hfin := hide ((unhide HR).fin hL)
      go_wp2_with fail
      go_ret2
      exact ⟨unhide hfin, _, rfl⟩

/-- 'Find', for every path. -/
theorem find_any (w : World) (b g cp : Nat) (pa : Option Addr) (len cap n src : Nat) (rep : Bool) (L : Nat) (F : Nat → Int) (h : Shp w b g cp n src rep L) (hp : PathAt w pa len cap F)
    (hwf : ∀ i, i < len → -9223372036854775808 ≤ F i ∧ F i ≤ 9223372036854775807) (hm : len ≤ 1000000) :
    Calls Try.prog 13 #[.pointer (some ⟨b, 0, none⟩), .slice pa len cap] w fun e w' => FindEnd n src rep L len F e ∧ ∃ m, w' = w.drewN m := by
  rcases hp with ⟨rfl, rfl, rfl⟩ | ⟨pb, po, rfl, hcap, hc⟩
  · exact find_no0 w b none 0 n src rep L F
  · by_cases h0 : len = 0
    · subst h0
      exact find_no0 w b _ cap n src rep L F
    · have hc0 := hc 0 (by omega)
      rw [Nat.add_zero] at hc0
      by_cases he : F 0 = (src : Int)
      · by_cases hL : len ≤ L
        · exact find_yes w b g cp pb po len cap n src rep L F h (by omega) hcap hc hwf he hL
        · exact find_no2 w b g cp pb po len cap n src rep L F h (by omega) hc0 he (by omega) hm
      · exact find_no1 w b g cp pb po len cap n src rep L F h (by omega) hc0 he hm

/-- A path that names a vertex is found. -/
theorem FindEnd.of_valid {n src : Nat} {rep : Bool} {L d : Nat} {F : Nat → Int} {e : Ending} {f : Nat → Nat} (h : FindEnd n src rep L (d + 1) F e) (hd : d < L) (hf : ∀ i, i ≤ d → F i = (f i : Int)) (hv : Valid n src rep f d) :
    e = .returned (.tuple #[.int .i64 ((sta n rep d + idx n rep f d : Nat) : Int), .bool true]) := by
  rcases h with ⟨_, h⟩ | ⟨f', d', h1, h2, h3, h4, h5⟩
  · exact absurd hv (h f d rfl hd hf)
  · obtain rfl : d = d' := by omega
    rw [h5, Pl.idx_congr n rep f' f d (fun i hi => by have a := h3 i hi; have b := hf i hi; omega)]

end Go.Proofs.Qxb6003570a
