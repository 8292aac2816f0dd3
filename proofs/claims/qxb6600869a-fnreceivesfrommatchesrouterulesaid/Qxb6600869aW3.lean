import Derived.Test.Qxb6600869aJ
namespace Go.Proofs.Qxb6600869a
open Go.RowKit
set_option linter.unusedVariables false
set_option linter.unusedSimpArgs false
open Pl (Perm swp anyI rfm rfN cellB)

theorem ids_nat {w : World} {a : Option Addr} {len n : Nat} {F : Nat → Int} (h : ArgAt w a len F) (hi : ∀ i, i < len → 0 ≤ F i ∧ F i < (n : Int)) : ∃ N : Nat → Nat, (∀ i, i < len → N i < n) ∧ ArgAt w a len (fun i => (N i : Int)) := by
  have e : ∀ i, i < len → (((F i).toNat : Nat) : Int) = F i := fun i h => by have := hi i h; omega
  refine ⟨fun i => (F i).toNat, fun i h => by have := hi i h; dsimp only; omega, h.1, fun hl => ?_, fun i h2 => ?_⟩
  · obtain ⟨b, off, e1, hc⟩ := h.2.1 hl
    exact ⟨b, off, e1, fun i h2 => by dsimp only; rw [e i h2]; exact hc i h2⟩
  · dsimp only; rw [e i h2]; exact h.2.2 i h2

set_option maxRecDepth 100000 in
set_option maxHeartbeats 16000000 in
theorem walk3 (a0 : Int) (a1 : Option Addr) (len1 cap1 : Nat) (z1 : List Int) (a2 : Int) (a3 : Int) (a4 : Option Addr) (len4 cap4 : Nat) (z4 : List Int) (w : World) (w0 : (Lit.int .i64 a0).wf = true) (w1 : IsRow .i64 w a1 len1 cap1 z1) (w2 : (Lit.int .i64 a2).wf = true) (w3 : (Lit.int .i64 a3).wf = true) (w4 : IsRow .i64 w a4 len4 cap4 z4) :
    Calls Try.prog 3 #[.int .i64 a0, .slice a1 len1 cap1, .int .i64 a2, .int .i64 a3, .slice a4 len4 cap4] w fun e w' => e = .returned (.bool true) ∧ Below w.heap.size w w' := by
  have m1 : len1 ≤ maxLen := w1.len
  have m4 : len4 ≤ maxLen := w4.len
  have A1 := hide w1.arg
  have A4 := hide w4.arg
  generalize (fun i => z1.getD i 0) = F at *
  generalize (fun i => z4.getD i 0) = M at *
  clear w0 w1 w2 w3 w4
  have n1 := m1
  have n4 := m4
  unfold maxLen at m1 m4
  go_enter Try.func3, Try.ntmps3
  go_wp2_with fail
  refine (bytes7 w a0 a2 a3 a1 a4 len1 cap1 len4 cap4 n1 n4).mono ?_
  rintro e w' ⟨⟨r, rfl⟩, rfl⟩
  clear n1 n4
  cases r
  · go_wp2_with fail
    go_ret
    exact ⟨rfl, Below.refl _ _⟩
  by_cases hb0 : 32768 < len1
  · go_wp2_with fail
    go_ret
    exact ⟨rfl, Below.refl _ _⟩
  by_cases hb1 : 32768 < len4
  · go_wp2_with fail
    go_ret
    exact ⟨rfl, Below.refl _ _⟩
  by_cases hb2 : a0 < 0
  · go_wp2_with fail
    go_ret
    exact ⟨rfl, Below.refl _ _⟩
  by_cases hb3 : 32768 < a0
  · go_wp2_with fail
    go_ret
    exact ⟨rfl, Below.refl _ _⟩
  by_cases hb4 : a2 < 0
  · go_wp2_with fail
    go_ret
    exact ⟨rfl, Below.refl _ _⟩
  by_cases hb5 : a0 ≤ a2
  · go_wp2_with fail
    go_ret
    exact ⟨rfl, Below.refl _ _⟩
  by_cases hb6 : a3 < 0
  · go_wp2_with fail
    go_ret
    exact ⟨rfl, Below.refl _ _⟩
  by_cases hb7 : a0 ≤ a3
  · go_wp2_with fail
    go_ret
    exact ⟨rfl, Below.refl _ _⟩
  have d0 : decide ((32768 : Int) < (len1 : Int)) = false := decide_eq_false (by omega)
  have d1 : decide ((32768 : Int) < (len4 : Int)) = false := decide_eq_false (by omega)
  have d2 : decide (a0 < 0) = false := decide_eq_false (by omega)
  have d3 : decide (32768 < a0) = false := decide_eq_false (by omega)
  have d4 : decide (a2 < 0) = false := decide_eq_false (by omega)
  have d5 : decide (a0 ≤ a2) = false := decide_eq_false (by omega)
  have d6 : decide (a3 < 0) = false := decide_eq_false (by omega)
  have d7 : decide (a0 ≤ a3) = false := decide_eq_false (by omega)
  go_wp2_with fail
  clear d0 d1 d2 d3 d4 d5 d6 d7
  refine (idsIn_any w' a4 len4 cap4 a0 M (unhide A4) (by omega)).mono ?_
  rintro e ws ⟨⟨r, rfl, hids⟩, rfl⟩
  cases r
  · clear hids
    go_wp2_with fail
    go_ret
    exact ⟨rfl, Below.refl _ _⟩
  have hids2 := hids rfl
  obtain ⟨n, rfl⟩ := Int.eq_ofNat_of_zero_le (show 0 ≤ a0 by omega)
  obtain ⟨v, rfl⟩ := Int.eq_ofNat_of_zero_le (show 0 ≤ a2 by omega)
  obtain ⟨u, rfl⟩ := Int.eq_ofNat_of_zero_le (show 0 ≤ a3 by omega)
  obtain ⟨N, hN, hA4⟩ := ids_nat (unhide A4) hids2
  have HN := hide hN
  have A4n := hide hA4
  have hn : n ≤ 32768 := by omega
  have hv : v < n := by omega
  have hu : u < n := by omega
  have hl4 : len4 ≤ 32768 := by omega
  have hl1 : len1 ≤ 32768 := by omega
  clear hids hids2 hN hA4 A4 hb0 hb1 hb2 hb3 hb4 hb5 hb6 hb7 m1 m4
  go_wp2_with fail
  refine (clone_any ws a1 len1 cap1 F (unhide A1) (by omega)).mono ?_
  rintro e wa ⟨p1, c1, rfl, hown1, hbel1⟩
  have O1 := hide hown1
  have B1 := hide hbel1
  clear hown1 hbel1
  go_wp2_with fail
  refine (clone_any wa a4 len4 cap4 (fun i => (N i : Int)) ((unhide A4n).below (unhide B1)) (by omega)).mono ?_
  rintro e wb ⟨p4, c4, rfl, hown4, hbel4⟩
  have O4 := hide hown4
  have B4 := hide hbel4
  clear hown4 hbel4
  go_wp2_with fail
  refine (newGrid_any wb n p1 len1 c1 F (own_arg (own_below (unhide O1) (unhide B4) (Nat.le_refl _)) (unhide A1).2.2) (by omega) (by omega)).mono ?_
  rintro e wg ⟨gb, ab, rb, cb, wd, A, B, rfl, hgr, hbg, hab, hgb⟩
  have HGr := hide hgr
  have HBg := hide hbg
  have sz1 : ws.heap.size ≤ wa.heap.size := (unhide B1).size
  have sz2 : wa.heap.size ≤ wb.heap.size := (unhide B4).size
  have BB : Hid (Below ws.heap.size ws wg) := (unhide B1).trans (((unhide B4).mono sz1).trans ((unhide HBg).mono (by omega)))
  have HMg := hide (own_arg (own_below (unhide O4) (unhide HBg) (Nat.le_refl _)) (unhide A4n).2.2)
  clear hgr hbg hab hgb O1 A1 B1 B4 HBg O4 A4n sz1
  go_wp2_with fail
  refine (rf_any wg gb ab rb cb n wd A B (unhide HGr) v u hv hu hn p4 len4 c4 N (unhide HMg) (unhide HN) hl4).mono ?_
  rintro e wh ⟨rfl, hbh⟩
  have HG := hide ((unhide HGr).below hbh)
  have HM := hide ((unhide HMg).below hbh)
  have BE : Hid (Below ws.heap.size ws wh) := (unhide BB).trans (hbh.mono (unhide BB).size)
  clear hbh HGr HMg BB sz2
  have hwd : wd ≤ 32768 := Nat.le_trans (Nat.le_mul_self wd) (Nat.le_trans (unhide HG).lay.wsq hn)
  have hwd1 : 1 ≤ wd := (unhide HG).lay.wpos (by omega)
  have HH := hide (hasInt_any wh p4 len4 c4 (v : Int) (fun i => (N i : Int)) (unhide HM) (by omega))
  obtain ⟨got, hgot⟩ : ∃ x, rfAll B wd v u N len4 = x := ⟨_, rfl⟩
  rw [hgot]
  cases hne : ((u : Int) != (v : Int))
  · have huv : ((u : Int) == (v : Int)) = true := by simpa [bne] using hne
    have eg : got = false := hgot.symm.trans (rfAll_same huv)
    subst eg
    clear hgot huv HH
    go_wp2_with fail
    go_ret
    exact ⟨rfl, unhide BE⟩
  · have huv : Hid (((u : Int) == (v : Int)) = false) := by show _ = _; simpa [bne] using hne
    cases hh : hasI (fun i => (N i : Int)) len4 v
    · rw [hh] at HH
      have HGot : Hid (anyI (fun i => rfN B wd v u (N i)) len4 = got) := (rfAll_any (unhide huv) hh).symm.trans hgot
      have hNu : u ≠ v := fun e => by have := unhide huv; rw [e] at this; simp at this
      clear hgot hh huv
      obtain ⟨g, hg⟩ : ∃ g, (fun i => rfN B wd v u (N i)) = g := ⟨_, rfl⟩
      have HL0 := hide (fun m (hm : m < n) => Pl.rule_line (unhide HG).lay.perm (wd := wd) hv hu hm hNu)
      have HO0 := hide (fun m => Pl.rule_off (unhide HG).lay.perm (wd := wd) (v := v) (m := m) hwd1 hu)
      have HC0 := hide (fun r c (hr : r ≤ 32768) (hc : c ≤ 32768) => cellIs_any wh ab n A (fun p hp => ((unhide HG).lay.at_ p hp).1) wd r c (u : Int) hr hwd hc hn)
      have HBb := hide ((unhide HG).lay.perm.b)
      have HR0 := hide (fun x hx => ((unhide HG).lay.rows x hx).1)
      have HK0 := hide (fun x hx => ((unhide HG).lay.cols x hx).1)
      have hcr := unhide HR0 v hv
      have hcc := unhide HK0 v hv
      dsimp only at hcr hcc
      have HGg : Hid (∀ i, g i = rfN B wd v u (N i)) := fun i => by rw [← hg]
      rw [hg] at HGot
      clear hg hNu
      have hrv : B v / wd ≤ 32768 := Nat.le_trans (Nat.div_le_self _ _) (by have := unhide HBb v hv; omega)
      have hcv : B v % wd ≤ 32768 := Nat.le_trans (Nat.mod_le _ _) (by have := unhide HBb v hv; omega)
      obtain ⟨rf, hrf⟩ : ∃ rf : Nat → Bool, (fun m => rfN B wd v u m) = rf := ⟨_, rfl⟩
      have HGf : Hid (∀ i, g i = rf (N i)) := fun i => by rw [← hrf]; exact unhide HGg i
      have HL1 : Hid (∀ m, m < n → B m / wd = B v / wd ∨ B m % wd = B v % wd → rf m = ((m : Int) == (u : Int))) := fun m hm h => by rw [← hrf]; exact unhide HL0 m hm h
      have HO1 : Hid (∀ m, rf m = (cellB A n wd (B v / wd) (B m % wd) u || cellB A n wd (B m / wd) (B v % wd) u)) := fun m => by rw [← hrf]; exact unhide HO0 m
      clear hrf HGg HL0 HO0
      generalize B v / wd = rv at *
      generalize B v % wd = cv at *
      go_wp2_with fail
      refine (unhide HH).mono ?_
      rintro e wi ⟨rfl, rfl⟩
      clear HH
      go_wp2_with fail
      go_loop [17, 20, 21, 22, 23] (fun s17 iv s21 s22 s23 => ∃ (k : Nat) (bk : Bool), k ≤ len4 ∧ iv = .int .i64 (k : Int) ∧ s17 = .bool bk ∧ anyI g k = bk) (fun _ iv _ _ _ => len4 - (intOf iv).toNat)
      case atStart => exact ⟨0, false, Nat.zero_le _, rfl, rfl, rfl⟩
      case round =>
        obtain ⟨k, bk, hk, rfl, rfl, hbk⟩ := hrel
        have HB := hide hbk
        clear hbk
        by_cases hlt : k < len4
        · obtain ⟨b, off, e, hc⟩ := (unhide HM).2.1 (by omega)
          subst e
          have hcell := hc k hlt
          dsimp only at hcell
          have hNk := unhide HN k hlt
          have hc1 := unhide HR0 (N k) hNk
          have hc2 := unhide HK0 (N k) hNk
          try dsimp only at hc1
          try dsimp only at hc2
          have HL : Hid (((B (N k) / wd : Nat) : Int) = (rv : Int) ∨ ((B (N k) % wd : Nat) : Int) = (cv : Int) → g k = (((N k : Nat) : Int) == (u : Int))) := fun h => (unhide HGf k).trans (unhide HL1 (N k) hNk (by omega))
          have HO : Hid (g k = (cellB A n wd rv (B (N k) % wd) u || cellB A n wd (B (N k) / wd) cv u)) := (unhide HGf k).trans (unhide HO1 (N k))
          have hrm : B (N k) / wd ≤ 32768 := Nat.le_trans (Nat.div_le_self _ _) (by have := unhide HBb (N k) hNk; omega)
          have hcm : B (N k) % wd ≤ 32768 := Nat.le_trans (Nat.mod_le _ _) (by have := unhide HBb (N k) hNk; omega)
          clear hc
          generalize B (N k) / wd = rm at *
          generalize B (N k) % wd = cm at *
          generalize N k = mm at *
          have HC1 := hide (unhide HC0 rv cm hrv hcm)
          have HC2 := hide (unhide HC0 rm cv hrm hcv)
          cases h1 : ((rm : Int) == (rv : Int))
          · cases h2 : ((cm : Int) == (cv : Int))
            · cases hx : cellB A n wd rv cm (u : Int)
              · rw [hx] at HC1
                cases hy : cellB A n wd rm cv (u : Int)
                · rw [hy] at HC2
                  have hgf : Hid (g k = false) := by show _ = _; rw [unhide HO, hx, hy]; rfl
                  have hnx : Hid (anyI g (k + 1) = bk) := (Pl.anyI_same (unhide hgf)).trans (unhide HB)
                  clear hx hy HO
                  go_wp2_with fail
                  refine (unhide HC1).mono ?_
                  rintro e w1 ⟨rfl, rfl⟩
                  go_wp2_with fail
                  refine (unhide HC2).mono ?_
                  rintro e w2 ⟨rfl, rfl⟩
                  go_wp2_with fail
                  go_round
                  case rel => first | exact ⟨k + 1, bk, by omega, by go_num, rfl, unhide hnx⟩ | (refine ⟨trivial, ?_⟩; (repeat apply Exists.intro); refine ⟨?_, rfl⟩; exact ⟨k + 1, bk, by omega, by go_num, rfl, unhide hnx⟩) | ((repeat apply Exists.intro); refine ⟨?_, rfl⟩; exact ⟨k + 1, bk, by omega, by go_num, rfl, unhide hnx⟩)
                  case measure => simp [intOf]; omega
                · rw [hy] at HC2
                  have hgf : Hid (g k = true) := by show _ = _; rw [unhide HO, hx, hy]; rfl
                  have hnx : Hid (anyI g (k + 1) = true) := Pl.anyI_hit (unhide hgf)
                  clear hx hy HO
                  go_wp2_with fail
                  refine (unhide HC1).mono ?_
                  rintro e w1 ⟨rfl, rfl⟩
                  go_wp2_with fail
                  refine (unhide HC2).mono ?_
                  rintro e w2 ⟨rfl, rfl⟩
                  go_wp2_with fail
                  go_round
                  case rel => first | exact ⟨k + 1, true, by omega, by go_num, rfl, unhide hnx⟩ | (refine ⟨trivial, ?_⟩; (repeat apply Exists.intro); refine ⟨?_, rfl⟩; exact ⟨k + 1, true, by omega, by go_num, rfl, unhide hnx⟩) | ((repeat apply Exists.intro); refine ⟨?_, rfl⟩; exact ⟨k + 1, true, by omega, by go_num, rfl, unhide hnx⟩)
                  case measure => simp [intOf]; omega
              · rw [hx] at HC1
                have hgf : Hid (g k = true) := by show _ = _; rw [unhide HO, hx]; rfl
                have hnx : Hid (anyI g (k + 1) = true) := Pl.anyI_hit (unhide hgf)
                clear hx HO
                go_wp2_with fail
                refine (unhide HC1).mono ?_
                rintro e w1 ⟨rfl, rfl⟩
                go_wp2_with fail
                go_round
                case rel => first | exact ⟨k + 1, true, by omega, by go_num, rfl, unhide hnx⟩ | (refine ⟨trivial, ?_⟩; (repeat apply Exists.intro); refine ⟨?_, rfl⟩; exact ⟨k + 1, true, by omega, by go_num, rfl, unhide hnx⟩) | ((repeat apply Exists.intro); refine ⟨?_, rfl⟩; exact ⟨k + 1, true, by omega, by go_num, rfl, unhide hnx⟩)
                case measure => simp [intOf]; omega
            · have hl := hide ((unhide HL) (.inr (by simpa using h2)))
              cases h3 : ((mm : Int) == (u : Int))
              · have hgf : Hid (g k = false) := (unhide hl).trans h3
                have hnx : Hid (anyI g (k + 1) = bk) := (Pl.anyI_same (unhide hgf)).trans (unhide HB)
                go_wp2_with fail
                go_round
                case rel => first | exact ⟨k + 1, bk, by omega, by go_num, rfl, unhide hnx⟩ | (refine ⟨trivial, ?_⟩; (repeat apply Exists.intro); refine ⟨?_, rfl⟩; exact ⟨k + 1, bk, by omega, by go_num, rfl, unhide hnx⟩) | ((repeat apply Exists.intro); refine ⟨?_, rfl⟩; exact ⟨k + 1, bk, by omega, by go_num, rfl, unhide hnx⟩)
                case measure => simp [intOf]; omega
              · have hgf : Hid (g k = true) := (unhide hl).trans h3
                have hnx : Hid (anyI g (k + 1) = true) := Pl.anyI_hit (unhide hgf)
                go_wp2_with fail
                go_round
                case rel => first | exact ⟨k + 1, true, by omega, by go_num, rfl, unhide hnx⟩ | (refine ⟨trivial, ?_⟩; (repeat apply Exists.intro); refine ⟨?_, rfl⟩; exact ⟨k + 1, true, by omega, by go_num, rfl, unhide hnx⟩) | ((repeat apply Exists.intro); refine ⟨?_, rfl⟩; exact ⟨k + 1, true, by omega, by go_num, rfl, unhide hnx⟩)
                case measure => simp [intOf]; omega
          · have hl := hide ((unhide HL) (.inl (by simpa using h1)))
            cases h3 : ((mm : Int) == (u : Int))
            · have hgf : Hid (g k = false) := (unhide hl).trans h3
              have hnx : Hid (anyI g (k + 1) = bk) := (Pl.anyI_same (unhide hgf)).trans (unhide HB)
              go_wp2_with fail
              go_round
              case rel => first | exact ⟨k + 1, bk, by omega, by go_num, rfl, unhide hnx⟩ | (refine ⟨trivial, ?_⟩; (repeat apply Exists.intro); refine ⟨?_, rfl⟩; exact ⟨k + 1, bk, by omega, by go_num, rfl, unhide hnx⟩) | ((repeat apply Exists.intro); refine ⟨?_, rfl⟩; exact ⟨k + 1, bk, by omega, by go_num, rfl, unhide hnx⟩)
              case measure => simp [intOf]; omega
            · have hgf : Hid (g k = true) := (unhide hl).trans h3
              have hnx : Hid (anyI g (k + 1) = true) := Pl.anyI_hit (unhide hgf)
              go_wp2_with fail
              go_round
              case rel => first | exact ⟨k + 1, true, by omega, by go_num, rfl, unhide hnx⟩ | (refine ⟨trivial, ?_⟩; (repeat apply Exists.intro); refine ⟨?_, rfl⟩; exact ⟨k + 1, true, by omega, by go_num, rfl, unhide hnx⟩) | ((repeat apply Exists.intro); refine ⟨?_, rfl⟩; exact ⟨k + 1, true, by omega, by go_num, rfl, unhide hnx⟩)
              case measure => simp [intOf]; omega
        · have e : len4 = k := by omega
          have eg : got = bk := by rw [← unhide HGot, e]; exact unhide HB
          clear e
          subst eg
          clear HGot HB
          cases got
          · go_wp2_with fail
            go_ret
            exact ⟨rfl, unhide BE⟩
          · go_wp2_with fail
            go_ret
            exact ⟨rfl, unhide BE⟩
    · rw [hh] at HH
      have eg : got = false := hgot.symm.trans (rfAll_has hh)
      subst eg
      clear hgot hh huv
      go_wp2_with fail
      refine (unhide HH).mono ?_
      rintro e wi ⟨rfl, rfl⟩
      go_wp2_with fail
      go_ret
      exact ⟨rfl, unhide BE⟩

end Go.Proofs.Qxb6600869a
