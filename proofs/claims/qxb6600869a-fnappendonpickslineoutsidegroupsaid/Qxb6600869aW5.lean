import Derived.Test.Qxb6600869aH2
namespace Go.Proofs.Qxb6600869a
open Go.RowKit
set_option linter.unusedVariables false
set_option linter.unusedSimpArgs false
open Pl (Perm swp wl sel)

set_option maxRecDepth 100000 in
set_option maxHeartbeats 16000000 in
theorem walk5 (a0 : Int) (a1 : Option Addr) (len1 cap1 : Nat) (z1 : List Int) (a2 : Option Addr) (len2 cap2 : Nat) (z2 : List Int) (a3 : Int) (a4 : Int) (a5 : Int) (a6 : Int) (a7 : Option Addr) (len7 cap7 : Nat) (z7 : List Int) (w : World) (w0 : (Lit.int .i64 a0).wf = true) (w1 : IsRow .i64 w a1 len1 cap1 z1) (w2 : IsRow .i64 w a2 len2 cap2 z2) (w3 : (Lit.int .i64 a3).wf = true) (w4 : (Lit.int .i64 a4).wf = true) (w5 : (Lit.int .i64 a5).wf = true) (w6 : (Lit.int .i64 a6).wf = true) (w7 : IsRow .i64 w a7 len7 cap7 z7) :
    Calls Try.prog 5 #[.int .i64 a0, .slice a1 len1 cap1, .slice a2 len2 cap2, .int .i64 a3, .int .i64 a4, .int .i64 a5, .int .i64 a6, .slice a7 len7 cap7] w fun e w' => e = .returned (.bool true) ∧ Below w.heap.size w w' := by
  obtain ⟨i0, hi0, hz0, hz1, hz2⟩ := info_parts Try.info3
  have b3 := bounds_i64 w3
  have b4 := bounds_i64 w4
  have m1 : len1 ≤ maxLen := w1.len
  have m2 : len2 ≤ maxLen := w2.len
  have m7 : len7 ≤ maxLen := w7.len
  have A1 := hide w1.arg
  have A2 := hide w2.arg
  have A7 := hide w7.arg
  generalize (fun i => z1.getD i 0) = F at *
  generalize (fun i => z2.getD i 0) = G at *
  generalize (fun i => z7.getD i 0) = M at *
  clear w0 w1 w2 w3 w4 w5 w6 w7
  have n1 := m1
  have n2 := m2
  have n7 := m7
  unfold maxLen at m1 m2 m7
  go_enter Try.func5, Try.ntmps5
  go_wp2_with fail
  refine (bytes15 w a0 a3 a4 a5 a6 a1 a2 a7 len1 cap1 len2 cap2 len7 cap7 n1 n2 n7).mono ?_
  rintro e w' ⟨⟨r, rfl⟩, rfl⟩
  clear n1 n2 n7
  cases r
  · go_wp2_with fail
    go_ret
    exact ⟨rfl, Below.refl _ _⟩
  by_cases hb1 : 32768 < len1
  · go_wp2_with fail
    go_ret
    exact ⟨rfl, Below.refl _ _⟩
  by_cases hb2 : 32768 < len2
  · go_wp2_with fail
    go_ret
    exact ⟨rfl, Below.refl _ _⟩
  by_cases hb7 : 32768 < len7
  · go_wp2_with fail
    go_ret
    exact ⟨rfl, Below.refl _ _⟩
  by_cases hn0 : a0 < 0
  · go_wp2_with fail
    go_ret
    exact ⟨rfl, Below.refl _ _⟩
  by_cases hn1 : 32768 < a0
  · go_wp2_with fail
    go_ret
    exact ⟨rfl, Below.refl _ _⟩
  by_cases hs0 : a3 < 0
  · go_wp2_with fail
    go_ret
    exact ⟨rfl, Below.refl _ _⟩
  by_cases hp0 : a5 < 1
  · go_wp2_with fail
    go_ret
    exact ⟨rfl, Below.refl _ _⟩
  by_cases hp1 : 65536 < a5
  · go_wp2_with fail
    go_ret
    exact ⟨rfl, Below.refl _ _⟩
  by_cases he0 : a0 < a4
  · go_wp2_with fail
    go_ret
    exact ⟨rfl, Below.refl _ _⟩
  have d1 : decide ((32768 : Int) < (len1 : Int)) = false := decide_eq_false (by omega)
  have d2 : decide ((32768 : Int) < (len2 : Int)) = false := decide_eq_false (by omega)
  have d7 : decide ((32768 : Int) < (len7 : Int)) = false := decide_eq_false (by omega)
  have d3 : decide (a0 < 0) = false := decide_eq_false (by omega)
  have d4 : decide (32768 < a0) = false := decide_eq_false (by omega)
  have d5 : decide (a3 < 0) = false := decide_eq_false (by omega)
  have d6 : decide (a5 < 1) = false := decide_eq_false (by omega)
  have d8 : decide (65536 < a5) = false := decide_eq_false (by omega)
  have d9 : decide (a0 < a4) = false := decide_eq_false (by omega)
  go_wp2_with fail
  clear d1 d2 d7 d3 d4 d5 d6 d8 d9
  obtain ⟨n, rfl⟩ := Int.eq_ofNat_of_zero_le (show 0 ≤ a0 by omega)
  obtain ⟨st, rfl⟩ := Int.eq_ofNat_of_zero_le (show 0 ≤ a3 by omega)
  obtain ⟨sp, rfl⟩ := Int.eq_ofNat_of_zero_le (show 0 ≤ a5 by omega)
  refine (clone_any w' a1 len1 cap1 F (unhide A1) (by omega)).mono ?_
  rintro e wa ⟨p1, c1, rfl, hown1, hbel1⟩
  have O1 := hide hown1
  have B1 := hide hbel1
  clear hown1 hbel1
  go_wp2_with fail
  refine (clone_any wa a2 len2 cap2 G ((unhide A2).below (unhide B1)) (by omega)).mono ?_
  rintro e wb ⟨p2, c2, rfl, hown2, hbel2⟩
  have O2 := hide hown2
  have HO2 := hide (fun k hk => (hown2.lt k hk).2)
  have B2 := hide hbel2
  clear hown2 hbel2
  go_wp2_with fail
  refine (clone_any wb a7 len7 cap7 M (((unhide A7).below (unhide B1)).below (unhide B2)) (by omega)).mono ?_
  rintro e wc ⟨p7, c7, rfl, hown7, hbel7⟩
  have O7 := hide hown7
  have B7 := hide hbel7
  clear hown7 hbel7
  go_wp2_with fail
  refine (newGrid_any wc n p1 len1 c1 F (own_arg (own_below (own_below (unhide O1) (unhide B2) (Nat.le_refl _)) (unhide B7) (Nat.le_refl _)) (unhide A1).2.2) (by omega) (by omega)).mono ?_
  rintro e wg ⟨gb, ab, rb, cb, wd, A, B, rfl, hgr, hbg, hab, hgb⟩
  have HGr := hide hgr
  have HBg := hide hbg
  clear hgr hbg O1
  have W2 := hide (unhide A2).2.2
  have W7 := hide (unhide A7).2.2
  have sz1 : w'.heap.size ≤ wa.heap.size := (unhide B1).size
  have sz2 : wa.heap.size ≤ wb.heap.size := (unhide B2).size
  have sz3 : wb.heap.size ≤ wc.heap.size := (unhide B7).size
  have sz4 : wc.heap.size ≤ wg.heap.size := (unhide HBg).size
  have BB : Hid (Below w'.heap.size w' wg) := (unhide B1).trans (((unhide B2).mono sz1).trans (((unhide B7).mono (by omega)).trans ((unhide HBg).mono (by omega))))
  have O2g := hide (own_below (own_below (unhide O2) (unhide B7) (Nat.le_refl _)) (unhide HBg) (Nat.le_refl _))
  have O7g := hide (own_below (unhide O7) (unhide HBg) (Nat.le_refl _))
  have hn : n ≤ 32768 := by omega
  have hl2 : len2 ≤ 32768 := by omega
  have hl7 : len7 ≤ 32768 := by omega
  have hsp1 : 1 ≤ sp := by omega
  have hsp2 : sp ≤ 65536 := by omega
  have hen : a4 ≤ (n : Int) := by omega
  have hen2 : -9223372036854775808 ≤ a4 := b4.1
  have hst : st ≤ 9223372036854775807 := by omega
  clear A1 A2 A7 B1 O2 B2 O7 B7 HBg hb1 hb2 hb7 hn0 hn1 hs0 hp0 hp1 he0 m1 m2 m7 b3 b4
  obtain ⟨D, hD⟩ : ∃ D, (List.range len2).map G = D := ⟨_, rfl⟩
  have hDl : D.length = len2 := by rw [← hD]; simp
  have hDg : Hid (∀ k, k < len2 → D.getD k 0 = G k) := fun k hk => by rw [← hD]; simp [hk]
  have O2d : Hid (wg.ownsRow wa.heap.size 3 1 (.slice p2 D.length c2) D.length (ints D)) := by
    have h := unhide O2g
    rw [rowl_ints, hD] at h
    rw [hDl]; exact h
  have HDl := hide hDl
  clear hD hDl
  go_wp2_with (at_make; refine wpList_make_own _ rfl (.const (.int .i64 0)) (.tmp 85) 22 rfl wg.heap.size 3 i0 (.int .i64 0) 1 Try.underlying22 hi0 hz0 hz1 .i64 .i64 _ (len2 + n) rfl rfl (by omega) (by rw [hz2]; omega) (by unfold maxLen; omega) (Nat.le_refl _) ?_; intro wm own0 grow0; have HW : Hid (WantRel wg wm [] (.slice (some ⟨wg.heap.size, 0, none⟩) 0 (len2 + n))) := ⟨own0, (Below.refl _ _).grown grow0 (Nat.le_refl _) (fun k e => by cases e)⟩; clear own0 grow0)
  go_loopw [22, 23] (fun V iv wr => ∃ k : Nat, k ≤ len2 ∧ iv = .int .i64 (k : Int) ∧ WantRel wg wr (D.take k) V) (fun _ iv _ => len2 - (intOf iv).toNat)
  case atStart => exact ⟨0, Nat.zero_le _, rfl, by simpa using unhide HW⟩
  case round =>
    obtain ⟨k, hk, rfl, hrel⟩ := hrel
    have HR := hide hrel
    by_cases hkl : k < len2
    · obtain ⟨pb, po, e, hc⟩ := (own_arg (own_below (unhide O2g) hrel.2 (Nat.le_refl _)) (unhide W2)).2.1 (by omega)
      subst e
      have hcell := hc k hkl
      have hlen : (D.take k).length ≤ 32768 := by rw [List.length_take]; omega
      have hsz : wg.heap.size ≤ wr.heap.size := hrel.2.size
      clear hc hrel
      go_wp2_with (at_builtin; refine wpList_append_own_at _ rfl (.tmp 93) (.tmp 98) 22 rfl wg.heap.size 3 i0 (.int .i64 0) 1 8 Try.underlying22 hi0 hz0 hz1 hz2 rfl (by decide) _ _ _ rfl ((unhide HR).1.alloc _) ⟨wr.heap.size, 0, none⟩ 1 1 [.int .i64 (G k)] rfl rfl (cell_one_new _ _ _) (by simp [Value.oneCell']) (by unfold maxLen; omega) (by omega) (by simp; omega) ?_; intro V' w1 own1 grow1 _ _; have HN := hide ((unhide HR).next own1 grow1); clear own1 grow1)
      have HN2 : Hid (WantRel wg w1 (D.take (k + 1)) V') := by
        show WantRel _ _ _ _
        rw [take_snoc D k (by rw [unhide HDl]; exact hkl), unhide hDg k hkl]; exact unhide HN
      go_roundw
      case rel => first | exact ⟨k + 1, by omega, by go_num, unhide HN2⟩ | ((repeat apply Exists.intro); refine ⟨?_, rfl⟩; exact ⟨k + 1, by omega, by go_num, unhide HN2⟩)
      case measure => simp [intOf]; omega
    · have HR2 : Hid (WantRel wg wr (D ++ wl st sp a4 (okB a6 M len7) A 0) u22) := by
        show WantRel _ _ _ _
        have h := hrel
        rw [List.take_of_length_le (by rw [unhide HDl]; omega)] at h
        simpa [wl] using h
      have hkd : decide ((k : Int) < (len2 : Int)) = false := decide_eq_false (by omega)
      clear hrel HR HW
      go_wp2_with fail
      go_loopw [22, 24, 25] (fun V qv s25 wr => ∃ q : Nat, q ≤ n ∧ qv = .int .i64 (q : Int) ∧ WantRel wg wr (D ++ wl st sp a4 (okB a6 M len7) A q) V) (fun _ qv _ _ => n - (intOf qv).toNat)
      case atStart => exact ⟨0, Nat.zero_le _, rfl, unhide HR2⟩
      case round =>
        obtain ⟨q, hq, rfl, hrel⟩ := hrel
        have HR := hide hrel
        by_cases hqn : q < n
        · have hll : (D ++ wl st sp a4 (okB a6 M len7) A q).length ≤ 32768 + q := by
            have := Pl.wl_len (st := st) (sp := sp) (en := a4) (ok := okB a6 M len7) (A := A) q
            rw [List.length_append, unhide HDl]; omega
          have hsz : wg.heap.size ≤ wr.heap.size := hrel.2.size
          have hca := ((unhide HGr).lay.at_.below hrel.2 (Nat.le_refl _) q hqn).1
          have hMr := hide (own_arg (own_below (unhide O7g) hrel.2 (Nat.le_refl _)) (unhide W7))
          have dqn : decide ((q : Int) < (n : Int)) = true := decide_eq_true (by omega)
          clear hrel HR2
          by_cases h1 : st ≤ q
          · by_cases h2 : (q : Int) < a4
            · have hmdI : Hid (((q : Int) - (st : Int)) % (sp : Int) = (((q - st) % sp : Nat) : Int)) := by show _ = _; rw [Int.natCast_emod, Int.natCast_sub h1]
              cases hm : ((q - st) % sp == 0)
              · have hmd : (((q : Int) - (st : Int)) % (sp : Int) == 0) = false := by
                  rw [beq_eq_false_iff_ne, unhide hmdI]
                  rw [beq_eq_false_iff_ne] at hm
                  omega
                have hsel : Hid (sel st sp a4 (okB a6 M len7) A q = false) := by show _ = _; simp only [sel, hm, Bool.and_false, Bool.false_and]
                have hnx : Hid (WantRel wg wr (D ++ wl st sp a4 (okB a6 M len7) A (q + 1)) u22) := by show WantRel _ _ _ _; rw [Pl.wl_no (unhide hsel)]; exact unhide HR
                clear hm
                go_wp2_with fail
                go_roundw
                case rel => first | exact ⟨q + 1, by omega, by go_num, unhide hnx⟩ | ((repeat apply Exists.intro); refine ⟨?_, rfl⟩; exact ⟨q + 1, by omega, by go_num, unhide hnx⟩)
                case measure => simp [intOf]; omega
              · have hmd : (((q : Int) - (st : Int)) % (sp : Int) == 0) = true := by
                  rw [beq_iff_eq, unhide hmdI]
                  rw [beq_iff_eq] at hm
                  omega
                cases hne : ((A q : Int) != a6)
                · have hsel : Hid (sel st sp a4 (okB a6 M len7) A q = false) := by show _ = _; simp only [sel, okB, hne, Bool.and_false, Bool.false_and]
                  have hnx : Hid (WantRel wg wr (D ++ wl st sp a4 (okB a6 M len7) A (q + 1)) u22) := by show WantRel _ _ _ _; rw [Pl.wl_no (unhide hsel)]; exact unhide HR
                  clear hm
                  go_wp2_with fail
                  go_roundw
                  case rel => first | exact ⟨q + 1, by omega, by go_num, unhide hnx⟩ | ((repeat apply Exists.intro); refine ⟨?_, rfl⟩; exact ⟨q + 1, by omega, by go_num, unhide hnx⟩)
                  case measure => simp [intOf]; omega
                · have hcon := hide (fun c => hasInt_any wr p7 len7 c (A q : Int) M (unhide hMr) (by omega))
                  cases hh : hasI M len7 (A q)
                  · have hsel : Hid (sel st sp a4 (okB a6 M len7) A q = true) := by show _ = _; simp [sel, okB, hne, hh, hm, h1, h2]
                    have hwl := hide (Pl.wl_yes (unhide hsel))
                    rw [hh] at hcon
                    clear hm hh
                    go_wp2_with (first
                      | (go_at_call 12; refine (unhide hcon _).mono ?_; rintro e w' ⟨rfl, rfl⟩)
                      | (at_builtin; refine wpList_append_own_at _ rfl (.tmp 134) (.tmp 136) 22 rfl wg.heap.size 3 i0 (.int .i64 0) 1 8 Try.underlying22 hi0 hz0 hz1 hz2 rfl (by decide) _ _ _ rfl ((unhide HR).1.alloc _) ⟨w'.heap.size, 0, none⟩ 1 1 [.int .i64 (A q : Int)] rfl rfl (cell_one_new _ _ _) (by simp [Value.oneCell']) (by unfold maxLen; omega) (by omega) (by simp; omega) ?_; intro V' w1 own1 grow1 _ _; have HN := hide ((unhide HR).next own1 grow1); clear own1 grow1))
                    have HN2 : Hid (WantRel wg w1 (D ++ wl st sp a4 (okB a6 M len7) A (q + 1)) V') := by
                      show WantRel _ _ _ _
                      rw [unhide hwl, ← List.append_assoc]; exact unhide HN
                    go_roundw
                    case rel => first | exact ⟨q + 1, by omega, by go_num, unhide HN2⟩ | ((repeat apply Exists.intro); refine ⟨?_, rfl⟩; exact ⟨q + 1, by omega, by go_num, unhide HN2⟩)
                    case measure => simp [intOf]; omega
                  · have hsel : Hid (sel st sp a4 (okB a6 M len7) A q = false) := by show _ = _; simp only [sel, okB, hh, Bool.not_true, Bool.and_false, Bool.false_and]
                    have hnx : Hid (WantRel wg wr (D ++ wl st sp a4 (okB a6 M len7) A (q + 1)) u22) := by show WantRel _ _ _ _; rw [Pl.wl_no (unhide hsel)]; exact unhide HR
                    rw [hh] at hcon
                    clear hm hh
                    go_wp2_with (go_at_call 12; refine (unhide hcon _).mono ?_; rintro e w' ⟨rfl, rfl⟩)
                    go_roundw
                    case rel => first | exact ⟨q + 1, by omega, by go_num, unhide hnx⟩ | ((repeat apply Exists.intro); refine ⟨?_, rfl⟩; exact ⟨q + 1, by omega, by go_num, unhide hnx⟩)
                    case measure => simp [intOf]; omega
            · have hsel : Hid (sel st sp a4 (okB a6 M len7) A q = false) := by show _ = _; simp only [sel, decide_eq_false h2, Bool.and_false, Bool.false_and]
              have hnx : Hid (WantRel wg wr (D ++ wl st sp a4 (okB a6 M len7) A (q + 1)) u22) := by show WantRel _ _ _ _; rw [Pl.wl_no (unhide hsel)]; exact unhide HR
              have dh2 : decide ((q : Int) < a4) = false := decide_eq_false h2
              go_wp2_with fail
              go_roundw
              case rel => first | exact ⟨q + 1, by omega, by go_num, unhide hnx⟩ | ((repeat apply Exists.intro); refine ⟨?_, rfl⟩; exact ⟨q + 1, by omega, by go_num, unhide hnx⟩)
              case measure => simp [intOf]; omega
          · have hsel : Hid (sel st sp a4 (okB a6 M len7) A q = false) := by show _ = _; simp only [sel, decide_eq_false h1, Bool.and_false, Bool.false_and]
            have hnx : Hid (WantRel wg wr (D ++ wl st sp a4 (okB a6 M len7) A (q + 1)) u22) := by show WantRel _ _ _ _; rw [Pl.wl_no (unhide hsel)]; exact unhide HR
            have dh1 : decide ((st : Int) ≤ (q : Int)) = false := decide_eq_false (by omega)
            go_wp2_with fail
            go_roundw
            case rel => first | exact ⟨q + 1, by omega, by go_num, unhide hnx⟩ | ((repeat apply Exists.intro); refine ⟨?_, rfl⟩; exact ⟨q + 1, by omega, by go_num, unhide hnx⟩)
            case measure => simp [intOf]; omega
        · have eq : q = n := by omega
          have HRn : Hid (WantRel wg wr (D ++ wl st sp a4 (okB a6 M len7) A n) u22) := by
            show WantRel _ _ _ _
            rw [← eq]; exact hrel
          have dqn : decide ((q : Int) < (n : Int)) = false := decide_eq_false (by omega)
          clear eq hrel HR HR2
          go_wp2_with fail
          obtain ⟨pu, cu, eu⟩ := own_form (unhide HRn).1
          subst eu
          have hL : Hid ((D ++ wl st sp a4 (okB a6 M len7) A n).length ≤ 1000000) := by
            have := Pl.wl_len (st := st) (sp := sp) (en := a4) (ok := okB a6 M len7) (A := A) n
            show _ ≤ _
            rw [List.length_append, unhide HDl]; omega
          have HC := hide (call16 w'.heap.size w' wb wc wg wr wa.heap.size gb ab rb cb n wd A B p2 len2 c2 D st sp a4 a6 p7 len7 c7 M pu cu (unhide HDl) (unhide O2d) (unhide HO2) (unhide O7g) (unhide W7) (unhide HGr) hab hgb sz3 sz4 (unhide HRn) (unhide BB) sz1 sz2 hn hen hen2 hsp1 hsp2 hl7 hl2 hst)
          generalize (D ++ wl st sp a4 (okB a6 M len7) A n) = X at *
          obtain ⟨L, hLe⟩ : ∃ L, X.length = L := ⟨_, rfl⟩
          rw [hLe] at HC hL ⊢
          clear HRn O2d HO2 O7g W7 HGr
          refine (unhide HC).mono ?_
          rintro e w2 ⟨pv, cv, rfl, r1, r2, bel⟩
          have R1 := hide r1
          have R2 := hide r2
          have BE := hide bel
          clear r1 r2 bel HC
          go_wp2_with fail
          refine (same_yes w2 pv pu L cv cu (fun i => X.getD i 0) (unhide hL) (unhide R1) (unhide R2)).mono ?_
          rintro e w3 ⟨rfl, m, rfl⟩
          go_wp2_with fail
          go_ret
          exact ⟨rfl, below_drewN' m (unhide BE)⟩

end Go.Proofs.Qxb6600869a
