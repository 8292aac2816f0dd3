import Derived.Test.Qxb6600869aI
import Derived.Test.Qxb6600869aH
namespace Go.Proofs.Qxb6600869a
open Go.RowKit
set_option linter.unusedVariables false
set_option linter.unusedSimpArgs false
open Pl (Perm swp anyI rfm rfN cellB)

/-- What 'ReceivesFrom' answers. -/
def rfAll (B : Nat → Nat) (wd v u : Nat) (N : Nat → Nat) (lm : Nat) : Bool := !((u : Int) == (v : Int)) && (!hasI (fun i => (N i : Int)) lm v && anyI (fun i => rfN B wd v u (N i)) lm)

theorem rfAll_same {B : Nat → Nat} {wd v u : Nat} {N : Nat → Nat} {lm : Nat} (h : ((u : Int) == (v : Int)) = true) : rfAll B wd v u N lm = false := by simp only [rfAll, h, Bool.not_true, Bool.false_and]
theorem rfAll_has {B : Nat → Nat} {wd v u : Nat} {N : Nat → Nat} {lm : Nat} (h : hasI (fun i => (N i : Int)) lm v = true) : rfAll B wd v u N lm = false := by simp only [rfAll, h, Bool.not_true, Bool.false_and, Bool.and_false]
theorem rfAll_any {B : Nat → Nat} {wd v u : Nat} {N : Nat → Nat} {lm : Nat} (h : ((u : Int) == (v : Int)) = false) (h' : hasI (fun i => (N i : Int)) lm v = false) : rfAll B wd v u N lm = anyI (fun i => rfN B wd v u (N i)) lm := by simp only [rfAll, h, h', Bool.not_false, Bool.true_and]

set_option maxRecDepth 100000 in
set_option maxHeartbeats 8000000 in
theorem rf_any (w : World) (gb ab rb cb n wd : Nat) (A B : Nat → Nat) (hG : Grid w gb ab rb cb n wd A B) (v u : Nat) (hv : v < n) (hu : u < n) (hn : n ≤ 32768) (ma : Option Addr) (lm mc : Nat) (N : Nat → Nat) (hM : ArgAt w ma lm (fun i => (N i : Int))) (hN : ∀ i, i < lm → N i < n) (hlm : lm ≤ 32768) :
    Calls Try.prog 11 #[.pointer (some ⟨gb, 0, none⟩), .int .i64 (v : Int), .int .i64 (u : Int), .slice ma lm mc] w fun e w' => e = .returned (.bool (rfAll B wd v u N lm)) ∧ Below w.heap.size w w' := by
  have HG := hide hG
  have HM := hide hM
  have HN := hide hN
  have HC := hide (contains_any w ma lm mc (v : Int) (fun i => (N i : Int)) hM (by omega))
  have hPv := fun (W : World) (hb : Below w.heap.size w W) => place_any W gb ab rb cb n wd A B (hG.below hb) v hv hn
  have hPu := fun (W : World) (hb : Below w.heap.size w W) => place_any W gb ab rb cb n wd A B (hG.below hb) u hu hn
  have HP := hide (fun (W : World) (hb : Below w.heap.size w W) (m : Nat) (hm : m < n) => place_any W gb ab rb cb n wd A B (hG.below hb) m hm hn)
  have hru : B u / wd ≤ 32768 := Nat.le_trans (Nat.div_le_self _ _) (by have := hG.lay.perm.b u hu; omega)
  have hcu : B u % wd ≤ 32768 := Nat.le_trans (Nat.mod_le _ _) (by have := hG.lay.perm.b u hu; omega)
  have hrv : B v / wd ≤ 32768 := Nat.le_trans (Nat.div_le_self _ _) (by have := hG.lay.perm.b v hv; omega)
  have hcv : B v % wd ≤ 32768 := Nat.le_trans (Nat.mod_le _ _) (by have := hG.lay.perm.b v hv; omega)
  have HBb := hide (hG.lay.perm.b)
  clear hG hM hN
  obtain ⟨g, hg⟩ : ∃ g, (fun i => rfN B wd v u (N i)) = g := ⟨_, rfl⟩
  have hgg : ∀ i, g i = rfm ((B u / wd : Nat) : Int) ((B u % wd : Nat) : Int) ((B v / wd : Nat) : Int) ((B v % wd : Nat) : Int) ((B (N i) / wd : Nat) : Int) ((B (N i) % wd : Nat) : Int) := fun i => by rw [← hg]; rfl
  cases huv : ((u : Int) == (v : Int))
  · cases hh : hasI (fun i => (N i : Int)) lm v
    · rw [hh] at HC
      have HA := hide (rfAll_any (B := B) (wd := wd) huv hh)
      rw [hg] at HA
      clear hh hg
      generalize B u / wd = ru at *
      generalize B u % wd = cu at *
      generalize B v / wd = rv at *
      generalize B v % wd = cv at *
      have HPv := hide hPv
      have HPu := hide hPu
      have HGg := hide hgg
      clear hPv hPu hgg
      go_enter Try.func11, Try.ntmps11
      go_wp2_with fail
      refine (unhide HC).mono ?_
      rintro e w' ⟨rfl, rfl⟩
      go_wp2_with fail
      refine (unhide HPv _ (Below.refl _ _)).mono ?_
      rintro e wa ⟨rfl, m1, rfl⟩
      have B1 : Hid (Below w'.heap.size w' (w'.drewN m1)) := below_drewN m1
      generalize w'.drewN m1 = wa at *
      clear HC HPv
      go_wp2_with fail
      refine (unhide HPu _ (unhide B1)).mono ?_
      rintro e wb ⟨rfl, m2, rfl⟩
      have B2 : Hid (Below w'.heap.size w' (wa.drewN m2)) := below_drewN' m2 (unhide B1)
      generalize wa.drewN m2 = wb at *
      clear B1 HPu
      go_wp2_with fail
      go_loopw [8, 14, 15, 16, 39] (fun s8 s14 s15 s16 iv wr => ∃ k : Nat, k ≤ lm ∧ iv = .int .i64 (k : Int) ∧ anyI g k = false ∧ Below w'.heap.size w' wr) (fun _ _ _ _ iv _ => lm - (intOf iv).toNat)
      case atStart => exact ⟨0, Nat.zero_le _, rfl, rfl, unhide B2⟩
      case round =>
        obtain ⟨k, hk, rfl, hno, hbr⟩ := hrel
        have HNO := hide hno
        have BR := hide hbr
        clear hno hbr
        by_cases hlt : k < lm
        · obtain ⟨b, off, e, hc⟩ := ((unhide HM).below (unhide BR)).2.1 (by omega)
          subst e
          have hcell := hc k hlt
          dsimp only at hcell
          have hNk := unhide HN k hlt
          clear hc
          have hgk := hide (unhide HGg k)
          have HPk := hide (unhide HP wr (unhide BR) (N k) hNk)
          have hrm : B (N k) / wd ≤ 32768 := Nat.le_trans (Nat.div_le_self _ _) (by have := unhide HBb (N k) hNk; omega)
          have hcm : B (N k) % wd ≤ 32768 := Nat.le_trans (Nat.mod_le _ _) (by have := unhide HBb (N k) hNk; omega)
          generalize B (N k) / wd = rm at *
          generalize B (N k) % wd = cm at *
          generalize N k = mm at *
          cases h1 : ((ru : Int) == (rv : Int))
          · cases h3 : ((cu : Int) == (cv : Int))
            · have hgf : Hid (g k = false) := by show _ = _; rw [unhide hgk]; simp only [rfm, h1, h3, Bool.false_and, Bool.and_false, Bool.true_and, Bool.and_true, Bool.false_or, Bool.or_false, Bool.or_self]
              have hnx := hide (Pl.anyI_no (unhide HNO) (unhide hgf))
              go_wp2_with (go_at_call 22; refine (unhide HPk).mono ?_; rintro e wp ⟨rfl, mp, rfl⟩)
              go_roundw
              case rel => first | exact ⟨k + 1, by omega, by go_num, unhide hnx, below_drewN' mp (unhide BR)⟩ | ((repeat apply Exists.intro); refine ⟨?_, rfl⟩; exact ⟨k + 1, by omega, by go_num, unhide hnx, below_drewN' mp (unhide BR)⟩)
              case measure => simp [intOf]; omega
            · cases h4 : ((rm : Int) == (ru : Int))
              · have hgf : Hid (g k = false) := by show _ = _; rw [unhide hgk]; simp only [rfm, h1, h3, h4, Bool.false_and, Bool.and_false, Bool.true_and, Bool.and_true, Bool.false_or, Bool.or_false, Bool.or_self]
                have hnx := hide (Pl.anyI_no (unhide HNO) (unhide hgf))
                go_wp2_with (go_at_call 22; refine (unhide HPk).mono ?_; rintro e wp ⟨rfl, mp, rfl⟩)
                go_roundw
                case rel => first | exact ⟨k + 1, by omega, by go_num, unhide hnx, below_drewN' mp (unhide BR)⟩ | ((repeat apply Exists.intro); refine ⟨?_, rfl⟩; exact ⟨k + 1, by omega, by go_num, unhide hnx, below_drewN' mp (unhide BR)⟩)
                case measure => simp [intOf]; omega
              · have hgf : Hid (g k = true) := by show _ = _; rw [unhide hgk]; simp only [rfm, h1, h3, h4, Bool.and_self, Bool.true_or, Bool.or_true, Bool.false_and, Bool.and_false, Bool.true_and, Bool.and_true, Bool.false_or, Bool.or_false]
                have hfin : Hid (rfAll B wd v u N lm = true) := (unhide HA).trans (Pl.anyI_yes hlt (unhide hgf))
                go_wp2_with (go_at_call 22; refine (unhide HPk).mono ?_; rintro e wp ⟨rfl, mp, rfl⟩)
                go_ret
                exact ⟨by rw [unhide hfin]; rfl, below_drewN' mp (unhide BR)⟩
          · cases h2 : ((cm : Int) == (cu : Int))
            · cases h3 : ((cu : Int) == (cv : Int))
              · have hgf : Hid (g k = false) := by show _ = _; rw [unhide hgk]; simp only [rfm, h1, h2, h3, Bool.false_and, Bool.and_false, Bool.true_and, Bool.and_true, Bool.false_or, Bool.or_false, Bool.or_self]
                have hnx := hide (Pl.anyI_no (unhide HNO) (unhide hgf))
                go_wp2_with (go_at_call 22; refine (unhide HPk).mono ?_; rintro e wp ⟨rfl, mp, rfl⟩)
                go_roundw
                case rel => first | exact ⟨k + 1, by omega, by go_num, unhide hnx, below_drewN' mp (unhide BR)⟩ | ((repeat apply Exists.intro); refine ⟨?_, rfl⟩; exact ⟨k + 1, by omega, by go_num, unhide hnx, below_drewN' mp (unhide BR)⟩)
                case measure => simp [intOf]; omega
              · cases h4 : ((rm : Int) == (ru : Int))
                · have hgf : Hid (g k = false) := by show _ = _; rw [unhide hgk]; simp only [rfm, h1, h2, h3, h4, Bool.false_and, Bool.and_false, Bool.true_and, Bool.and_true, Bool.false_or, Bool.or_false, Bool.or_self]
                  have hnx := hide (Pl.anyI_no (unhide HNO) (unhide hgf))
                  go_wp2_with (go_at_call 22; refine (unhide HPk).mono ?_; rintro e wp ⟨rfl, mp, rfl⟩)
                  go_roundw
                  case rel => first | exact ⟨k + 1, by omega, by go_num, unhide hnx, below_drewN' mp (unhide BR)⟩ | ((repeat apply Exists.intro); refine ⟨?_, rfl⟩; exact ⟨k + 1, by omega, by go_num, unhide hnx, below_drewN' mp (unhide BR)⟩)
                  case measure => simp [intOf]; omega
                · have hgf : Hid (g k = true) := by show _ = _; rw [unhide hgk]; simp only [rfm, h1, h2, h3, h4, Bool.and_self, Bool.true_or, Bool.or_true, Bool.false_and, Bool.and_false, Bool.true_and, Bool.and_true, Bool.false_or, Bool.or_false]
                  have hfin : Hid (rfAll B wd v u N lm = true) := (unhide HA).trans (Pl.anyI_yes hlt (unhide hgf))
                  go_wp2_with (go_at_call 22; refine (unhide HPk).mono ?_; rintro e wp ⟨rfl, mp, rfl⟩)
                  go_ret
                  exact ⟨by rw [unhide hfin]; rfl, below_drewN' mp (unhide BR)⟩
            · have hgf : Hid (g k = true) := by show _ = _; rw [unhide hgk]; simp only [rfm, h1, h2, Bool.and_self, Bool.true_or, Bool.or_true, Bool.false_and, Bool.and_false, Bool.true_and, Bool.and_true, Bool.false_or, Bool.or_false]
              have hfin : Hid (rfAll B wd v u N lm = true) := (unhide HA).trans (Pl.anyI_yes hlt (unhide hgf))
              go_wp2_with (go_at_call 22; refine (unhide HPk).mono ?_; rintro e wp ⟨rfl, mp, rfl⟩)
              go_ret
              exact ⟨by rw [unhide hfin]; rfl, below_drewN' mp (unhide BR)⟩
        · have hfin : Hid (rfAll B wd v u N lm = false) := by
            have e : lm = k := by omega
            refine (unhide HA).trans ?_
            rw [e]; exact unhide HNO
          go_wp2_with fail
          go_ret
          exact ⟨by rw [unhide hfin]; rfl, unhide BR⟩
    · rw [hh] at HC
      have HA := hide (rfAll_has (B := B) (wd := wd) (u := u) hh)
      clear hh hPv hPu hgg hg hru hcu hrv hcv
      go_enter Try.func11, Try.ntmps11
      go_wp2_with fail
      refine (unhide HC).mono ?_
      rintro e w' ⟨rfl, rfl⟩
      go_wp2_with fail
      go_ret
      exact ⟨by rw [unhide HA]; rfl, Below.refl _ _⟩
  · have HA := hide (rfAll_same (B := B) (wd := wd) (N := N) (lm := lm) huv)
    clear HC hPv hPu hgg hg hru hcu hrv hcv
    go_enter Try.func11, Try.ntmps11
    go_wp2_with fail
    go_ret
    exact ⟨by rw [unhide HA]; rfl, Below.refl _ _⟩

end Go.Proofs.Qxb6600869a
