import Derived.Test.Qxb6003570aC
import Derived.Test.Qxb6003570aPlain2
namespace Go.Proofs.Qxb6003570a
open Go.RowKit
set_option linter.unusedVariables false
open Pl (fan wid sta Pos has fr mm Valid idx Right Done Turn)

/-- The two tables that 'endBelow' writes, as they lie in memory. -/
structure EB (w : World) (eb nb N n : Nat) (E : Nat → Nat) (M : Nat → Bool) : Prop where
  ec : ∀ u, u < N → w.cell? ⟨eb, u, none⟩ = some (.int .i32 (E u : Int))
  ef : ∀ u, u < N → w.frozen? ⟨eb, u, none⟩ = false
  mc : ∀ q, q < n → w.cell? ⟨nb, q, none⟩ = some (.bool (M q))
  mf : ∀ q, q < n → w.frozen? ⟨nb, q, none⟩ = false

theorem Shp.below {w w' : World} {b g cap n src : Nat} {rep : Bool} {L B : Nat} (h : Shp w b g cap n src rep L) (hb : Below B w w') (h1 : b < B) (h2 : g < B) : Shp w' b g cap n src rep L :=
  ⟨(hb.cell (p := ⟨b, 0, none⟩) h1).trans h.c0, (hb.cell (p := ⟨b, 1, none⟩) h1).trans h.c1, (hb.cell (p := ⟨b, 2, none⟩) h1).trans h.c2, (hb.cell (p := ⟨b, 3, none⟩) h1).trans h.c3,
   fun i hi => (hb.cell (p := ⟨g, i, none⟩) h2).trans (h.st i hi), h.hn1, h.hn2, h.hs, h.hL1, h.hL2, h.hp⟩

theorem EB.drewN {w : World} {eb nb N n : Nat} {E : Nat → Nat} {M : Nat → Bool} (h : EB w eb nb N n E M) (m : Nat) : EB (w.drewN m) eb nb N n E M := ⟨h.ec, h.ef, h.mc, h.mf⟩

theorem EB.setE {w : World} {eb nb N n : Nat} {E : Nat → Nat} {M : Nat → Bool} (h : EB w eb nb N n E M) (hne : eb < nb) (c k : Nat) (hc : c < N) :
    EB (w.setCell ⟨eb, c, none⟩ (.int .i32 (k : Int))) eb nb N n (fun u => if u = c then k else E u) M := by
  refine ⟨fun u hu => ?_, fun u hu => by rw [World.frozen?_setCell]; exact h.ef u hu, fun q hq => ?_, fun q hq => by rw [World.frozen?_setCell]; exact h.mf q hq⟩
  · by_cases e : u = c
    · subst e; rw [if_pos rfl]; exact cell_set_eq _ _ _ _ _ (h.ec u hu)
    · rw [if_neg e, cell_set_ne _ _ _ _ _ _ (by omega)]; exact h.ec u hu
  · rw [cell_set_ne _ _ _ _ _ _ (by omega)]; exact h.mc q hq

theorem EB.setM {w : World} {eb nb N n : Nat} {E : Nat → Nat} {M : Nat → Bool} (h : EB w eb nb N n E M) (hne : eb < nb) (k : Nat) (x : Bool) (hk : k < n) :
    EB (w.setCell ⟨nb, k, none⟩ (.bool x)) eb nb N n E (fun q => if q = k then x else M q) := by
  refine ⟨fun u hu => ?_, fun u hu => by rw [World.frozen?_setCell]; exact h.ef u hu, fun q hq => ?_, fun q hq => by rw [World.frozen?_setCell]; exact h.mf q hq⟩
  · rw [cell_set_ne _ _ _ _ _ _ (by omega)]; exact h.ec u hu
  · by_cases e : q = k
    · subst e; rw [if_pos rfl]; exact cell_set_eq _ _ _ _ _ (h.mc q hq)
    · rw [if_neg e, cell_set_ne _ _ _ _ _ _ (by omega)]; exact h.mc q hq

theorem EB.congr {w : World} {eb nb N n : Nat} {E : Nat → Nat} {M M' : Nat → Bool} (h : EB w eb nb N n E M) (e : ∀ q, q < n → M q = M' q) : EB w eb nb N n E M' :=
  ⟨h.ec, h.ef, fun q hq => by rw [← e q hq]; exact h.mc q hq, h.mf⟩

/-- What 'endBelow' leaves. -/
def EBEnd (w : World) (eb nb N n src : Nat) (rep : Bool) (L : Nat) (f : Nat → Nat) (d : Nat) (E : Nat → Nat) (M : Nat → Bool) (w' : World) : Prop :=
  ∃ E', EB w' eb nb N n E' M ∧ Below eb w w' ∧ Turn n src rep L E E' ∧ Done n src rep L f d n E'

/-- At the head of a round. -/
def EBRel (w : World) (eb nb N n src : Nat) (rep : Bool) (L : Nat) (f : Nat → Nat) (d : Nat) (E : Nat → Nat) (M : Nat → Bool) (k c : Nat) (wr : World) : Prop :=
  k ≤ n ∧ c = sta n rep (d + 1) + (idx n rep f d * fan n rep (d + 1) + fr (has f (mm rep (d + 1))) k) ∧ ∃ E', EB wr eb nb N n E' M ∧ Below eb w wr ∧ Turn n src rep L E E' ∧ Done n src rep L f d k E'

theorem EBRel.start {w wr : World} {eb nb n src : Nat} {rep : Bool} {L : Nat} {f : Nat → Nat} {d : Nat} {E : Nat → Nat} {M : Nat → Bool} (hd : d + 1 < L)
    (hE : EB wr eb nb (sta n rep L) n E M) (hb : Below eb w wr) : EBRel w eb nb (sta n rep L) n src rep L f d E M 0 (sta n rep (d + 1) + idx n rep f d * fan n rep (d + 1)) wr :=
  ⟨Nat.zero_le _, by simp [fr], E, hE, hb, Turn.refl _ _ _ _ _, Done.zero _ _ _ _ _ _ _⟩

theorem EBRel.fin {w wr : World} {eb nb N n src : Nat} {rep : Bool} {L : Nat} {f : Nat → Nat} {d : Nat} {E : Nat → Nat} {M : Nat → Bool} {c : Nat} (h : EBRel w eb nb N n src rep L f d E M n c wr) : EBEnd w eb nb N n src rep L f d E M wr := by
  obtain ⟨_, _, h⟩ := h; exact h

theorem EBRel.skip {w wr : World} {eb nb N n src : Nat} {rep : Bool} {L : Nat} {f : Nat → Nat} {d : Nat} {E : Nat → Nat} {M : Nat → Bool} {k c : Nat} (h : EBRel w eb nb N n src rep L f d E M k c wr) (hk : k < n) (hf : has f (mm rep (d + 1)) k = true) :
    EBRel w eb nb N n src rep L f d E M (k + 1) c wr := by
  obtain ⟨_, hc, E', h1, h2, h3, h4⟩ := h
  refine ⟨hk, ?_, E', h1, h2, h3, h4.skip hf⟩
  rw [hc]; simp [fr, hf]

/-- The place of a free processor's vertex. -/
theorem EBRel.place {w wr : World} {eb nb N n src : Nat} {rep : Bool} {L : Nat} {f : Nat → Nat} {d : Nat} {E : Nat → Nat} {M : Nat → Bool} {k c : Nat} (h : EBRel w eb nb N n src rep L f d E M k c wr) (hd : d + 1 < L) (hs : src < n) (hv : Valid n src rep f d) (hk : k < n)
    (hf : has f (mm rep (d + 1)) k = false) : c = sta n rep (d + 1) + idx n rep (Pl.put f d k) (d + 1) ∧ c < sta n rep (d + 2) ∧ sta n rep (d + 2) ≤ sta n rep L := by
  have e : c = sta n rep (d + 1) + idx n rep (Pl.put f d k) (d + 1) := by rw [h.2.1, Pl.idx_put]
  refine ⟨e, ?_, Pl.sta_mono n rep (d + 2) L hd⟩
  have := Pl.idx_lt hs (d + 1) (hv.put hk hf)
  rw [e]; show _ < sta n rep (d + 1) + wid n rep (d + 1); omega

/-- A free processor's round: the vertex is filled in, the processor marked, all below filled in, the mark struck. -/
theorem EBRel.next {w wr w1 : World} {eb nb n src : Nat} {rep : Bool} {L : Nat} {f : Nat → Nat} {d : Nat} {E E' : Nat → Nat} {M : Nat → Bool} {k c : Nat} (h : EBRel w eb nb (sta n rep L) n src rep L f d E M k c wr)
    (hE' : EB wr eb nb (sta n rep L) n E' M) (hT : Turn n src rep L E E') (hD : Done n src rep L f d k E')
    (hd : d + 1 < L) (hs : src < n) (hv : Valid n src rep f d) (hk : k < n) (hf : has f (mm rep (d + 1)) k = false) (hM : M k = false) (hne : eb < nb)
    (hw : EBEnd ((wr.setCell ⟨eb, c, none⟩ (.int .i32 (k : Int))).setCell ⟨nb, k, none⟩ (.bool (!rep))) eb nb (sta n rep L) n src rep L (Pl.put f d k) (d + 1) (fun u => if u = c then k else E' u) (fun q => if q = k then !rep else M q) w1) :
    EBRel w eb nb (sta n rep L) n src rep L f d E M (k + 1) (c + 1) (w1.setCell ⟨nb, k, none⟩ (.bool false)) := by
  obtain ⟨hc, _, _⟩ := h.place hd hs hv hk hf
  obtain ⟨E2, a1, a2, a3, a4⟩ := hw
  obtain ⟨_, hc0, _, _, hbel, _, _⟩ := h
  have t1 : Turn n src rep L E' (fun u => if u = c then k else E' u) := by
    have := Pl.set_turn (E := E') hd hv hk hf
    rw [← hc] at this; exact this
  refine ⟨hk, by rw [hc0]; simp [fr, hf]; omega, E2, ?_, ?_, hT.trans (t1.trans a3), ?_⟩
  · refine (a1.setM hne k false hk).congr (fun q _ => ?_)
    by_cases e : q = k
    · subst e; simp [hM]
    · simp [e]
  · exact (((hbel.setCell (Nat.le_refl _) _).setCell (Nat.le_of_lt hne) _).trans a2).setCell (Nat.le_of_lt hne) _
  · exact hD.step t1 hd hv hk hf (by rw [← hc]; simp) a3 a4

set_option maxHeartbeats 4000000 in
theorem endBelow_any (b g cap n src : Nat) (rep : Bool) (L eb nb : Nat) (hbe : b < eb) (hge : g < eb) (hne : eb < nb) : ∀ (r : Nat) (w : World) (f : Nat → Nat) (d v : Nat) (li : Int) (E : Nat → Nat) (M : Nat → Bool), L = d + 1 + r → Shp w b g cap n src rep L → EB w eb nb (sta n rep L) n E M →
    Valid n src rep f d → v = sta n rep d + idx n rep f d → li = (d : Int) + 1 → (∀ q, q < n → M q = has f (mm rep (d + 1)) q) →
    Calls Try.prog 30 #[.pointer (some ⟨b, 0, none⟩), .slice (some ⟨eb, 0, none⟩) (sta n rep L) (sta n rep L), .slice (some ⟨nb, 0, none⟩) n n, .int .i64 (v : Int), .int .i64 li] w
      fun e w' => e = .returned (.tuple #[]) ∧ EBEnd w eb nb (sta n rep L) n src rep L f d E M w' := by
  intro r
  induction r with
  | zero =>
    intro w f d v li E M hL hS hE hv he hli hM
    subst hli
    have hfin : Hid (EBEnd w eb nb (sta n rep L) n src rep L f d E M w) := ⟨E, hE, Below.refl _ _, Turn.refl _ _ _ _ _, fun e g h1 h2 => by omega⟩
    have hd : ((d : Int) + 1 == (L : Int)) = true := by rw [beq_iff_eq]; omega
    have HV := hide (levels_any w b g cap n src rep L hS)
    have hL8 := hS.hL2
    clear hE hS he hM
    go_enter Try.func30, Try.ntmps30
    go_wp2_with (go_at_call 17; refine (unhide HV).mono ?_; rintro e w' ⟨rfl, rfl⟩)
    refine bodyPost_ret (results_none ?_ _ _ _) rfl ?_
    · rfl
    exact ⟨rfl, unhide hfin⟩
  | succ r ih =>
    intro w f d v li E M hL hS hE hv he hli hM
    subst hli
    have hd1 : d + 1 < L := by omega
    have HV := hide (levels_any w b g cap n src rep L hS)
    have IH := hide ih
    have HE := hide hE
    have HS := hide hS
    have HM := hide hM
    have HVal := hide hv
    obtain ⟨c0, c1, c2, c3, st, hn1, hn2, hs, hL1, hL2, hp⟩ := hS
    have hdd : ((d : Int) + 1 == (L : Int)) = false := by rw [beq_eq_false_iff_ne]; omega
    have s1 := st d (by omega)
    have s2 := st (d + 1) (by omega)
    have hil := Pl.idx_lt hs d hv
    have hv1 : sta n rep d ≤ v := by omega
    have hv2 : v ≤ 429981696 := by have h1 := Pl.sta_bd n rep hn2 (d + 1) (by omega); have h2 : sta n rep (d + 1) = sta n rep d + wid n rep d := rfl; omega
    have hsd : sta n rep (d + 1) ≤ 429981696 := Pl.sta_bd n rep hn2 (d + 1) (by omega)
    have hf1 := hp (d + 1) (by omega) (by omega)
    have hf2 := Pl.fan_le n rep (d + 1) (by omega)
    have hq1 : 0 ≤ ((v : Int) - (sta n rep d : Int)) * (fan n rep (d + 1) : Int) := Int.mul_nonneg (by omega) (by omega)
    have hq2 : ((v : Int) - (sta n rep d : Int)) * (fan n rep (d + 1) : Int) ≤ 429981696 * 11 := Int.mul_le_mul (by omega) (by omega) (by omega) (by omega)
    have HC : Hid ((sta n rep (d + 1) : Int) + ((v : Int) - (sta n rep d : Int)) * (fan n rep (d + 1) : Int) = ((sta n rep (d + 1) + idx n rep f d * fan n rep (d + 1) : Nat) : Int)) := by
      rw [chi_eq hv1]; show _ = _; rw [he, Nat.add_sub_cancel_left]
    clear ih hE hv hM hp c1 st he hil hdd
    have hdd : ((d : Int) + 1 == (L : Int)) = false := by rw [beq_eq_false_iff_ne]; omega
    have HLr := hide hL
    clear hL
    go_enter Try.func30, Try.ntmps30
    go_wp2_with (go_at_call 17; refine (unhide HV).mono ?_; rintro e w' ⟨rfl, rfl⟩)
    clear HV
    go_quiet ((go_at_call 31; exact Calls.quiet_of_same (fanout_any _ b n (d + 1) rep _ (by simpa using c0) (by simpa using c2) hn2 (by omega) (by omega) (by omega))))
    rw [unhide HC]
    go_wp2_with fail
    have HE' := hide ((unhide HE).drewN nq)
    have HS' := hide ((unhide HS).drewN nq)
    have HB : Hid (Below eb w' (w'.drewN nq)) := below_drewN nq
    clear c0 c2 c3 s1 s2
    generalize hW : w'.drewN nq = W at *
    clear hW
    go_loopw [10, 11, 42] (fun cv pv kv wr => ∃ k c : Nat, kv = .int .i64 (k : Int) ∧ cv = .int .i64 (c : Int) ∧ EBRel w' eb nb (sta n rep L) n src rep L f d E M k c wr) (fun _ _ kv _ => n - (intOf kv).toNat)
    case atStart => exact ⟨0, _, rfl, rfl, EBRel.start hd1 (unhide HE') (unhide HB)⟩
    case round =>
      obtain ⟨k, c, rfl, rfl, hrel⟩ := hrel
      have HR := hide hrel
      obtain ⟨hk, hc, E', hE', hbel, hT, hD⟩ := hrel
      have HEr := hide hE'
      have HT := hide hT
      have HD := hide hD
      have HSr := hide ((unhide HS).below hbel hbe hge)
      clear hc hE' hbel hT hD
      by_cases hkn : k < n
      · have hmk := (unhide HEr).mc k hkn
        have hmf := (unhide HEr).mf k hkn
        cases hf : M k
        · rw [hf] at hmk
          have hhas : has f (mm rep (d + 1)) k = false := by rw [← unhide HM k hkn]; exact hf
          obtain ⟨hpl, hc1, hc2⟩ := (unhide HR).place hd1 hs (unhide HVal) hkn hhas
          have HPL := hide hpl
          have HF := hide hhas
          have HMk := hide hf
          have hec := (unhide HEr).ec c (by omega)
          have hef := (unhide HEr).ef c (by omega)
          have hcb := Pl.sta_bd n rep hn2 L hL2
          have hr2 := (unhide HSr).c2
          have ne1 : eb ≠ b := by omega
          have ne2 : nb ≠ b := by omega
          have ne3 : eb ≠ nb := by omega
          clear hpl hhas hf
          go_wp2_with fail
          have hA : Below eb wr ((wr.setCell ⟨eb, c, none⟩ (.int .i32 (k : Int))).setCell ⟨nb, k, none⟩ (.bool (!rep))) := ((Below.refl eb wr).setCell (p := ⟨eb, c, none⟩) (Nat.le_refl eb) _).setCell (p := ⟨nb, k, none⟩) (Nat.le_of_lt hne) _
          refine (unhide IH _ (Pl.put f d k) (d + 1) c _ (fun u => if u = c then k else E' u) (fun q => if q = k then !rep else M q) (by have := unhide HLr; omega) ((unhide HSr).below hA hbe hge) (((unhide HEr).setE hne c k (by omega)).setM hne k (!rep) hkn) ((unhide HVal).put hkn (unhide HF)) (unhide HPL) (by omega) ?_).mono ?_
          · intro q hq
            rw [Pl.marks_put f rep d k q (unhide HF), ← unhide HM q hq]
          rintro e w1 ⟨rfl, hend⟩
          have HEND := hide hend
          obtain ⟨E2, a1, _, _, _⟩ := hend
          have hmk1 := a1.mc k hkn
          have hmf1 := a1.mf k hkn
          clear a1 hmk hmf hec hef hr2 hA
          go_wp2_with fail
          go_roundw
          case rel => (repeat apply Exists.intro); exact ⟨⟨k + 1, c + 1, by go_num, by go_num, (unhide HR).next (unhide HEr) (unhide HT) (unhide HD) hd1 hs (unhide HVal) hkn (unhide HF) (unhide HMk) hne (unhide HEND)⟩, rfl⟩
          case measure => simp [intOf]; omega
        · rw [hf] at hmk
          have hhas : Hid (has f (mm rep (d + 1)) k = true) := by show _ = _; rw [← unhide HM k hkn]; exact hf
          clear hf
          go_wp2_with fail
          go_roundw
          case rel => exact ⟨k + 1, c, by go_num, rfl, (unhide HR).skip hkn (unhide hhas)⟩
          case measure => simp [intOf]; omega
      · have e : k = n := by omega
        subst e
        go_wp2_with fail
        go_end0
        exact ⟨rfl, (unhide HR).fin⟩

end Go.Proofs.Qxb6003570a
