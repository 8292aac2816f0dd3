import Derived.Test.Qxb6003570aG
import Derived.Test.Qxb6003570aLaws2
namespace Go.Proofs.Qxb6003570a
open Go.RowKit
set_option linter.unusedVariables false
set_option linter.unusedSimpArgs false
open Pl (fan wid sta Pos has fr mm Valid idx Right Done Turn cntlt)

/-- The first k numbers of G, as cells. -/
def rowl (G : Nat → Int) (k : Nat) : List Value := (List.range k).map fun i => .int .i64 (G i)

theorem rowl_get (G : Nat → Int) (k i : Nat) (h : i < k) : (rowl G k)[i]? = some (.int .i64 (G i)) := by
  unfold rowl; simp [h]
theorem rowl_len (G : Nat → Int) (k : Nat) : (rowl G k).length = k := by simp [rowl]

theorem rowl_zeros (F : Nat → Int) (n k : Nat) : rowl F n ++ List.replicate k (Value.int .i64 0) = rowl (fun j => if j < n then F j else 0) (n + k) := by
  refine List.ext_getElem? (fun i => ?_)
  by_cases h : i < n
  · rw [List.getElem?_append_left (by rw [rowl_len]; exact h), rowl_get F n i h, rowl_get _ (n + k) i (by omega)]
    simp [h]
  · by_cases h2 : i < n + k
    · rw [List.getElem?_append_right (by rw [rowl_len]; omega), rowl_get _ (n + k) i h2, rowl_len]
      have h3 : i - n < k := by omega
      simp [h, h3]
    · rw [List.getElem?_eq_none (by rw [List.length_append, rowl_len, List.length_replicate]; omega), List.getElem?_eq_none (by rw [rowl_len]; omega)]

theorem rowl_set (G : Nat → Int) (k i : Nat) (x : Int) : (rowl G k).set i (.int .i64 x) = rowl (fun j => if j = i then x else G j) k := by
  refine List.ext_getElem? (fun j => ?_)
  by_cases h : j < k
  · rw [rowl_get _ k j h]
    by_cases e : j = i
    · subst e
      rw [List.getElem?_set_self (by rw [rowl_len]; exact h)]; simp
    · rw [List.getElem?_set_ne (fun q => e q.symm), rowl_get G k j h]; simp [e]
  · rw [List.getElem?_eq_none (by rw [List.length_set, rowl_len]; omega), List.getElem?_eq_none (by rw [rowl_len]; omega)]

theorem rowl_congr (F G : Nat → Int) (k : Nat) (h : ∀ i, i < k → F i = G i) : rowl F k = rowl G k := by
  unfold rowl
  refine List.map_congr_left (fun i hi => ?_)
  rw [h i (List.mem_range.1 hi)]

theorem own_le {w : World} {base e g n cap : Nat} {xs : List Value} (h : w.ownsRow base e 1 (.slice (some ⟨g, 0, none⟩) n cap) n xs) : n ≤ cap := by
  rcases h.2 with ⟨e1, _⟩ | ⟨q, cq, cur, e1, _, hh, hnc, _⟩
  · cases e1
  · cases e1; exact hnc

/-- 'AppendPath''s own row, in the midst of the work: what it was handed, and d + 1 numbers behind it. -/
structure AP (w wr : World) (B gb cap len d : Nat) (F G : Nat → Int) : Prop where
  own : wr.ownsRow B 3 1 (.slice (some ⟨gb, 0, none⟩) (len + (d + 1)) cap) (len + (d + 1)) (rowl G (len + (d + 1)))
  bel : Below B w wr
  pre : ∀ j, j < len → G j = F j

theorem AP.cell {w wr : World} {B gb cap len d : Nat} {F G : Nat → Int} (h : AP w wr B gb cap len d F G) (i : Nat) (hi : i ≤ d) : wr.cell? ⟨gb, len + i, none⟩ = some (.int .i64 (G (len + i))) :=
  own_cell h.own (len + i) _ (rowl_get G _ (len + i) (by omega))
theorem AP.free {w wr : World} {B gb cap len d : Nat} {F G : Nat → Int} (h : AP w wr B gb cap len d F G) (i : Nat) : wr.frozen? ⟨gb, i, none⟩ = false := own_free h.own i
theorem AP.at {w wr : World} {B gb cap len d : Nat} {F G : Nat → Int} (h : AP w wr B gb cap len d F G) : B ≤ gb := (h.own.lt gb rfl).1
theorem AP.drewN {w wr : World} {B gb cap len d : Nat} {F G : Nat → Int} (h : AP w wr B gb cap len d F G) (m : Nat) : AP w (wr.drewN m) B gb cap len d F G :=
  ⟨own_drewN m h.own, h.bel.trans (below_drewN m), h.pre⟩
theorem AP.set {w wr : World} {B gb cap len d : Nat} {F G : Nat → Int} (h : AP w wr B gb cap len d F G) (i : Nat) (x : Int) : AP w (wr.setCell ⟨gb, len + i, none⟩ (.int .i64 x)) B gb cap len d F (fun j => if j = len + i then x else G j) := by
  refine ⟨?_, h.bel.setCell (p := ⟨gb, len + i, none⟩) h.at _, fun j hj => ?_⟩
  · rw [← rowl_set]; exact (h.own.stored (len + i) _).1
  · have : j ≠ len + i := by omega
    simp only [this, if_false]; exact h.pre j hj

/-- The rank of step i among the processors that may stand there. -/
def rk (rep : Bool) (f : Nat → Nat) (i : Nat) : Nat := fr (has f (mm rep i)) (f i)

/-- The first loop, at i: the steps behind i hold their ranks. -/
def AP1 (w wr : World) (B gb cap len d : Nat) (F : Nat → Int) (rep : Bool) (f : Nat → Nat) (i : Nat) : Prop :=
  i ≤ d ∧ ∃ G, AP w wr B gb cap len d F G ∧ ∀ j, i < j → j ≤ d → G (len + j) = (rk rep f j : Int)

/-- The second loop, at i: the steps before i are spelt, those from i on hold their ranks. -/
def AP2 (w wr : World) (B gb cap len d : Nat) (F : Nat → Int) (rep : Bool) (f : Nat → Nat) (i : Nat) : Prop :=
  i ≤ d + 1 ∧ ∃ G, AP w wr B gb cap len d F G ∧ (∀ j, j < i → G (len + j) = (f j : Int)) ∧ ∀ j, i ≤ j → j ≤ d → G (len + j) = (rk rep f j : Int)

/-- What 'AppendPath' leaves. -/
def APEnd (w : World) (B len d : Nat) (F : Nat → Int) (f : Nat → Nat) (e : Ending) (w' : World) : Prop :=
  ∃ gb cap G, e = .returned (.slice (some ⟨gb, 0, none⟩) (len + (d + 1)) cap) ∧ AP w w' B gb cap len d F G ∧ ∀ j, j ≤ d → G (len + j) = (f j : Int)

theorem AP1.start {w w1 : World} {B gb cap len d : Nat} {F : Nat → Int} {rep : Bool} {f : Nat → Nat} (hB : B ≤ w.heap.size) {row : Option Nat} (hrow : ∀ k, row = some k → B ≤ k)
    (own : w1.ownsRow B 3 1 (.slice (some ⟨gb, 0, none⟩) (len + (d + 1)) cap) (len + (d + 1)) (rowl F len ++ List.replicate (d + 1) (Value.int .i64 0))) (grow : w.grownBy w1 row) : AP1 w w1 B gb cap len d F rep f d := by
  refine ⟨Nat.le_refl _, _, ⟨by rw [rowl_zeros] at own; exact own, (Below.refl B w).grown grow hB hrow, fun j hj => by simp [hj]⟩, fun j h1 h2 => by omega⟩

theorem AP1.drewN {w wr : World} {B gb cap len d : Nat} {F : Nat → Int} {rep : Bool} {f : Nat → Nat} {i : Nat} (h : AP1 w wr B gb cap len d F rep f i) (m : Nat) : AP1 w (wr.drewN m) B gb cap len d F rep f i := by
  obtain ⟨h1, G, h2, h3⟩ := h
  exact ⟨h1, G, h2.drewN m, h3⟩
theorem AP1.next {w wr : World} {B gb cap len d : Nat} {F : Nat → Int} {rep : Bool} {f : Nat → Nat} {i : Nat} {x : Int} (h : AP1 w wr B gb cap len d F rep f (i + 1)) (hx : x = (rk rep f (i + 1) : Int)) : AP1 w (wr.setCell ⟨gb, len + (i + 1), none⟩ (.int .i64 x)) B gb cap len d F rep f i := by
  obtain ⟨h1, G, h2, h3⟩ := h
  subst hx
  refine ⟨by omega, _, h2.set (i + 1) _, fun j j1 j2 => ?_⟩
  by_cases e : j = i + 1
  · subst e; simp
  · have : ¬ len + j = len + (i + 1) := by omega
    simp only [this, if_false]; exact h3 j (by omega) j2

theorem AP2.start {w wr : World} {B gb cap len d : Nat} {F : Nat → Int} {rep : Bool} {f : Nat → Nat} (h : AP1 w wr B gb cap len d F rep f 0) : AP2 w (wr.setCell ⟨gb, len, none⟩ (.int .i64 (f 0 : Int))) B gb cap len d F rep f 1 := by
  obtain ⟨h1, G, h2, h3⟩ := h
  have h4 := h2.set 0 (f 0 : Int)
  simp only [Nat.add_zero] at h4
  refine ⟨by omega, _, h4, fun j j1 => ?_, fun j j1 j2 => ?_⟩
  · have : j = 0 := by omega
    subst this; simp
  · have : ¬ len + j = len := by omega
    simp only [this, if_false]; exact h3 j (by omega) j2
theorem AP2.next {w wr : World} {B gb cap len d : Nat} {F : Nat → Int} {rep : Bool} {f : Nat → Nat} {i : Nat} (h : AP2 w wr B gb cap len d F rep f i) (hi : i ≤ d) : AP2 w (wr.setCell ⟨gb, len + i, none⟩ (.int .i64 (f i : Int))) B gb cap len d F rep f (i + 1) := by
  obtain ⟨h1, G, h2, h3, h4⟩ := h
  refine ⟨by omega, _, h2.set i _, fun j j1 => ?_, fun j j1 j2 => ?_⟩
  · by_cases e : j = i
    · subst e; simp
    · have : ¬ len + j = len + i := by omega
      simp only [this, if_false]; exact h3 j (by omega)
  · have : ¬ len + j = len + i := by omega
    simp only [this, if_false]; exact h4 j (by omega) j2
theorem AP2.fin {w wr : World} {B gb cap len d : Nat} {F : Nat → Int} {rep : Bool} {f : Nat → Nat} (h : AP2 w wr B gb cap len d F rep f (d + 1)) : APEnd w B len d F f (.returned (.slice (some ⟨gb, 0, none⟩) (len + (d + 1)) cap)) wr := by
  obtain ⟨h1, G, h2, h3, h4⟩ := h
  exact ⟨gb, cap, G, rfl, h2, fun j hj => h3 j (by omega)⟩

/-- The parent of a named vertex. -/
theorem parent_f (w : World) (b g cap n src : Nat) (rep : Bool) (L : Nat) (h : Shp w b g cap n src rep L) (f : Nat → Nat) (j v : Nat) (hf : Valid n src rep f (j + 1)) (hj : j + 1 < L) (hv : v = sta n rep (j + 1) + idx n rep f (j + 1)) :
    Calls Try.prog 28 #[.pointer (some ⟨b, 0, none⟩), .int .i64 (v : Int)] w fun e w' => e = .returned (.int .i64 ((sta n rep j + idx n rep f j : Nat) : Int)) ∧ ∃ m, w' = w.drewN m := by
  have h1 := Pl.idx_lt h.hs (j + 1) hf
  have h2 := parent_any w b g cap n src rep L h j v hj (by omega) (by show v < sta n rep (j + 1) + wid n rep (j + 1); omega)
  have h3 := (Pl.idx_div h.hs hf).1
  have h4 : v - sta n rep (j + 1) = idx n rep f (j + 1) := by omega
  rw [h4, h3] at h2
  exact h2

/-- The first child of the parent of a named vertex. -/
theorem children_f (w : World) (b g cap n src : Nat) (rep : Bool) (L : Nat) (h : Shp w b g cap n src rep L) (f : Nat → Nat) (j v : Nat) (hf : Valid n src rep f j) (hj : j + 1 < L) (hv : v = sta n rep j + idx n rep f j) :
    Calls Try.prog 24 #[.pointer (some ⟨b, 0, none⟩), .int .i64 (v : Int)] w fun e w' => ∃ last : Int, e = .returned (.tuple #[.int .i64 ((sta n rep (j + 1) + idx n rep f j * fan n rep (j + 1) : Nat) : Int), .int .i64 last]) ∧ ∃ m, w' = w.drewN m := by
  have h1 := Pl.idx_lt h.hs j hf
  have h2 := children_any w b g cap n src rep L h j v hj (by omega) (by show v < sta n rep j + wid n rep j; omega)
  have h4 : v - sta n rep j = idx n rep f j := by omega
  rw [h4] at h2
  exact h2.mono (fun e w' hh => ⟨_, hh⟩)

theorem AP1.below {w wr : World} {B gb cap len d : Nat} {F : Nat → Int} {rep : Bool} {f : Nat → Nat} {i : Nat} (h : AP1 w wr B gb cap len d F rep f i) : Below B w wr := by
  obtain ⟨_, G, h2, _⟩ := h; exact h2.bel
theorem AP2.below {w wr : World} {B gb cap len d : Nat} {F : Nat → Int} {rep : Bool} {f : Nat → Nat} {i : Nat} (h : AP2 w wr B gb cap len d F rep f i) : Below B w wr := by
  obtain ⟨_, G, h2, _⟩ := h; exact h2.bel
theorem AP1.slot {w wr : World} {B gb cap len d : Nat} {F : Nat → Int} {rep : Bool} {f : Nat → Nat} {i : Nat} (h : AP1 w wr B gb cap len d F rep f i) (j : Nat) (hj : j ≤ d) : (∃ x, wr.cell? ⟨gb, len + j, none⟩ = some (.int .i64 x)) ∧ wr.frozen? ⟨gb, len + j, none⟩ = false ∧ B ≤ gb := by
  obtain ⟨_, G, h2, _⟩ := h; exact ⟨⟨_, h2.cell j hj⟩, h2.free _, h2.at⟩

theorem hasI_cast (f : Nat → Nat) (q : Nat) : ∀ m, hasI (fun j => (f j : Int)) m (q : Int) = has f m q
  | 0 => rfl
  | m + 1 => by
    simp only [hasI, has]
    rw [hasI_cast f q m]
    have : ((f m : Int) == (q : Int)) = (f m == q) := by
      rw [Bool.eq_iff_iff]; simp only [beq_iff_eq]; omega
    rw [this]

theorem contains_f (w : World) (pb po m c q : Nat) (f : Nat → Nat) (hc : ∀ i, i < m → w.cell? ⟨pb, po + i, none⟩ = some (.int .i64 (f i : Int))) (hm : m ≤ 1000000) :
    Calls Try.prog 29 #[.slice (some ⟨pb, po, none⟩) m c, .int .i64 (q : Int)] w fun e w' => e = .returned (.bool (has f m q)) ∧ w' = w := by
  have h := contains_any w pb po m c (q : Int) (fun j => (f j : Int)) hc hm
  rw [hasI_cast] at h
  exact h

set_option maxRecDepth 100000 in
set_option maxHeartbeats 8000000 in
theorem appendPath_any (w : World) (b g cp n src : Nat) (rep : Bool) (L B : Nat) (pa : Option Addr) (len cap0 : Nat) (F : Nat → Int) (f : Nat → Nat) (d v : Nat) (hS : Shp w b g cp n src rep L) (hbB : b < B) (hgB : g < B) (hB : B ≤ w.heap.size)
    (hown : w.ownsRow B 3 1 (.slice pa len cap0) len (rowl F len)) (hlen : len ≤ 70000) (hf : Valid n src rep f d) (hd : d < L) (hv : v = sta n rep d + idx n rep f d) :
    Calls Try.prog 12 #[.pointer (some ⟨b, 0, none⟩), .slice pa len cap0, .int .i64 (v : Int)] w fun e w' => APEnd w B len d F f e w' := by
  obtain ⟨i0, hi0, hz0, hz1, hz2⟩ := info_parts Try.info3
  have hil := Pl.idx_lt hS.hs d hf
  have hlev := hide (level_any w b g cp n src rep L hS d v hd (by omega) (by show v < sta n rep d + wid n rep d; omega))
  have HS := hide hS
  have HO := hide hown
  have HF := hide hf
  have HV := hide hv
  have hL2 := hS.hL2
  have hn2 := hS.hn2
  have hs := hS.hs
  have hvb : v ≤ 429981696 := by have h1 := Pl.sta_bd n rep hn2 (d + 1) (by omega); have h2 : sta n rep (d + 1) = sta n rep d + wid n rep d := rfl; omega
  have hrow : Hid (∀ k, (Value.slice pa len cap0).ownBlock = some k → B ≤ k) := fun k hk => (hown.lt k hk).1
  clear hS hown hf hv hil
  go_enter Try.func12, Try.ntmps12
  go_wp2_with (first
    | (go_at_call 27; refine (unhide hlev).mono ?_; rintro e w' ⟨rfl, rfl⟩)
    | (at_builtin; refine wpList_append_zeros _ rfl (.tmp 19) (.tmp 22) 26 3 rfl B 3 i0 (.int .i64 0) .i64 8 Try.underlying26 Try.underlying3 hi0 hz0 hz1 hz2 rfl rfl (.slice pa len cap0) len (rowl F len) rfl (unhide HO) _ (d + 1) rfl (by omega) (by omega) (by omega) (by omega) (by unfold maxLen; omega) (by omega) hB ?_; intro gb cap w1 own1 grow1; have HA := hide (AP1.start (rep := rep) (f := f) hB (unhide hrow) own1 grow1); have hcap : len + (d + 1) ≤ cap := own_le own1; clear own1 grow1))
  clear hlev HO hrow
  go_loopw [2, 9, 10, 11, 12] (fun vs is s10 s11 s12 wr => ∃ iv vv : Nat, is = .int .i64 (iv : Int) ∧ vs = .int .i64 (vv : Int) ∧ vv = sta n rep iv + idx n rep f iv ∧ AP1 w' wr B gb cap len d F rep f iv) (fun _ is _ _ _ _ => (intOf is).toNat)
  case atStart => exact ⟨d, v, rfl, rfl, unhide HV, unhide HA⟩
  case round =>
    obtain ⟨i, vv, rfl, rfl, hvv, hap⟩ := hrel
    have HVV := hide hvv
    have HAP := hide hap
    have hid := hap.1
    have HSr := hide ((unhide HS).below hap.below hbB hgB)
    clear hvv hap
    by_cases hi : 0 < i
    · obtain ⟨j, rfl⟩ : ∃ j, i = j + 1 := ⟨i - 1, by omega⟩
      have hvi := (unhide HF).up hid
      have hpar := hide (parent_f wr b g cp n src rep L (unhide HSr) f j vv hvi (by omega) (unhide HVV))
      have hchi := hide (fun m => children_f (wr.drewN m) b g cp n src rep L ((unhide HSr).drewN m) f j (sta n rep j + idx n rep f j) (hvi.up (by omega)) (by omega) rfl)
      have hidx := Pl.idx_lt hs (j + 1) hvi
      have hb1 := Pl.sta_bd n rep hn2 (j + 2) (by omega)
      have hb2 : sta n rep (j + 2) = sta n rep (j + 1) + wid n rep (j + 1) := rfl
      have hrk := hide (show (vv : Int) - ((sta n rep (j + 1) + idx n rep f j * fan n rep (j + 1) : Nat) : Int) = (rk rep f (j + 1) : Int) by
        have h1 : idx n rep f (j + 1) = idx n rep f j * fan n rep (j + 1) + rk rep f (j + 1) := rfl
        have h2 := unhide HVV
        omega)
      have hcb : sta n rep (j + 1) + idx n rep f j * fan n rep (j + 1) ≤ vv := by
        have h1 : idx n rep f (j + 1) = idx n rep f j * fan n rep (j + 1) + rk rep f (j + 1) := rfl
        have h2 := unhide HVV
        omega
      have hvb2 : vv ≤ 429981696 := by have := unhide HVV; omega
      have HP : Hid (sta n rep j + idx n rep f j = sta n rep j + idx n rep f j) := rfl
      generalize hPe : sta n rep j + idx n rep f j = P at *
      generalize sta n rep (j + 1) + idx n rep f j * fan n rep (j + 1) = C at *
      have HPe := hide hPe
      obtain ⟨⟨x, hx⟩, hfx, hgb⟩ := (unhide HAP).slot (j + 1) hid
      clear hPe hidx hb1 hb2 hvi HP
      go_wp2_with fail
      refine (unhide hpar).mono ?_
      rintro e w2 ⟨rfl, m1, rfl⟩
      go_wp2_with fail
      refine (unhide hchi m1).mono ?_
      rintro e w2 ⟨last, rfl, m2, rfl⟩
      go_wp2_with fail
      go_roundw
      case rel => first | exact ⟨j, P, by go_num, rfl, (unhide HPe).symm, ((unhide HAP).drewN _).next (unhide hrk)⟩ | ((repeat apply Exists.intro); exact ⟨⟨j, P, by go_num, rfl, (unhide HPe).symm, ((unhide HAP).drewN _).next (unhide hrk)⟩, rfl⟩)
      case measure => simp [intOf]
    · obtain rfl : i = 0 := by omega
      obtain ⟨⟨x, hx⟩, hfx, hgb⟩ := (unhide HAP).slot 0 hid
      simp only [Nat.add_zero] at hx hfx
      have hc1 := (unhide HSr).c1
      have hf0 := hide (unhide HF).1
      go_wp2_with fail
      have H2 := hide (show AP2 w' (wr.setCell ⟨gb, len, none⟩ (.int .i64 (src : Int))) B gb cap len d F rep f 1 by rw [← unhide hf0]; exact AP2.start (unhide HAP))
      clear hx hfx hc1 HAP HSr hf0
      generalize wr.setCell ⟨gb, len, none⟩ (.int .i64 (src : Int)) = W2 at *
      go_loopw [13, 14, 15, 16] (fun is s14 s15 s16 wr2 => ∃ i : Nat, is = .int .i64 (i : Int) ∧ 1 ≤ i ∧ AP2 w' wr2 B gb cap len d F rep f i) (fun is _ _ _ _ => d + 1 - (intOf is).toNat)
      case atStart => exact ⟨1, rfl, Nat.le_refl _, unhide H2⟩
      case round =>
        obtain ⟨i, rfl, hi1, hap⟩ := hrel
        have HA2 := hide hap
        have hi2 := hap.1
        have HSr := hide ((unhide HS).below hap.below hbB hgB)
        by_cases hid : i ≤ d
        · obtain ⟨G, g1, g2, g3⟩ := (hap).2
          have hci := g1.cell i hid
          rw [g3 i (Nat.le_refl _) hid] at hci
          have hfi := g1.free (len + i)
          have hc0 := (unhide HSr).c0
          have hc2 := (unhide HSr).c2
          have hcells : Hid (∀ j, j < i → wr.cell? ⟨gb, len + j, none⟩ = some (.int .i64 (f j : Int))) := fun j hj => by
            have := g1.cell j (by omega)
            rw [g2 j hj] at this; exact this
          have hml := Pl.mm_le rep i hi1
          have hm1 := Pl.mm_pos rep i hi1
          have HPf : Hid (rk rep f i = fr (has f (mm rep i)) (f i)) := rfl
          have HPi := hide ((unhide HF).2 i hi1 hid).2
          have hpb := ((unhide HF).2 i hi1 hid).1
          have HCon := hide (fun (p c : Nat) => contains_f wr gb len (mm rep i) c p f (fun j hj => unhide hcells j (by omega)) (by omega))
          clear g1 g2 g3 hap
          have hdc1 : decide ((i : Int) < (d : Int) + 1) = true := by simp; omega
          have hdc2 : decide (i < d + 1) = true := by simp; omega
          cases rep
          · simp only [mm] at HCon HPf hpb HPi
            simp only [if_true, Bool.false_eq_true, if_false] at HCon HPf hpb HPi
            go_wp2_with fail
            go_loop [15, 16, 79] (fun r s16 kv => ∃ p : Nat, p ≤ f i ∧ kv = .int .i64 (p : Int) ∧ r = .int .i64 ((rk false f i : Int) - (fr (has f i) p : Int))) (fun _ _ kv => n - (intOf kv).toNat)
            case atStart => exact ⟨0, Nat.zero_le _, rfl, by simp [fr]⟩
            case round =>
              obtain ⟨p, hp, rfl, rfl⟩ := hrel
              have hfp := Pl.cnt_fr (has f i) p
              have hfrk : fr (has f i) p ≤ rk false f i := by rw [unhide HPf]; exact Pl.fr_mono _ _ _ hp
              have hrkb : rk false f i ≤ 12 := by
                have h1 := Pl.cnt_fr (has f i) (f i)
                rw [unhide HPf]; omega
              have hcon := unhide HCon p
              have HC1 := hide hcon
              clear hcon
              by_cases hpf : p = f i
              · have hz : ((rk false f i : Int) - (fr (has f i) p : Int) == 0) = true := by
                  rw [beq_iff_eq, unhide HPf, hpf]; omega
                have hno : Hid (has f i p = false) := by show _ = _; rw [hpf]; exact unhide HPi
                have hnx := hide (show AP2 w' (wr.setCell ⟨gb, len + i, none⟩ (.int .i64 (p : Int))) B gb cap len d F false f (i + 1) by rw [hpf]; exact (unhide HA2).next hid)
                rw [unhide hno] at HC1
                clear hpf hno
                go_wp2_with fail
                refine (unhide HC1 _).mono ?_
                rintro e w3 ⟨rfl, rfl⟩
                go_wp2_with fail
                go_roundw
                case rel => first | exact ⟨i + 1, by go_num, by omega, unhide hnx⟩ | ((repeat apply Exists.intro); exact ⟨⟨i + 1, by go_num, by omega, unhide hnx⟩, rfl⟩)
                case measure => simp [intOf]; omega
              · have hplt : p < f i := by omega
                cases hP : has f i p
                · rw [hP] at HC1
                  have hst : Hid (fr (has f i) (p + 1) = fr (has f i) p + 1) := by show _ = _; simp [fr, hP]
                  have hpos := Pl.fr_strict (has f i) p (f i) hplt hP
                  rw [← unhide HPf] at hpos
                  have hz : ((rk false f i : Int) - (fr (has f i) p : Int) == 0) = false := by
                    rw [beq_eq_false_iff_ne]; omega
                  clear hP
                  go_wp2_with fail
                  refine (unhide HC1 _).mono ?_
                  rintro e w3 ⟨rfl, rfl⟩
                  go_wp2_with fail
                  go_round
                  case rel => first | exact ⟨p + 1, by omega, by go_num, by rw [unhide hst]; go_num⟩ | (refine ⟨trivial, ?_⟩; (repeat apply Exists.intro); refine ⟨?_, rfl⟩; exact ⟨p + 1, by omega, by go_num, by rw [unhide hst]; go_num⟩)
                  case measure => simp [intOf]; omega
                · rw [hP] at HC1
                  have hst : Hid (fr (has f i) (p + 1) = fr (has f i) p) := by show _ = _; simp [fr, hP]
                  clear hP
                  go_wp2_with fail
                  refine (unhide HC1 _).mono ?_
                  rintro e w3 ⟨rfl, rfl⟩
                  go_wp2_with fail
                  go_round
                  case rel => first | exact ⟨p + 1, by omega, by go_num, by rw [unhide hst]⟩ | (refine ⟨trivial, ?_⟩; (repeat apply Exists.intro); refine ⟨?_, rfl⟩; exact ⟨p + 1, by omega, by go_num, by rw [unhide hst]⟩)
                  case measure => simp [intOf]; omega
          · simp only [mm] at HCon HPf hpb HPi
            simp only [if_true, Bool.false_eq_true, if_false] at HCon HPf hpb HPi
            go_wp2_with fail
            go_loop [15, 16, 79] (fun r s16 kv => ∃ p : Nat, p ≤ f i ∧ kv = .int .i64 (p : Int) ∧ r = .int .i64 ((rk true f i : Int) - (fr (has f 1) p : Int))) (fun _ _ kv => n - (intOf kv).toNat)
            case atStart => exact ⟨0, Nat.zero_le _, rfl, by simp [fr]⟩
            case round =>
              obtain ⟨p, hp, rfl, rfl⟩ := hrel
              have hfp := Pl.cnt_fr (has f 1) p
              have hfrk : fr (has f 1) p ≤ rk true f i := by rw [unhide HPf]; exact Pl.fr_mono _ _ _ hp
              have hrkb : rk true f i ≤ 12 := by
                have h1 := Pl.cnt_fr (has f 1) (f i)
                rw [unhide HPf]; omega
              have hcon := unhide HCon p
              have HC1 := hide hcon
              clear hcon
              by_cases hpf : p = f i
              · have hz : ((rk true f i : Int) - (fr (has f 1) p : Int) == 0) = true := by
                  rw [beq_iff_eq, unhide HPf, hpf]; omega
                have hno : Hid (has f 1 p = false) := by show _ = _; rw [hpf]; exact unhide HPi
                have hnx := hide (show AP2 w' (wr.setCell ⟨gb, len + i, none⟩ (.int .i64 (p : Int))) B gb cap len d F true f (i + 1) by rw [hpf]; exact (unhide HA2).next hid)
                rw [unhide hno] at HC1
                clear hpf hno
                go_wp2_with fail
                refine (unhide HC1 _).mono ?_
                rintro e w3 ⟨rfl, rfl⟩
                go_wp2_with fail
                go_roundw
                case rel => first | exact ⟨i + 1, by go_num, by omega, unhide hnx⟩ | ((repeat apply Exists.intro); exact ⟨⟨i + 1, by go_num, by omega, unhide hnx⟩, rfl⟩)
                case measure => simp [intOf]; omega
              · have hplt : p < f i := by omega
                cases hP : has f 1 p
                · rw [hP] at HC1
                  have hst : Hid (fr (has f 1) (p + 1) = fr (has f 1) p + 1) := by show _ = _; simp [fr, hP]
                  have hpos := Pl.fr_strict (has f 1) p (f i) hplt hP
                  rw [← unhide HPf] at hpos
                  have hz : ((rk true f i : Int) - (fr (has f 1) p : Int) == 0) = false := by
                    rw [beq_eq_false_iff_ne]; omega
                  clear hP
                  go_wp2_with fail
                  refine (unhide HC1 _).mono ?_
                  rintro e w3 ⟨rfl, rfl⟩
                  go_wp2_with fail
                  go_round
                  case rel => first | exact ⟨p + 1, by omega, by go_num, by rw [unhide hst]; go_num⟩ | (refine ⟨trivial, ?_⟩; (repeat apply Exists.intro); refine ⟨?_, rfl⟩; exact ⟨p + 1, by omega, by go_num, by rw [unhide hst]; go_num⟩)
                  case measure => simp [intOf]; omega
                · rw [hP] at HC1
                  have hst : Hid (fr (has f 1) (p + 1) = fr (has f 1) p) := by show _ = _; simp [fr, hP]
                  clear hP
                  go_wp2_with fail
                  refine (unhide HC1 _).mono ?_
                  rintro e w3 ⟨rfl, rfl⟩
                  go_wp2_with fail
                  go_round
                  case rel => first | exact ⟨p + 1, by omega, by go_num, by rw [unhide hst]⟩ | (refine ⟨trivial, ?_⟩; (repeat apply Exists.intro); refine ⟨?_, rfl⟩; exact ⟨p + 1, by omega, by go_num, by rw [unhide hst]⟩)
                  case measure => simp [intOf]; omega
        · obtain rfl : i = d + 1 := by omega
          have hfin := hide (unhide HA2).fin
          clear hap
          go_wp2_with fail
          go_ret
          exact unhide hfin

end Go.Proofs.Qxb6003570a
