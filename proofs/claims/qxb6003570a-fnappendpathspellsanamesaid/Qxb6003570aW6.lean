import Derived.Test.Qxb6003570aJ
namespace Go.Proofs.Qxb6003570a
open Go.RowKit
set_option linter.unusedVariables false
set_option linter.unusedSimpArgs false
open Pl (fan wid sta Pos has fr mm Valid idx Right Done Turn)

theorem below_drewN' {B : Nat} {a w : World} (n : Nat) (h : Below B a w) : Below B a (w.drewN n) := h.trans (below_drewN n)

/-- What was owned below B is owned still. -/
theorem own_below {w w' : World} {base e size B : Nat} {v : Value} {n : Nat} {xs : List Value} (h : w.ownsRow base e size v n xs) (hb : Below B w w') (hB : w.heap.size ≤ B) : w'.ownsRow base e size v n xs := by
  refine ⟨h.1, ?_⟩
  rcases h.2 with hn | ⟨g, cap, cur, rfl, h1, h2, h3⟩
  · exact .inl hn
  · refine .inr ⟨g, cap, cur, rfl, h1, ?_, h3⟩
    rw [hb.block g (Nat.lt_of_lt_of_le (lt_of_block h2) hB)]; exact h2

theorem own_path {w : World} {B : Nat} {pa : Option Addr} {len cp : Nat} {F : Nat → Int} (h : w.ownsRow B 3 1 (.slice pa len cp) len (rowl F len)) : PathAt w pa len cp F := by
  rcases h.2 with ⟨e, h0⟩ | ⟨g, cap, cur, e, h1, h2, h3, _⟩
  · cases e; exact .inl ⟨rfl, rfl, rfl⟩
  · cases e
    refine .inr ⟨g, 0, rfl, h3, fun i hi => ?_⟩
    rw [Nat.zero_add]; exact own_cell h i _ (rowl_get F len i hi)

/-- Two names of the tree: what their lengths and their order say of their vertices. -/
theorem order_len {n src : Nat} {rep : Bool} {L d d' : Nat} {f f' : Nat → Nat} (hs : src < n) (hf : Valid n src rep f d) (hf' : Valid n src rep f' d') (h : d < d') : sta n rep d + idx n rep f d < sta n rep d' + idx n rep f' d' := by
  have h1 := Pl.idx_lt hs d hf
  have h2 := Pl.sta_mono n rep (d + 1) d' h
  have h3 : sta n rep (d + 1) = sta n rep d + wid n rep d := rfl
  omega

theorem order_lex {n src : Nat} {rep : Bool} {d : Nat} {f f' : Nat → Nat} {F F' : Nat → Int} {c : Int} (hs : src < n) (hf : Valid n src rep f d) (hf' : Valid n src rep f' d) (e : ∀ i, i ≤ d → F i = (f i : Int)) (e' : ∀ i, i ≤ d → F' i = (f' i : Int)) (h : LexIs F F' (d + 1) c) :
    (c < 0 ↔ idx n rep f d < idx n rep f' d) ∧ (c = 0 ↔ idx n rep f d = idx n rep f' d) ∧ (c = -1 ∨ c = 0 ∨ c = 1) := by
  rcases h with ⟨rfl, h⟩ | ⟨rfl, i, hi, h1, h2⟩ | ⟨rfl, i, hi, h1, h2⟩
  · have := Pl.idx_congr n rep f f' d (fun i hi => by have a := e i hi; have b := e' i hi; have c := h i (by omega); omega)
    omega
  · have := Pl.idx_lex hs d hf hf' i (by omega) (fun j hj => by have a := e j (by omega); have b := e' j (by omega); have c := h1 j hj; omega) (by have a := e i (by omega); have b := e' i (by omega); omega)
    omega
  · have := Pl.idx_lex hs d hf' hf i (by omega) (fun j hj => by have a := e j (by omega); have b := e' j (by omega); have c := h1 j hj; omega) (by have a := e i (by omega); have b := e' i (by omega); omega)
    omega

set_option maxHeartbeats 4000000 in
theorem walk6 (a0 : Int) (a1 : Int) (a2 : Int) (a3 : Bool) (a4 : Option Addr) (len4 cap4 : Nat) (z4 : List Int) (a5 : Option Addr) (len5 cap5 : Nat) (z5 : List Int) (w : World) (w0 : (Lit.int .i64 a0).wf = true) (w1 : (Lit.int .i64 a1).wf = true) (w2 : (Lit.int .i64 a2).wf = true) (w4 : IsRow .i64 w a4 len4 cap4 z4) (w5 : IsRow .i64 w a5 len5 cap5 z5) :
    Calls Try.prog 6 #[.int .i64 a0, .int .i64 a1, .int .i64 a2, .bool a3, .slice a4 len4 cap4, .slice a5 len5 cap5] w fun e w' => e = .returned (.bool true) ∧ Below w.heap.size w w' := by
  have lo2 : -9223372036854775808 ≤ a2 := (bounds_i64 w2).1
  have m4 : len4 ≤ maxLen := w4.len
  have m5 : len5 ≤ maxLen := w5.len
  have A4 := hide w4.arg
  have A5 := hide w5.arg
  generalize (fun i => z4.getD i 0) = F at *
  generalize (fun i => z5.getD i 0) = G at *
  clear w0 w1 w2 w4 w5
  unfold maxLen at m4 m5
  go_enter Try.func6, Try.ntmps6
  go_wp2_with fail
  refine (bytes21 w a0 a1 a2 a3 a4 a5 len4 cap4 len5 cap5 m4 m5).mono ?_
  rintro e w' ⟨⟨r, rfl⟩, rfl⟩
  cases r
  · go_wp2_with fail
    go_ret
    exact ⟨rfl, Below.refl _ _⟩
  by_cases hb4 : 65536 < len4
  · go_wp2_with fail
    go_ret
    exact ⟨rfl, Below.refl _ _⟩
  by_cases hb5 : 65536 < len5
  · go_wp2_with fail
    go_ret
    exact ⟨rfl, Below.refl _ _⟩
  go_wp2_with fail
  refine (argsOK_any w' a0 a1 a2).mono ?_
  rintro e w1 ⟨⟨r, rfl, hr⟩, rfl⟩
  cases r
  · go_wp2_with fail
    go_ret
    exact ⟨rfl, Below.refl _ _⟩
  obtain ⟨h1, h2, h3, h4, h5⟩ := hr rfl
  clear hr
  obtain ⟨n, rfl⟩ := Int.eq_ofNat_of_zero_le (show 0 ≤ a0 by omega)
  obtain ⟨src, rfl⟩ := Int.eq_ofNat_of_zero_le h3
  go_wp2_with fail
  refine (clone_any w1 a4 len4 cap4 F (unhide A4) (by omega)).mono ?_
  rintro e wc ⟨pa, cp, rfl, hown4, hbel4⟩
  have O4 := hide hown4
  have B4 := hide hbel4
  clear hown4 hbel4
  go_wp2_with fail
  refine (clone_any wc a5 len5 cap5 G ((unhide A5).below (unhide B4)) (by omega)).mono ?_
  rintro e wd ⟨qa, cq, rfl, hown5, hbel5⟩
  have O5 := hide hown5
  have B5 := hide hbel5
  clear hown5 hbel5
  go_wp2_with fail
  refine (build_any wd n src a2 a3 (by omega) (by omega) (by omega) h5 lo2).mono ?_
  rintro e ws ⟨b, g, cap, L, rfl, hS, hB⟩
  have HS := hide hS
  have HB := hide hB
  have hsn := hS.hs
  clear hS hB
  have P4 := hide (own_path (own_below (own_below (unhide O4) (unhide B5) (Nat.le_refl _)) (unhide HB) (Nat.le_refl _)))
  have P5 := hide (own_path (own_below (unhide O5) (unhide HB) (Nat.le_refl _)))
  have BB : Hid (Below w1.heap.size w1 ws) := (unhide B4).trans (((unhide B5).mono (unhide B4).size).trans ((unhide HB).mono (Nat.le_trans (unhide B4).size (unhide B5).size)))
  have W4 := hide (unhide A4).2.2
  have W5 := hide (unhide A5).2.2
  clear A4 A5 O4 O5 B4 B5 HB
  go_wp2_with fail
  refine (find_any ws b g cap pa len4 cp n src a3 L F (unhide HS) (unhide P4) (unhide W4) (by omega)).mono ?_
  rintro e w2 ⟨hf1, m1, rfl⟩
  rcases hf1 with ⟨rfl, _⟩ | ⟨f, d, e1, hdL, hFf, hfv, rfl⟩
  · go_wp2_with fail
    refine (find_any (ws.drewN m1) b g cap qa len5 cq n src a3 L G ((unhide HS).drewN m1) (unhide P5) (unhide W5) (by omega)).mono ?_
    rintro e w2 ⟨hf2, m2, rfl⟩
    rcases hf2 with ⟨rfl, _⟩ | ⟨f', d', e1', hdL', hFf', hfv', rfl⟩
    all_goals
      go_wp2_with fail
      go_ret
      exact ⟨rfl, below_drewN' _ (unhide BB)⟩
  obtain ⟨vp, hvp⟩ : ∃ vp, sta n a3 d + idx n a3 f d = vp := ⟨_, rfl⟩
  rw [hvp]
  have VP := hide hvp
  clear hvp
  have E1 := hide e1
  have FF := hide hFf
  have FV := hide hfv
  clear e1 hFf hfv
  go_wp2_with fail
  refine (find_any (ws.drewN m1) b g cap qa len5 cq n src a3 L G ((unhide HS).drewN m1) (unhide P5) (unhide W5) (by omega)).mono ?_
  rintro e w2 ⟨hf2, m2, rfl⟩
  rcases hf2 with ⟨rfl, _⟩ | ⟨f', d', e1', hdL', hFf', hfv', rfl⟩
  · go_wp2_with fail
    go_ret
    exact ⟨rfl, below_drewN' _ (unhide BB)⟩
  obtain ⟨vq, hvq⟩ : ∃ vq, sta n a3 d' + idx n a3 f' d' = vq := ⟨_, rfl⟩
  rw [hvq]
  have VQ := hide hvq
  clear hvq
  have E1' := hide e1'
  have FF' := hide hFf'
  have FV' := hide hfv'
  clear e1' hFf' hfv'
  rcases Nat.lt_trichotomy d d' with hlt | heq | hgt
  · have hord := order_len (L := L) hsn (unhide FV) (unhide FV') hlt
    rw [unhide VP, unhide VQ] at hord
    have hll : len4 < len5 := by have a := unhide E1; have b := unhide E1'; omega
    have hnl : ((len4 : Int) != (len5 : Int)) = true := by rw [bne_iff_ne]; omega
    go_wp2_with fail
    go_ret
    exact ⟨rfl, below_drewN' _ (unhide BB)⟩
  · subst heq
    obtain rfl : len4 = len5 := by have a := unhide E1; have b := unhide E1'; omega
    have hnl : ((len4 : Int) != (len4 : Int)) = false := by simp
    rcases unhide P4 with ⟨_, h0, _⟩ | ⟨pb, po, rfl, _, hc4⟩
    · have := unhide E1; omega
    rcases unhide P5 with ⟨_, h0, _⟩ | ⟨qb, qo, rfl, _, hc5⟩
    · have := unhide E1; omega
    have C4 := hide hc4
    have C5 := hide hc5
    clear hc4 hc5
    have HORD := hide (fun c (hc : LexIs F G (d + 1) c) => order_lex hsn (unhide FV) (unhide FV') (unhide FF) (unhide FF') hc)
    go_wp2_with fail
    refine (lex_any (ws.drewN (m1 + m2)) pb po qb qo len4 cp cq F G (by omega) (unhide C4) (unhide C5)).mono ?_
    rintro e w3 ⟨⟨c, rfl, hc⟩, m3, rfl⟩
    rw [unhide E1] at hc
    obtain ⟨o1, o2, o3⟩ := unhide HORD c hc
    clear hc
    rcases o3 with rfl | rfl | rfl
    · have hk : vp < vq := by have a := unhide VP; have b := unhide VQ; omega
      have hk2 : ((vp : Int) == (vq : Int)) = false := by rw [beq_eq_false_iff_ne]; omega
      clear o1 o2
      go_wp2_with fail
      go_ret
      exact ⟨rfl, below_drewN' _ (unhide BB)⟩
    · have hk : vp = vq := by have a := unhide VP; have b := unhide VQ; omega
      clear o1 o2
      subst hk
      go_wp2_with fail
      go_ret
      exact ⟨by simp, below_drewN' _ (unhide BB)⟩
    · have hk : vq < vp := by have a := unhide VP; have b := unhide VQ; omega
      have hk2 : ((vp : Int) == (vq : Int)) = false := by rw [beq_eq_false_iff_ne]; omega
      have hk3 : decide (vp < vq) = false := by simp; omega
      have hk4 : decide ((vp : Int) < (vq : Int)) = false := by simp; omega
      clear o1 o2
      go_wp2_with fail
      go_ret
      exact ⟨rfl, below_drewN' _ (unhide BB)⟩
  · have hord := order_len (L := L) hsn (unhide FV') (unhide FV) hgt
    rw [unhide VQ, unhide VP] at hord
    have hll : len5 < len4 := by have a := unhide E1; have b := unhide E1'; omega
    have hk3 : decide (vp < vq) = false := by simp; omega
    have hk4 : decide ((vp : Int) < (vq : Int)) = false := by simp; omega
    have hk5 : decide (len4 < len5) = false := by simp; omega
    have hk6 : decide ((len4 : Int) < (len5 : Int)) = false := by simp; omega
    have hnl : ((len4 : Int) != (len5 : Int)) = true := by rw [bne_iff_ne]; omega
    go_wp2_with fail
    go_ret
    exact ⟨rfl, below_drewN' _ (unhide BB)⟩

end Go.Proofs.Qxb6003570a
