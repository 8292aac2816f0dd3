import Derived.Test.Qxb6003570aK
import Derived.Test.Qxb6003570aW5
namespace Go.Proofs.Qxb6003570a
open Go.RowKit
set_option linter.unusedVariables false
set_option linter.unusedSimpArgs false
open Pl (fan wid sta Pos has fr mm Valid idx Right Done Turn)

theorem name_of4 {n src : Nat} {rep : Bool} {L v : Nat} (hs : src < n) (hv : v < sta n rep L) : ∃ d f, d < L ∧ Valid n src rep f d ∧ v = sta n rep d + idx n rep f d := by
  obtain ⟨d, h1, h2, h3⟩ := depth_of n rep v L hv
  have h4 : v - sta n rep d < wid n rep d := by simp only [sta] at h3; omega
  obtain ⟨f, f1, f2⟩ := Pl.idx_onto hs d _ h4
  exact ⟨d, f, h1, f1, by omega⟩

theorem Level_int (w : World) (b g cap n src : Nat) (rep : Bool) (L : Nat) (h : Shp w b g cap n src rep L) (d : Nat) (li : Int) (hd : d < L) (e : li = (d : Int) + 1) :
    Calls Try.prog 18 #[.pointer (some ⟨b, 0, none⟩), .int .i64 li] w fun e w' => e = .returned (.tuple #[.int .i64 (sta n rep d : Int), .int .i64 (sta n rep (d + 1) : Int)]) ∧ ∃ m, w' = w.drewN m := by
  subst e
  exact Level_any w b g cap n src rep L h d hd

/-- A later step is never the source; and where names do not repeat, none before it. -/
theorem Valid.ne_src {n src : Nat} {rep : Bool} {f : Nat → Nat} {d i : Nat} (h : Valid n src rep f d) (h1 : 1 ≤ i) (h2 : i ≤ d) : f i ≠ src := by
  have h3 := (Pl.has_false f (f i) (mm rep i)).1 (h.2 i h1 h2).2 0 (Pl.mm_pos rep i h1)
  rw [h.1] at h3
  exact fun e => h3 e.symm
theorem Valid.ne_old {n src : Nat} {f : Nat → Nat} {d i j : Nat} (h : Valid n src false f d) (h1 : 1 ≤ i) (h2 : i ≤ d) (hj : j < i) : f j ≠ f i := by
  have h3 := (h.2 i h1 h2).2
  simp only [mm] at h3
  simp only [Bool.false_eq_true, if_false] at h3
  exact (Pl.has_false f (f i) i).1 h3 j hj

theorem own_shape4 {w : World} {B : Nat} {pa : Option Addr} {l c : Nat} {xs : List Value} (h : w.ownsRow B 3 1 (.slice pa l c) l xs) : (pa = none ∧ l = 0 ∧ c = 0) ∨ ∃ g, pa = some ⟨g, 0, none⟩ := by
  rcases h.2 with ⟨e, h0⟩ | ⟨g, cap, cur, e, _⟩
  · cases e; exact .inl ⟨rfl, rfl, rfl⟩
  · cases e; exact .inr ⟨g, rfl⟩

set_option maxRecDepth 100000 in
set_option maxHeartbeats 8000000 in
theorem walk4 (a0 : Int) (a1 : Int) (a2 : Int) (a3 : Bool) (a4 : Option Addr) (len4 cap4 : Nat) (z4 : List Int) (a5 : Int) (w : World) (w0 : (Lit.int .i64 a0).wf = true) (w1 : (Lit.int .i64 a1).wf = true) (w2 : (Lit.int .i64 a2).wf = true) (w4 : IsRow .i64 w a4 len4 cap4 z4) (w5 : (Lit.int .i64 a5).wf = true) :
    Calls Try.prog 4 #[.int .i64 a0, .int .i64 a1, .int .i64 a2, .bool a3, .slice a4 len4 cap4, .int .i64 a5] w fun e w' => e = .returned (.bool true) ∧ Below w.heap.size w w' := by
  have lo2 : -9223372036854775808 ≤ a2 := (bounds_i64 w2).1
  have b5 := bounds_i64 w5
  have m4 : len4 ≤ maxLen := w4.len
  have A4 := hide w4.arg
  generalize (fun i => z4.getD i 0) = F at *
  clear w0 w1 w2 w4 w5
  unfold maxLen at m4
  go_enter Try.func4, Try.ntmps4
  go_wp2_with fail
  refine (bytes14 w a0 a1 a2 a3 a4 len4 cap4 a5 m4).mono ?_
  rintro e w' ⟨⟨r, rfl⟩, rfl⟩
  cases r
  · go_wp2_with fail
    go_ret
    exact ⟨rfl, Below.refl _ _⟩
  by_cases hb4 : 65536 < len4
  · go_wp2_with fail
    go_ret
    exact ⟨rfl, Below.refl _ _⟩
  have q2 : decide ((65536 : Int) < (len4 : Int)) = false := by simp; omega
  go_wp2_with fail
  refine (argsOK_any w' a0 a1 a2).mono ?_
  rintro e w1 ⟨⟨r, rfl, hr⟩, rfl⟩
  cases r
  · go_wp2_with fail
    go_ret
    exact ⟨rfl, Below.refl _ _⟩
  obtain ⟨h1, h2, h3, h4, h5⟩ := hr rfl
  clear hr
  obtain ⟨n, rfl⟩ := Int.eq_ofNat_of_zero_le (show 0 ≤ a0 by omega)
  obtain ⟨src, rfl⟩ := Int.eq_ofNat_of_zero_le h3
  go_wp2_with fail
  refine (build_any w1 n src a2 a3 (by omega) (by omega) (by omega) h5 lo2).mono ?_
  rintro e ws ⟨b, g, cap, L, rfl, hS, hB⟩
  have HS := hide hS
  have HB := hide hB
  have hsn := hS.hs
  have hn2 := hS.hn2
  have hL2 := hS.hL2
  have hN := Pl.sta_bd n a3 hS.hn2 L hS.hL2
  have hbw : b < ws.heap.size := World.block_lt_of_cell? ws _ hS.c0
  have hgw : g < ws.heap.size := World.block_lt_of_cell? ws _ (hS.st 0 (by omega))
  clear hS hB
  by_cases hneg : a5 < 0
  · go_wp2_with fail
    go_ret
    exact ⟨rfl, unhide HB⟩
  obtain ⟨v, rfl⟩ := Int.eq_ofNat_of_zero_le (show 0 ≤ a5 by omega)
  have q1 : decide ((v : Int) < 0) = false := decide_eq_false (by omega)
  by_cases hbig : sta n a3 L ≤ v
  · go_wp2_with fail
    refine (len_any ws b g cap n src a3 L (unhide HS)).mono ?_
    rintro e w2 ⟨rfl, m, rfl⟩
    go_wp2_with fail
    go_ret
    exact ⟨rfl, below_drewN' m (unhide HB)⟩
  obtain ⟨d, f, hd, hf, hv⟩ := name_of4 (src := src) hsn (show v < sta n a3 L by omega)
  have HF := hide hf
  have HV := hide hv
  have hil := Pl.idx_lt hsn d hf
  have hv1 : sta n a3 d ≤ v := by omega
  have hv2 : v < sta n a3 (d + 1) := by show v < sta n a3 d + wid n a3 d; omega
  clear hf hv hil
  go_wp2_with fail
  refine (len_any ws b g cap n src a3 L (unhide HS)).mono ?_
  rintro e w2 ⟨rfl, m, rfl⟩
  go_wp2_with fail
  refine (clone_any (ws.drewN m) a4 len4 cap4 F ((unhide A4).below (below_drewN' m (unhide HB))) (by omega)).mono ?_
  rintro e wc ⟨pa, cp, rfl, hown4, hbel4⟩
  have O4 := hide hown4
  have B4 : Hid (Below ws.heap.size ws wc) := (below_drewN m).trans hbel4
  clear hown4 hbel4
  go_wp2_with fail
  refine (roomy_any wc a4 len4 cap4 F (((unhide A4).below (unhide HB)).below (unhide B4)) (by omega)).mono ?_
  rintro e wd ⟨qa, cq, rfl, hown5, hbel5⟩
  have O5 := hide hown5
  have B5 := hide hbel5
  clear hown5 hbel5
  have hsz4 : ws.heap.size ≤ wc.heap.size := (unhide B4).size
  have HSd := hide ((unhide HS).below ((unhide B4).trans ((unhide B5).mono hsz4)) hbw hgw)
  go_wp2_with fail
  refine (appendPath_any wd b g cap n src a3 L wc.heap.size qa len4 cq F f d v (unhide HSd) (by omega) (by omega) (unhide B5).size (unhide O5) (by omega) (unhide HF) hd (unhide HV)).mono ?_
  rintro e w3 ⟨gb, ct, G, rfl, hap, hG⟩
  have HAP := hide hap
  have hcap := own_le hap.own
  have BB : Hid (Below w1.heap.size w1 w3) := (unhide HB).trans (((unhide B4).mono (unhide HB).size).trans ((((unhide B5).trans hap.bel).mono (Nat.le_trans (unhide HB).size hsz4))))
  have HS3 := hide ((unhide HS).below ((unhide B4).trans (((unhide B5).trans hap.bel).mono hsz4)) hbw hgw)
  have hout : Hid (∀ i, i < len4 → w3.cell? ⟨gb, i, none⟩ = some (.int .i64 (F i))) := fun i hi => by
    rw [← hap.pre i hi]; exact own_cell hap.own i _ (rowl_get G _ i (by omega))
  have hnm : Hid (∀ i, i ≤ d → w3.cell? ⟨gb, len4 + i, none⟩ = some (.int .i64 (f i : Int))) := fun i hi => by
    rw [← hG i hi]; exact hap.cell i hi
  have O4c := hide (own_below (unhide O4) ((unhide B5).trans hap.bel) (Nat.le_refl _))
  obtain ⟨T, hT⟩ : ∃ T, len4 + (d + 1) = T := ⟨_, rfl⟩
  rw [hT]
  rw [hT] at hcap
  have hT1 : len4 + d < T := by omega
  have hT2 : T ≤ len4 + d + 1 := by omega
  clear hap hG hT A4 O4 O5 B4 B5 HSd HS HB hneg hbig m4
  have q3 : decide ((T : Int) - (len4 : Int) < 1) = false := by simp; omega
  have q4 : decide ((L : Int) < (T : Int) - (len4 : Int)) = false := by simp; omega
  go_wp2_with fail
  refine (levels_any w3 b g cap n src a3 L (unhide HS3)).mono ?_
  rintro e w4 ⟨rfl, rfl⟩
  go_wp2_with fail
  go_loopw [18] (fun kv wr => ∃ k m : Nat, k ≤ len4 ∧ kv = .int .i64 (k : Int) ∧ wr = w4.drewN m) (fun kv _ => len4 - (intOf kv).toNat)
  case atStart => exact ⟨0, 0, Nat.zero_le _, rfl, rfl⟩
  case round =>
    obtain ⟨k, m1, hk, rfl, rfl⟩ := hrel
    by_cases hkn : k < len4
    · rcases own_shape4 (unhide O4c) with ⟨rfl, h0, _⟩ | ⟨ob, rfl⟩
      · omega
      · have hc1 := unhide hout k hkn
        have hc2 := own_cell (unhide O4c) k _ (rowl_get F len4 k hkn)
        have hnk : (F k != F k) = false := by simp
        go_wp2_with fail
        go_quiet (fail)
        go_wp2_with fail
        go_roundw
        case rel => first | exact ⟨k + 1, _, by omega, by go_num, rfl⟩ | ((repeat apply Exists.intro); refine ⟨?_, rfl⟩; exact ⟨k + 1, _, by omega, by go_num, rfl⟩)
        case measure => simp [intOf]; omega
    · have hn0 := unhide hnm 0 (by omega)
      rw [(unhide HF).1, Nat.add_zero] at hn0
      have hsrc : ((src : Int) != (src : Int)) = false := by simp
      go_wp2_with fail
      clear hn0
      go_loopw [20, 21, 22] (fun iv s21 s22 wr => ∃ i m : Nat, 1 ≤ i ∧ i ≤ d + 1 ∧ iv = .int .i64 (i : Int) ∧ wr = w4.drewN m) (fun iv _ _ _ => d + 1 - (intOf iv).toNat)
      case atStart => exact ⟨1, m1, Nat.le_refl _, by omega, rfl, rfl⟩
      case round =>
        obtain ⟨i, m2, hi1, hi2, rfl, rfl⟩ := hrel
        by_cases hid : i ≤ d
        · have hci := unhide hnm i hid
          have hfn := ((unhide HF).2 i hi1 hid).1
          have hfs : ((f i : Int) == (src : Int)) = false := by
            have := (Valid.ne_src (unhide HF) hi1 hid)
            rw [beq_eq_false_iff_ne]; omega
          have q5 : decide ((i : Int) < (T : Int) - (len4 : Int)) = true := by simp; omega
          cases a3
          · have hold : Hid (∀ j, j < i → ((f j : Int) == (f i : Int)) = false) := fun j hj => by
              have := Valid.ne_old (unhide HF) hi1 hid hj
              rw [beq_eq_false_iff_ne]; omega
            go_wp2_with fail
            go_loop [22] (fun jv => ∃ j : Nat, j ≤ i ∧ jv = .int .i64 (j : Int)) (fun jv => i - (intOf jv).toNat)
            case atStart => exact ⟨0, Nat.zero_le _, rfl⟩
            case round =>
              obtain ⟨j, hj, rfl⟩ := hrel
              by_cases hji : j < i
              · have hcj := unhide hnm j (by omega)
                have hne := unhide hold j hji
                go_wp2_with fail
                go_round
                case rel => first | exact ⟨j + 1, by omega, by go_num⟩ | (refine ⟨trivial, ?_⟩; (repeat apply Exists.intro); refine ⟨?_, rfl⟩; exact ⟨j + 1, by omega, by go_num⟩)
                case measure => simp [intOf]; omega
              · go_wp2_with fail
                go_roundw
                case rel => first | exact ⟨i + 1, m2, by omega, by omega, by go_num, rfl⟩ | ((repeat apply Exists.intro); refine ⟨?_, rfl⟩; exact ⟨i + 1, m2, by omega, by omega, by go_num, rfl⟩)
                case measure => simp [intOf]; omega
          · go_wp2_with fail
            go_roundw
            case rel => first | exact ⟨i + 1, m2, by omega, by omega, by go_num, rfl⟩ | ((repeat apply Exists.intro); refine ⟨?_, rfl⟩; exact ⟨i + 1, m2, by omega, by omega, by go_num, rfl⟩)
            case measure => simp [intOf]; omega
        · go_wp2_with fail
          refine (Level_int (w4.drewN m2) b g cap n src a3 L ((unhide HS3).drewN m2) d _ hd (by omega)).mono ?_
          rintro e w5 ⟨rfl, m3, rfl⟩
          go_wp2_with fail
          go_ret
          exact ⟨rfl, below_drewN' _ (unhide BB)⟩

end Go.Proofs.Qxb6003570a
