import Derived.Test.Qxb6003570aRows
import Derived.WalkKit
import Derived.WalkSpells
import Derived.BigQuiet
import Derived.Deep.QuietTactic
import Derived.Test.Qxb6003570aPlain
namespace Go.Proofs.Qxb6003570a
open Go.RowKit
open Pl (fan wid sta Pos)

/-- The layout that 'newShape' builds, as it lies in memory: the struct at the head of block b, the table of starts at the head of block g. -/
structure Shp (w : World) (b g cap n src : Nat) (rep : Bool) (L : Nat) : Prop where
  c0 : w.cell? ⟨b, 0, none⟩ = some (.int .i64 (n : Int))
  c1 : w.cell? ⟨b, 1, none⟩ = some (.int .i64 (src : Int))
  c2 : w.cell? ⟨b, 2, none⟩ = some (.bool rep)
  c3 : w.cell? ⟨b, 3, none⟩ = some (.slice (some ⟨g, 0, none⟩) (L + 1) cap)
  st : ∀ i, i ≤ L → w.cell? ⟨g, i, none⟩ = some (.int .i64 (sta n rep i : Int))
  hn1 : 1 ≤ n
  hn2 : n ≤ 12
  hs : src < n
  hL1 : 1 ≤ L
  hL2 : L ≤ 8
  hp : Pos n rep L

theorem Shp.drewN {w : World} {b g cap n src : Nat} {rep : Bool} {L : Nat} (h : Shp w b g cap n src rep L) (m : Nat) : Shp (w.drewN m) b g cap n src rep L :=
  ⟨by simpa using h.c0, by simpa using h.c1, by simpa using h.c2, by simpa using h.c3, fun i hi => by simpa using h.st i hi, h.hn1, h.hn2, h.hs, h.hL1, h.hL2, h.hp⟩

theorem hide {p : Prop} (h : p) : Hid p := h
theorem unhide {p : Prop} (h : Hid p) : p := h
theorem ret_int {k : IntKind} {a b : Int} (h : a = b) : Ending.returned (.int k a) = .returned (.int k b) := by rw [h]

set_option maxHeartbeats 400000 in
theorem fanout_any (w : World) (b n l : Nat) (rep : Bool) (li : Int) (h0 : w.cell? ⟨b, 0, none⟩ = some (.int .i64 (n : Int))) (h2 : w.cell? ⟨b, 2, none⟩ = some (.bool rep)) (hn : n ≤ 12) (hl : l ≤ 12) (hl1 : 1 ≤ l) (hli : li = (l : Int)) :
    Calls Try.prog 31 #[.pointer (some ⟨b, 0, none⟩), .int .i64 li] w fun e w' => e = .returned (.int .i64 (fan n rep l : Int)) ∧ w' = w := by
  subst hli
  cases rep
  all_goals
    go_enter Try.func31, Try.ntmps31
    go_wp2
    all_goals (go_ret; exact ⟨ret_int (by simp only [fan]; simp; omega), rfl⟩)

set_option maxHeartbeats 400000 in
theorem levels_any (w : World) (b g cap n src : Nat) (rep : Bool) (L : Nat) (h : Shp w b g cap n src rep L) :
    Calls Try.prog 17 #[.pointer (some ⟨b, 0, none⟩)] w fun e w' => e = .returned (.int .i64 (L : Int)) ∧ w' = w := by
  obtain ⟨c0, c1, c2, c3, st, hn1, hn2, hs, hL1, hL2, hp⟩ := h
  clear st hp c0 c1 c2
  go_enter Try.func17, Try.ntmps17
  go_wp2
  go_ret
  exact ⟨ret_int (by omega), rfl⟩

set_option maxHeartbeats 400000 in
theorem len_any (w : World) (b g cap n src : Nat) (rep : Bool) (L : Nat) (h : Shp w b g cap n src rep L) :
    Calls Try.prog 11 #[.pointer (some ⟨b, 0, none⟩)] w fun e w' => e = .returned (.int .i64 (sta n rep L : Int)) ∧ ∃ m, w' = w.drewN m := by
  obtain ⟨c0, c1, c2, c3, st, hn1, hn2, hs, hL1, hL2, hp⟩ := h
  have hst := st L (Nat.le_refl _)
  clear st hp c0 c1 c2
  go_enter Try.func11, Try.ntmps11
  go_wp2
  go_quiet (fail)
  go_wp2
  go_ret
  exact ⟨ret_int (by omega), ⟨_, rfl⟩⟩

set_option maxHeartbeats 400000 in
theorem level_any (w : World) (b g cap n src : Nat) (rep : Bool) (L : Nat) (h : Shp w b g cap n src rep L) (d v : Nat) (hd : d < L) (h1 : sta n rep d ≤ v) (h2 : v < sta n rep (d + 1)) :
    Calls Try.prog 27 #[.pointer (some ⟨b, 0, none⟩), .int .i64 (v : Int)] w fun e w' => e = .returned (.int .i64 ((d : Int) + 1)) ∧ w' = w := by
  obtain ⟨c0, c1, c2, c3, st, hn1, hn2, hs, hL1, hL2, hp⟩ := h
  have hv : v ≤ 429981696 := by have := Pl.sta_bd n rep hn2 (d + 1) (by omega); omega
  clear hp c0 c1 c2
  have ST := hide st
  clear st
  go_enter Try.func27, Try.ntmps27
  go_wp2
  go_loop [5] (fun i => ∃ j : Nat, j ≤ d ∧ i = .int .i64 ((j : Int) + 1)) (fun i => d + 1 - (intOf i).toNat)
  case atStart => exact ⟨0, Nat.zero_le _, rfl⟩
  case round =>
    obtain ⟨j, hj, rfl⟩ := hrel
    have hc := unhide ST (j + 1) (by omega)
    by_cases hlt : j < d
    · have hm : sta n rep (j + 1) ≤ v := Nat.le_trans (Pl.sta_mono n rep (j + 1) d (by omega)) h1
      go_wp2
      go_round
      case rel => exact ⟨j + 1, by omega, by go_num⟩
      case measure => simp [intOf]; omega
    · have hjd : j = d := by omega
      subst hjd
      go_wp2
      go_ret
      exact ⟨rfl, rfl⟩

set_option maxHeartbeats 400000 in
theorem Level_any (w : World) (b g cap n src : Nat) (rep : Bool) (L : Nat) (h : Shp w b g cap n src rep L) (d : Nat) (hd : d < L) :
    Calls Try.prog 18 #[.pointer (some ⟨b, 0, none⟩), .int .i64 ((d : Int) + 1)] w fun e w' => e = .returned (.tuple #[.int .i64 (sta n rep d : Int), .int .i64 (sta n rep (d + 1) : Int)]) ∧ ∃ m, w' = w.drewN m := by
  obtain ⟨c0, c1, c2, c3, st, hn1, hn2, hs, hL1, hL2, hp⟩ := h
  have s1 := st d (by omega)
  have s2 := st (d + 1) (by omega)
  clear hp c0 c1 c2 st
  go_enter Try.func18, Try.ntmps18
  go_wp2
  go_quiet (fail)
  go_wp2
  go_ret2
  exact ⟨rfl, _, rfl⟩

theorem ret_two {k l : IntKind} {a b c d : Int} (h : a = b) (h' : c = d) : Ending.returned (.tuple #[.int k a, .int l c]) = .returned (.tuple #[.int k b, .int l d]) := by rw [h, h']
theorem par_eq {a v s c : Nat} (h : s ≤ v) : (a : Int) + ((v : Int) - (s : Int)) / (c : Int) = ((a + (v - s) / c : Nat) : Int) := by
  rw [Int.natCast_add, Int.natCast_ediv, Int.natCast_sub h]
theorem chi_eq {a v s c : Nat} (h : s ≤ v) : (a : Int) + ((v : Int) - (s : Int)) * (c : Int) = ((a + (v - s) * c : Nat) : Int) := by
  rw [Int.natCast_add, Int.natCast_mul, Int.natCast_sub h]

set_option maxHeartbeats 400000 in
theorem parent_any (w : World) (b g cap n src : Nat) (rep : Bool) (L : Nat) (h : Shp w b g cap n src rep L) (d v : Nat) (hd : d + 1 < L) (h1 : sta n rep (d + 1) ≤ v) (h2 : v < sta n rep (d + 2)) :
    Calls Try.prog 28 #[.pointer (some ⟨b, 0, none⟩), .int .i64 (v : Int)] w fun e w' => e = .returned (.int .i64 ((sta n rep d + (v - sta n rep (d + 1)) / fan n rep (d + 1) : Nat) : Int)) ∧ ∃ m, w' = w.drewN m := by
  have hlev := level_any w b g cap n src rep L h (d + 1) v hd h1 h2
  obtain ⟨c0, c1, c2, c3, st, hn1, hn2, hs, hL1, hL2, hp⟩ := h
  have s1 := st d (by omega)
  have s2 := st (d + 1) (by omega)
  have hv : v ≤ 429981696 := by have := Pl.sta_bd n rep hn2 (d + 2) (by omega); omega
  have hsd : sta n rep d ≤ 429981696 := Pl.sta_bd n rep hn2 d (by omega)
  have hf1 := hp (d + 1) (by omega) (by omega)
  have hf2 := Pl.fan_le n rep (d + 1) (by omega)
  have hq1 : 0 ≤ ((v : Int) - (sta n rep (d + 1) : Int)) / (fan n rep (d + 1) : Int) := Int.ediv_nonneg (by omega) (by omega)
  have hq2 : ((v : Int) - (sta n rep (d + 1) : Int)) / (fan n rep (d + 1) : Int) ≤ 429981696 := Int.le_trans (Int.ediv_le_self _ (by omega)) (by omega)
  have HL := hide hlev
  clear hp c1 st hlev
  go_enter Try.func28, Try.ntmps28
  go_wp2_with (go_at_call 27; refine (unhide HL).mono ?_; rintro e w' ⟨rfl, rfl⟩)
  clear HL
  go_quiet ((go_at_call 31; exact Calls.quiet_of_same (fanout_any _ b n (d + 1) rep _ (by simpa using c0) (by simpa using c2) hn2 (by omega) (by omega) (by omega))))
  go_wp2
  go_ret
  exact ⟨ret_int (par_eq h1), _, rfl⟩

set_option maxHeartbeats 400000 in
/-- The children of a vertex that is no leaf. -/
theorem children_any (w : World) (b g cap n src : Nat) (rep : Bool) (L : Nat) (h : Shp w b g cap n src rep L) (d v : Nat) (hd : d + 1 < L) (h1 : sta n rep d ≤ v) (h2 : v < sta n rep (d + 1)) :
    Calls Try.prog 24 #[.pointer (some ⟨b, 0, none⟩), .int .i64 (v : Int)] w fun e w' =>
      e = .returned (.tuple #[.int .i64 ((sta n rep (d + 1) + (v - sta n rep d) * fan n rep (d + 1) : Nat) : Int), .int .i64 ((sta n rep (d + 1) + (v - sta n rep d) * fan n rep (d + 1) + fan n rep (d + 1) : Nat) : Int)]) ∧ ∃ m, w' = w.drewN m := by
  have hlev := level_any w b g cap n src rep L h d v (by omega) h1 h2
  have hlvs := levels_any w b g cap n src rep L h
  obtain ⟨c0, c1, c2, c3, st, hn1, hn2, hs, hL1, hL2, hp⟩ := h
  have s1 := st d (by omega)
  have s2 := st (d + 1) (by omega)
  have hv : v ≤ 429981696 := by have := Pl.sta_bd n rep hn2 (d + 1) (by omega); omega
  have hsd : sta n rep (d + 1) ≤ 429981696 := Pl.sta_bd n rep hn2 (d + 1) (by omega)
  have hf1 := hp (d + 1) (by omega) (by omega)
  have hf2 := Pl.fan_le n rep (d + 1) (by omega)
  have hq1 : 0 ≤ ((v : Int) - (sta n rep d : Int)) * (fan n rep (d + 1) : Int) := Int.mul_nonneg (by omega) (by omega)
  have hq2 : ((v : Int) - (sta n rep d : Int)) * (fan n rep (d + 1) : Int) ≤ 429981696 * 11 := Int.mul_le_mul (by omega) (by omega) (by omega) (by omega)
  have HL := hide hlev
  have HV := hide hlvs
  clear hp c1 st hlev hlvs
  go_enter Try.func24, Try.ntmps24
  go_wp2_with (first | (go_at_call 27; refine (unhide HL).mono ?_; rintro e w' ⟨rfl, rfl⟩) | (go_at_call 17; refine (unhide HV).mono ?_; rintro e w' ⟨rfl, rfl⟩) | (go_at_call 31; refine (fanout_any _ b n (d + 1) rep _ c0 c2 hn2 (by omega) (by omega) (by omega)).mono ?_; rintro e w' ⟨rfl, rfl⟩))
  clear HL HV
  go_quiet (fail)
  go_wp2
  go_ret2
  exact ⟨ret_two (chi_eq h1) (by rw [chi_eq h1, ← Int.natCast_add]), _, rfl⟩

set_option maxHeartbeats 400000 in
/-- The children of a leaf. -/
theorem children_leaf (w : World) (b g cap n src : Nat) (rep : Bool) (L : Nat) (h : Shp w b g cap n src rep L) (d v : Nat) (hd : d + 1 = L) (h1 : sta n rep d ≤ v) (h2 : v < sta n rep (d + 1)) :
    Calls Try.prog 24 #[.pointer (some ⟨b, 0, none⟩), .int .i64 (v : Int)] w fun e w' =>
      e = .returned (.tuple #[.int .i64 (sta n rep L : Int), .int .i64 (sta n rep L : Int)]) ∧ ∃ m, w' = w.drewN m := by
  have hlev := level_any w b g cap n src rep L h d v (by omega) h1 h2
  have hlvs := levels_any w b g cap n src rep L h
  have hlen := fun m => len_any (w.drewN m) b g cap n src rep L (h.drewN m)
  have hlen0 := len_any w b g cap n src rep L h
  have HL := hide hlev
  have HV := hide hlvs
  have HN := hide hlen
  have HN0 := hide hlen0
  have hdd : ((d : Int) + 1 == (L : Int)) = true := by rw [beq_iff_eq]; omega
  have hv : v ≤ 429981696 := by have := Pl.sta_bd n rep h.hn2 (d + 1) (by have := h.hL2; omega); omega
  have hL := h.hL2
  clear hlev hlvs hlen hlen0 h hd
  go_enter Try.func24, Try.ntmps24
  go_wp2_with (first | (go_at_call 27; refine (unhide HL).mono ?_; rintro e w' ⟨rfl, rfl⟩) | (go_at_call 17; refine (unhide HV).mono ?_; rintro e w' ⟨rfl, rfl⟩))
  refine (unhide HN0).mono ?_
  rintro e w' ⟨rfl, m, rfl⟩
  go_wp2_with fail
  refine (unhide HN m).mono ?_
  rintro e w' ⟨rfl, m', rfl⟩
  go_wp2_with fail
  go_ret2
  exact ⟨rfl, _, rfl⟩

/-- Does q stand among the first m numbers of F? -/
def hasI (F : Nat → Int) : Nat → Int → Bool
  | 0, _ => false
  | m + 1, q => hasI F m q || F m == q

theorem hasI_true (F : Nat → Int) (q : Int) : ∀ m, hasI F m q = true ↔ ∃ i, i < m ∧ F i = q
  | 0 => by simp [hasI]
  | m + 1 => by
    have h := hasI_true F q m
    simp only [hasI, Bool.or_eq_true, beq_iff_eq]
    rw [h]
    constructor
    · rintro (⟨i, h1, h2⟩ | h1)
      · exact ⟨i, by omega, h2⟩
      · exact ⟨m, by omega, h1⟩
    · rintro ⟨i, h1, h2⟩
      by_cases e : i = m
      · subst e; exact Or.inr h2
      · exact Or.inl ⟨i, by omega, h2⟩

set_option maxHeartbeats 400000 in
theorem contains_any (w : World) (pb po m c : Nat) (q : Int) (F : Nat → Int) (hc : ∀ i, i < m → w.cell? ⟨pb, po + i, none⟩ = some (.int .i64 (F i))) (hm : m ≤ 1000000) :
    Calls Try.prog 29 #[.slice (some ⟨pb, po, none⟩) m c, .int .i64 q] w fun e w' => e = .returned (.bool (hasI F m q)) ∧ w' = w := by
  have HC := hide hc
  clear hc
  go_enter Try.func29, Try.ntmps29
  go_wp2
  go_loop [4, 9] (fun r i => ∃ k : Nat, k ≤ m ∧ i = .int .i64 (k : Int) ∧ r = .bool false ∧ hasI F k q = false) (fun _ i => m - (intOf i).toNat)
  case atStart => exact ⟨0, Nat.zero_le _, rfl, rfl, rfl⟩
  case round =>
    obtain ⟨k, hk, rfl, rfl, hno⟩ := hrel
    have HNO := hide hno
    clear hno
    by_cases hlt : k < m
    · have hcell := unhide HC k hlt
      cases hq : F k == q
      · go_wp2
        go_round
        case rel => exact ⟨k + 1, by omega, by go_num, rfl, by simp [hasI, unhide HNO, hq]⟩
        case measure => simp [intOf]; omega
      · go_wp2
        go_ret
        exact ⟨by rw [(hasI_true F q m).2 ⟨k, hlt, by simpa using hq⟩]; rfl, rfl⟩
    · go_wp2
      go_ret
      have e : k = m := by omega
      subst e
      exact ⟨by rw [unhide HNO]; rfl, rfl⟩

end Go.Proofs.Qxb6003570a
