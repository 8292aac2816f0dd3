import Derived.Test.Qxb6600869aB
namespace Go.Proofs.Qxb6600869a
open Go.RowKit
set_option linter.unusedVariables false
set_option linter.unusedSimpArgs false
open Pl (Perm swp)

theorem tmod_gt (x : Int) (n : Nat) (hn : 0 < n) : -(n : Int) < x.tmod (n : Int) := by
  have h := Int.tmod_lt_of_pos (-x) (show (0 : Int) < (n : Int) by omega)
  rw [Int.neg_tmod] at h
  omega

set_option maxRecDepth 100000 in
set_option maxHeartbeats 8000000 in
theorem layout_any (w : World) (n : Nat) (a : Option Addr) (len cap : Nat) (F : Nat → Int) (h : ArgAt w a len F) (hl : len ≤ 70000) (hn : n ≤ 32768) :
    Calls Try.prog 19 #[.int .i64 (n : Int), .slice a len cap] w fun e w' => BuildEnd w n e w' := by
  obtain ⟨i0, hi0, hz0, hz1, hz2⟩ := info_parts Try.info3
  obtain ⟨i1, hi1, hz10, hz11, hz12⟩ := info_parts Try.info21
  have HA := hide h
  clear h
  go_enter Try.func19, Try.ntmps19
  go_wp2_with (at_make; refine wpList_make_full _ rfl (.tmp 21) (.tmp 21) 22 rfl w.heap.size 3 i0 (.int .i64 0) 1 Try.underlying22 hi0 hz0 hz1 .i64 .i64 _ _ n rfl rfl rfl rfl (by rw [hz2]; omega) (by unfold maxLen; omega) (Nat.le_refl _) ?_; intro w1 own1 grow1; have HC := hide (Lay1.start own1 grow1); clear own1 grow1)
  go_loopw [10] (fun kv wr => ∃ k : Nat, kv = .int .i64 (k : Int) ∧ Lay1 w wr w.heap.size n k) (fun kv _ => n - (intOf kv).toNat)
  case atStart => exact ⟨0, rfl, unhide HC⟩
  case round =>
    obtain ⟨k, rfl, hrel⟩ := hrel
    have HR := hide hrel
    have hk := hrel.1
    clear hrel
    by_cases hkn : k < n
    · obtain ⟨⟨x, hx⟩, hfx⟩ := (unhide HR).slot hkn
      go_wp2_with fail
      go_roundw
      case rel => first | exact ⟨k + 1, by go_num, (unhide HR).next hkn⟩ | ((repeat apply Exists.intro); refine ⟨?_, rfl⟩; exact ⟨k + 1, by go_num, (unhide HR).next hkn⟩)
      case measure => simp [intOf]; omega
    · obtain rfl : n = k := by omega
      have H2 := hide (unhide HR).fin
      clear HR HC hk hkn
      by_cases hn0 : 0 < n
      · have hnd : decide (0 < n) = true := by simp; omega
        have hnd2 : decide ((0 : Int) < (n : Int)) = true := by simp; omega
        go_wp2_with fail
        clear hnd hnd2
        go_loopw [11, 12, 13, 14] (fun iv s12 s13 s14 wr => ∃ k : Nat, iv = .int .i64 (k : Int) ∧ k ≤ len ∧ Lay2 w wr w.heap.size n) (fun iv _ _ _ _ => len - (intOf iv).toNat)
        case atStart => exact ⟨0, rfl, Nat.zero_le _, unhide H2⟩
        case round =>
          obtain ⟨k, rfl, hk, hrel⟩ := hrel
          have H3 := hide hrel
          by_cases hkl : k < len
          · obtain ⟨sb, off, e, hsc⟩ := (unhide HA).2.1 (by omega)
            subst e
            have hck := hsc k hkl
            have hwf := (unhide HA).2.2 k hkl
            have hcr : wr.cell? ⟨sb, off + k, none⟩ = some (.int .i64 (F k)) := (hrel.1.cell (p := ⟨sb, off + k, none⟩) (World.block_lt_of_cell? w _ hck)).trans hck
            obtain ⟨hB2, h3, h4, A, B, hp, hc⟩ := hrel
            obtain ⟨a1, ha1⟩ : ∃ a1 : Nat, (k : Int) % (n : Int) = (a1 : Int) := ⟨k % n, (Int.natCast_emod k n).symm⟩
            have ha2 : a1 < n := by
              have := Int.emod_lt_of_pos (k : Int) (show (0 : Int) < (n : Int) by omega)
              omega
            have ht1 := Int.tmod_lt_of_pos (F k) (show (0 : Int) < (n : Int) by omega)
            have ht2 : -(n : Int) < (F k).tmod (n : Int) := tmod_gt (F k) n hn0
            have HB2 := hide hB2
            have HP := hide hp
            have HCe := hide hc
            clear hsc hck hB2 hp hc
            by_cases hneg : (F k).tmod (n : Int) < 0
            · obtain ⟨e1, he1⟩ : ∃ e1 : Int, (F k).tmod (n : Int) = e1 := ⟨_, rfl⟩
              rw [he1] at hneg ht1 ht2
              obtain ⟨b1, hb1⟩ := Int.eq_ofNat_of_zero_le (show 0 ≤ e1 + (n : Int) by omega)
              have hb2 : b1 < n := by omega
              have c1 := (unhide HCe a1 ha2).1
              have f1 := (unhide HCe a1 ha2).2
              have c2 := (unhide HCe b1 hb2).1
              have f2 := (unhide HCe b1 hb2).2
              have c3 := ((unhide HCe).set a1 (A b1 : Int) b1 hb2).1
              dsimp only at c1 c2
              have hnx := hide (Lay2.next (unhide HB2) h3 h4 (unhide HP) (unhide HCe) ha2 hb2)
              obtain ⟨y3, hy3⟩ : ∃ y3, (wr.setCell ⟨w.heap.size, a1, none⟩ (.int .i64 (A b1 : Int))).cell? ⟨w.heap.size, b1, none⟩ = some (.int .i64 y3) := ⟨_, c3⟩
              clear c3 HP HCe HB2
              go_wp2_with fail
              go_roundw
              case rel => first | exact ⟨k + 1, by go_num, by omega, unhide hnx⟩ | ((repeat apply Exists.intro); refine ⟨?_, rfl⟩; exact ⟨k + 1, by go_num, by omega, unhide hnx⟩)
              case measure => simp [intOf]; omega
            · obtain ⟨b1, hb1⟩ := Int.eq_ofNat_of_zero_le (show 0 ≤ (F k).tmod (n : Int) by omega)
              have hb2 : b1 < n := by omega
              have c1 := (unhide HCe a1 ha2).1
              have f1 := (unhide HCe a1 ha2).2
              have c2 := (unhide HCe b1 hb2).1
              have f2 := (unhide HCe b1 hb2).2
              have c3 := ((unhide HCe).set a1 (A b1 : Int) b1 hb2).1
              dsimp only at c1 c2
              have hnx := hide (Lay2.next (unhide HB2) h3 h4 (unhide HP) (unhide HCe) ha2 hb2)
              obtain ⟨y3, hy3⟩ : ∃ y3, (wr.setCell ⟨w.heap.size, a1, none⟩ (.int .i64 (A b1 : Int))).cell? ⟨w.heap.size, b1, none⟩ = some (.int .i64 y3) := ⟨_, c3⟩
              clear c3 HP HCe HB2 ht1 ht2 hneg
              go_wp2_with fail
              go_roundw
              case rel => first | exact ⟨k + 1, by go_num, by omega, unhide hnx⟩ | ((repeat apply Exists.intro); refine ⟨?_, rfl⟩; exact ⟨k + 1, by go_num, by omega, unhide hnx⟩)
              case measure => simp [intOf]; omega
          · clear H2 hrel
            have H2 := H3
            clear H3
            have hkd : decide ((k : Int) < (len : Int)) = false := by simp; omega
            go_wp2_with fail
            obtain ⟨hB2, h3, h4, A, B, hp, hc⟩ := unhide H2
            have HB2 := hide hB2
            have hbs : w.heap.size ≤ wr.heap.size := hB2.size
            have HP := hide hp
            have HCe := hide hc
            clear hB2 hp hc H2
            go_loop [15] (fun wv => ∃ d : Nat, wv = .int .i64 (d : Int) ∧ d * d ≤ n) (fun wv => n + 1 - (intOf wv).toNat)
            case atStart => exact ⟨0, rfl, Nat.zero_le _⟩
            case round =>
              obtain ⟨d, rfl, hdd⟩ := hrel
              have hdn : d ≤ n := Nat.le_trans (Nat.le_mul_self d) hdd
              have HDD := hide hdd
              have hmul : Hid (((d : Int) + 1) * ((d : Int) + 1) = (((d + 1) * (d + 1) : Nat) : Int)) := by show _ = _; rw [Int.natCast_mul]; rfl
              have hexp : (d + 1) * (d + 1) = d * d + 2 * d + 1 := by rw [Nat.add_mul, Nat.mul_add]; omega
              have hb1 : ((d : Int) + 1) * ((d : Int) + 1) ≤ 100000 := by rw [unhide hmul]; omega
              have hb2 : 0 ≤ ((d : Int) + 1) * ((d : Int) + 1) := by rw [unhide hmul]; omega
              by_cases hlt : (d + 1) * (d + 1) ≤ n
              · have hlt' : ((d : Int) + 1) * ((d : Int) + 1) ≤ (n : Int) := by rw [unhide hmul]; omega
                have HN := hide hlt
                clear hexp hlt hdd
                go_wp2_with fail
                go_round
                case rel => first | exact ⟨d + 1, by go_num, unhide HN⟩ | (refine ⟨trivial, ?_⟩; (repeat apply Exists.intro); refine ⟨?_, rfl⟩; exact ⟨d + 1, by go_num, unhide HN⟩)
                case measure => simp [intOf]; omega
              · have hlt' : decide (((d : Int) + 1) * ((d : Int) + 1) ≤ (n : Int)) = false := decide_eq_false (by rw [unhide hmul]; omega)
                have HW : Hid (0 < n → 1 ≤ d) := fun h0 => by
                  rcases Nat.eq_zero_or_pos d with e | e
                  · subst e; omega
                  · exact e
                clear hexp hlt hdd
                go_wp2_with (at_make; refine wpList_make_full _ rfl (.tmp 78) (.tmp 78) 22 rfl w.heap.size 3 i0 (.int .i64 0) 1 Try.underlying22 hi0 hz0 hz1 .i64 .i64 _ _ n rfl rfl rfl rfl (by rw [hz2]; omega) (by unfold maxLen; omega) hbs ?_; intro w4 own4 grow4; have H4 := hide (Lay4.start (B := B) (unhide HB2) h3 h4 (unhide HCe) own4 grow4); clear own4 grow4)
                clear hlt' HB2 HCe hbs hb1 hb2
                generalize wr.heap.size = pb at *
                go_loopw [17] (fun kv wx => ∃ k : Nat, kv = .int .i64 (k : Int) ∧ Lay4 w wx w.heap.size pb n A B k) (fun kv _ => n - (intOf kv).toNat)
                case atStart => exact ⟨0, rfl, unhide H4⟩
                case round =>
                  obtain ⟨k, rfl, hrel⟩ := hrel
                  have HR := hide hrel
                  have hk := hrel.1
                  clear hrel
                  by_cases hkn : k < n
                  · obtain ⟨hs1, ⟨x, hs2⟩, hs3⟩ := (unhide HR).slots (unhide HP) hkn
                    have hak := (unhide HP).a k hkn
                    go_wp2_with fail
                    go_roundw
                    case rel => first | exact ⟨k + 1, by go_num, (unhide HR).next (unhide HP) hkn⟩ | ((repeat apply Exists.intro); refine ⟨?_, rfl⟩; exact ⟨k + 1, by go_num, (unhide HR).next (unhide HP) hkn⟩)
                    case measure => simp [intOf]; omega
                  · have ek : n = k := by omega
                    have HR2 := hide (show Lay4 w wr w.heap.size pb n A B n by have h := unhide HR; rw [← ek] at h; exact h)
                    clear HR
                    have hkd : decide ((k : Int) < (n : Int)) = false := by simp; omega
                    obtain ⟨g1, g2, g3, g4, g5, g6⟩ := (unhide HR2).fin (unhide HP)
                    have hbs5 : w.heap.size ≤ wr.heap.size := g1.size
                    have HG : Hid (Below w.heap.size w wr ∧ Cells wr w.heap.size n .i64 (fun i => (A i : Int)) ∧ Cells wr pb n .i64 (fun x => (B x : Int))) := ⟨g1, g5, g6⟩
                    clear ek g1 g5 g6 HR2 H4
                    go_wp2_with (first
                      | (at_make; refine wpList_make_full _ rfl (.tmp 92) (.tmp 92) 27 rfl w.heap.size 21 i1 (.int .i32 0) 1 Try.underlying27 hi1 hz10 hz11 .i64 .i64 _ _ n rfl rfl rfl rfl (by rw [hz12]; omega) (by unfold maxLen; omega) hbs5 ?_; intro w5 own5 grow5; have hbs6 : w.heap.size ≤ w5.heap.size := Nat.le_trans hbs5 grow5.size; have O5 := hide own5; have G5 := hide grow5; clear own5 grow5)
                      | (at_make; refine wpList_make_full _ rfl (.tmp 94) (.tmp 94) 27 rfl w.heap.size 21 i1 (.int .i32 0) 1 Try.underlying27 hi1 hz10 hz11 .i64 .i64 _ _ n rfl rfl rfl rfl (by rw [hz12]; omega) (by unfold maxLen; omega) hbs6 ?_; intro w6 own6 grow6; have H5 := hide (Lay5.start (wd := d) (unhide HG).1 g2 g3 g4 (unhide HG).2.1 (unhide HG).2.2 (unhide O5) (unhide G5) own6 grow6); clear own6 grow6))
                    clear O5 G5 HG hbs5 hbs6 g4
                    generalize wr.heap.size = rb at *
                    generalize w5.heap.size = cb at *
                    go_loopw [20] (fun kv wx => ∃ k : Nat, kv = .int .i64 (k : Int) ∧ Lay5 w wx w.heap.size pb rb cb n d A B k) (fun kv _ => n - (intOf kv).toNat)
                    case atStart => exact ⟨0, rfl, unhide H5⟩
                    case round =>
                      obtain ⟨x, rfl, hrel⟩ := hrel
                      have HX := hide hrel
                      have hxn0 := hrel.1
                      clear hrel
                      by_cases hxn : x < n
                      · obtain ⟨t1, ⟨y1, t2⟩, t3, ⟨y2, t4⟩, t5, t6, t7⟩ := (unhide HX).slots hxn
                        have hw1 := unhide HW (by omega)
                        have hbx := (unhide HP).b x hxn
                        have hq1 : 0 ≤ (B x : Int) / (d : Int) := Int.ediv_nonneg (by omega) (by omega)
                        have hq2 : (B x : Int) / (d : Int) ≤ 32768 := Int.le_trans (Int.ediv_le_self _ (by omega)) (by omega)
                        have hr1 : 0 ≤ (B x : Int) % (d : Int) := Int.emod_nonneg _ (by omega)
                        have hr2 : (B x : Int) % (d : Int) < (d : Int) := Int.emod_lt_of_pos _ (by omega)
                        go_wp2_with fail
                        go_roundw
                        case rel => first | exact ⟨x + 1, by go_num, (unhide HX).next hxn (Int.natCast_ediv _ _).symm (Int.natCast_emod _ _).symm⟩ | ((repeat apply Exists.intro); refine ⟨?_, rfl⟩; exact ⟨x + 1, by go_num, (unhide HX).next hxn (Int.natCast_ediv _ _).symm (Int.natCast_emod _ _).symm⟩)
                        case measure => simp [intOf]; omega
                      · have ex : n = x := by omega
                        have HX2 := hide (show Lay5 w wr w.heap.size pb rb cb n d A B n by have h := unhide HX; rw [← ex] at h; exact h)
                        have hxd : decide ((x : Int) < (n : Int)) = false := by simp; omega
                        have hfin : Hid (BuildEnd w n (.returned (.tuple #[.slice (some ⟨w.heap.size, 0, none⟩) n n, .slice (some ⟨pb, 0, none⟩) n n, .slice (some ⟨rb, 0, none⟩) n n, .slice (some ⟨cb, 0, none⟩) n n, .int .i64 (d : Int)])) wr) := ⟨_, pb, rb, cb, d, A, B, rfl, ((unhide HX2).fin (unhide HP) (unhide HW) (unhide HDD)).1, ((unhide HX2).fin (unhide HP) (unhide HW) (unhide HDD)).2, Nat.le_refl _⟩
                        clear ex HX HX2
                        go_wp2_with fail
                        exact bodyPost_ret (v := .tuple #[.slice (some ⟨w.heap.size, 0, none⟩) n n, .slice (some ⟨pb, 0, none⟩) n n, .slice (some ⟨rb, 0, none⟩) n n, .slice (some ⟨cb, 0, none⟩) n n, .int .i64 (d : Int)]) (by simp [results, Try.results19, go_sem]) rfl (unhide hfin)
      · have hnd : decide (0 < n) = false := by simp; omega
        have hnd2 : decide ((0 : Int) < (n : Int)) = false := by simp; omega
        go_wp2_with fail
        clear hn0 hnd hnd2
        obtain ⟨hB2, h3, h4, A, B, hp, hc⟩ := unhide H2
        have HB2 := hide hB2
        have hbs : w.heap.size ≤ wr.heap.size := hB2.size
        have HP := hide hp
        have HCe := hide hc
        clear hB2 hp hc H2
        go_loop [15] (fun wv => ∃ d : Nat, wv = .int .i64 (d : Int) ∧ d * d ≤ n) (fun wv => n + 1 - (intOf wv).toNat)
        case atStart => exact ⟨0, rfl, Nat.zero_le _⟩
        case round =>
          obtain ⟨d, rfl, hdd⟩ := hrel
          have hdn : d ≤ n := Nat.le_trans (Nat.le_mul_self d) hdd
          have HDD := hide hdd
          have hmul : Hid (((d : Int) + 1) * ((d : Int) + 1) = (((d + 1) * (d + 1) : Nat) : Int)) := by show _ = _; rw [Int.natCast_mul]; rfl
          have hexp : (d + 1) * (d + 1) = d * d + 2 * d + 1 := by rw [Nat.add_mul, Nat.mul_add]; omega
          have hb1 : ((d : Int) + 1) * ((d : Int) + 1) ≤ 100000 := by rw [unhide hmul]; omega
          have hb2 : 0 ≤ ((d : Int) + 1) * ((d : Int) + 1) := by rw [unhide hmul]; omega
          by_cases hlt : (d + 1) * (d + 1) ≤ n
          · have hlt' : ((d : Int) + 1) * ((d : Int) + 1) ≤ (n : Int) := by rw [unhide hmul]; omega
            have HN := hide hlt
            clear hexp hlt hdd
            go_wp2_with fail
            go_round
            case rel => first | exact ⟨d + 1, by go_num, unhide HN⟩ | (refine ⟨trivial, ?_⟩; (repeat apply Exists.intro); refine ⟨?_, rfl⟩; exact ⟨d + 1, by go_num, unhide HN⟩)
            case measure => simp [intOf]; omega
          · have hlt' : decide (((d : Int) + 1) * ((d : Int) + 1) ≤ (n : Int)) = false := decide_eq_false (by rw [unhide hmul]; omega)
            have HW : Hid (0 < n → 1 ≤ d) := fun h0 => by
              rcases Nat.eq_zero_or_pos d with e | e
              · subst e; omega
              · exact e
            clear hexp hlt hdd
            go_wp2_with (at_make; refine wpList_make_full _ rfl (.tmp 78) (.tmp 78) 22 rfl w.heap.size 3 i0 (.int .i64 0) 1 Try.underlying22 hi0 hz0 hz1 .i64 .i64 _ _ n rfl rfl rfl rfl (by rw [hz2]; omega) (by unfold maxLen; omega) hbs ?_; intro w4 own4 grow4; have H4 := hide (Lay4.start (B := B) (unhide HB2) h3 h4 (unhide HCe) own4 grow4); clear own4 grow4)
            clear hlt' HB2 HCe hbs hb1 hb2
            generalize wr.heap.size = pb at *
            go_loopw [17] (fun kv wx => ∃ k : Nat, kv = .int .i64 (k : Int) ∧ Lay4 w wx w.heap.size pb n A B k) (fun kv _ => n - (intOf kv).toNat)
            case atStart => exact ⟨0, rfl, unhide H4⟩
            case round =>
              obtain ⟨k, rfl, hrel⟩ := hrel
              have HR := hide hrel
              have hk := hrel.1
              clear hrel
              by_cases hkn : k < n
              · obtain ⟨hs1, ⟨x, hs2⟩, hs3⟩ := (unhide HR).slots (unhide HP) hkn
                have hak := (unhide HP).a k hkn
                go_wp2_with fail
                go_roundw
                case rel => first | exact ⟨k + 1, by go_num, (unhide HR).next (unhide HP) hkn⟩ | ((repeat apply Exists.intro); refine ⟨?_, rfl⟩; exact ⟨k + 1, by go_num, (unhide HR).next (unhide HP) hkn⟩)
                case measure => simp [intOf]; omega
              · have ek : n = k := by omega
                have HR2 := hide (show Lay4 w wr w.heap.size pb n A B n by have h := unhide HR; rw [← ek] at h; exact h)
                clear HR
                have hkd : decide ((k : Int) < (n : Int)) = false := by simp; omega
                obtain ⟨g1, g2, g3, g4, g5, g6⟩ := (unhide HR2).fin (unhide HP)
                have hbs5 : w.heap.size ≤ wr.heap.size := g1.size
                have HG : Hid (Below w.heap.size w wr ∧ Cells wr w.heap.size n .i64 (fun i => (A i : Int)) ∧ Cells wr pb n .i64 (fun x => (B x : Int))) := ⟨g1, g5, g6⟩
                clear ek g1 g5 g6 HR2 H4
                go_wp2_with (first
                  | (at_make; refine wpList_make_full _ rfl (.tmp 92) (.tmp 92) 27 rfl w.heap.size 21 i1 (.int .i32 0) 1 Try.underlying27 hi1 hz10 hz11 .i64 .i64 _ _ n rfl rfl rfl rfl (by rw [hz12]; omega) (by unfold maxLen; omega) hbs5 ?_; intro w5 own5 grow5; have hbs6 : w.heap.size ≤ w5.heap.size := Nat.le_trans hbs5 grow5.size; have O5 := hide own5; have G5 := hide grow5; clear own5 grow5)
                  | (at_make; refine wpList_make_full _ rfl (.tmp 94) (.tmp 94) 27 rfl w.heap.size 21 i1 (.int .i32 0) 1 Try.underlying27 hi1 hz10 hz11 .i64 .i64 _ _ n rfl rfl rfl rfl (by rw [hz12]; omega) (by unfold maxLen; omega) hbs6 ?_; intro w6 own6 grow6; have H5 := hide (Lay5.start (wd := d) (unhide HG).1 g2 g3 g4 (unhide HG).2.1 (unhide HG).2.2 (unhide O5) (unhide G5) own6 grow6); clear own6 grow6))
                clear O5 G5 HG hbs5 hbs6 g4
                generalize wr.heap.size = rb at *
                generalize w5.heap.size = cb at *
                go_loopw [20] (fun kv wx => ∃ k : Nat, kv = .int .i64 (k : Int) ∧ Lay5 w wx w.heap.size pb rb cb n d A B k) (fun kv _ => n - (intOf kv).toNat)
                case atStart => exact ⟨0, rfl, unhide H5⟩
                case round =>
                  obtain ⟨x, rfl, hrel⟩ := hrel
                  have HX := hide hrel
                  have hxn0 := hrel.1
                  clear hrel
                  by_cases hxn : x < n
                  · obtain ⟨t1, ⟨y1, t2⟩, t3, ⟨y2, t4⟩, t5, t6, t7⟩ := (unhide HX).slots hxn
                    have hw1 := unhide HW (by omega)
                    have hbx := (unhide HP).b x hxn
                    have hq1 : 0 ≤ (B x : Int) / (d : Int) := Int.ediv_nonneg (by omega) (by omega)
                    have hq2 : (B x : Int) / (d : Int) ≤ 32768 := Int.le_trans (Int.ediv_le_self _ (by omega)) (by omega)
                    have hr1 : 0 ≤ (B x : Int) % (d : Int) := Int.emod_nonneg _ (by omega)
                    have hr2 : (B x : Int) % (d : Int) < (d : Int) := Int.emod_lt_of_pos _ (by omega)
                    go_wp2_with fail
                    go_roundw
                    case rel => first | exact ⟨x + 1, by go_num, (unhide HX).next hxn (Int.natCast_ediv _ _).symm (Int.natCast_emod _ _).symm⟩ | ((repeat apply Exists.intro); refine ⟨?_, rfl⟩; exact ⟨x + 1, by go_num, (unhide HX).next hxn (Int.natCast_ediv _ _).symm (Int.natCast_emod _ _).symm⟩)
                    case measure => simp [intOf]; omega
                  · have ex : n = x := by omega
                    have HX2 := hide (show Lay5 w wr w.heap.size pb rb cb n d A B n by have h := unhide HX; rw [← ex] at h; exact h)
                    have hxd : decide ((x : Int) < (n : Int)) = false := by simp; omega
                    have hfin : Hid (BuildEnd w n (.returned (.tuple #[.slice (some ⟨w.heap.size, 0, none⟩) n n, .slice (some ⟨pb, 0, none⟩) n n, .slice (some ⟨rb, 0, none⟩) n n, .slice (some ⟨cb, 0, none⟩) n n, .int .i64 (d : Int)])) wr) := ⟨_, pb, rb, cb, d, A, B, rfl, ((unhide HX2).fin (unhide HP) (unhide HW) (unhide HDD)).1, ((unhide HX2).fin (unhide HP) (unhide HW) (unhide HDD)).2, Nat.le_refl _⟩
                    clear ex HX HX2
                    go_wp2_with fail
                    exact bodyPost_ret (v := .tuple #[.slice (some ⟨w.heap.size, 0, none⟩) n n, .slice (some ⟨pb, 0, none⟩) n n, .slice (some ⟨rb, 0, none⟩) n n, .slice (some ⟨cb, 0, none⟩) n n, .int .i64 (d : Int)]) (by simp [results, Try.results19, go_sem]) rfl (unhide hfin)

end Go.Proofs.Qxb6600869a
