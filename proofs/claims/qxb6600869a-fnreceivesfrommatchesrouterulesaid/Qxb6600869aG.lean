import Derived.Test.Qxb6600869aF
namespace Go.Proofs.Qxb6600869a
open Go.RowKit
set_option linter.unusedVariables false
set_option linter.unusedSimpArgs false
open Pl (Perm swp wl sel)

set_option maxRecDepth 100000 in
set_option maxHeartbeats 4000000 in
theorem appendOn_any (w : World) (base gb ab n : Nat) (A : Nat → Nat) (da : Option Addr) (dc : Nat) (D : List Int) (st sp : Nat) (en v : Int) (ma : Option Addr) (lm mc : Nat) (M : Nat → Int)
    (hown : w.ownsRow base 3 1 (.slice da D.length dc) D.length (ints D)) (hbase : base ≤ w.heap.size)
    (hG : ∀ W', w.grownBy W' (Value.slice da D.length dc).ownBlock → W'.cell? ⟨gb, 1, none⟩ = some (.slice (some ⟨ab, 0, none⟩) n n) ∧ ∀ p, p < n → W'.cell? ⟨ab, p, none⟩ = some (.int .i64 (A p : Int)))
    (hM : ∀ W', w.grownBy W' (Value.slice da D.length dc).ownBlock → ArgAt W' ma lm M)
    (hn : n ≤ 32768) (hen : en ≤ (n : Int)) (hen2 : -9223372036854775808 ≤ en) (hs1 : 1 ≤ sp) (hs2 : sp ≤ 65536) (hlm : lm ≤ 70000) (hdl : D.length ≤ 70000) (hst : st ≤ 9223372036854775807) :
    Calls Try.prog 23 #[.pointer (some ⟨gb, 0, none⟩), .slice da D.length dc, .agg #[.int .i64 (st : Int), .int .i64 en, .int .i64 (sp : Int)], .int .i64 v, .slice ma lm mc] w fun e w' =>
      OnEnd w base (Value.slice da D.length dc).ownBlock D e w' n st sp en v A M lm := by
  obtain ⟨i0, hi0, hz0, hz1, hz2⟩ := info_parts Try.info3
  have hrow := hide (fun k hk => (hown.lt k hk).2)
  have HO := hide hown
  have HG := hide hG
  have HM := hide hM
  have HST := hide (OnRel.start (st := st) (sp := sp) (en := en) (v := v) (A := A) (M := M) (lm := lm) hown)
  clear hown hG hM
  go_enter Try.func23, Try.ntmps23
  go_wp2_with fail
  go_loopw [1, 11, 12] (fun dv pv s12 wr => ∃ q : Nat, pv = .int .i64 (q : Int) ∧ q ≤ 9223372036854775807 ∧ OnRel w wr base (Value.slice da D.length dc).ownBlock D st sp en v A M lm dv q) (fun _ pv _ _ => (en - intOf pv).toNat)
  case atStart => exact ⟨st, rfl, hst, unhide HST⟩
  case round =>
    obtain ⟨q, rfl, hq, hrel⟩ := hrel
    have HR := hide hrel
    have hc1 := hrel.c1
    have hc2 := hrel.c2
    have hlw : w.heap.size < wr.heap.size := World.block_lt_of_cell? wr _ hrel.c0
    obtain ⟨hg1, hga⟩ := unhide HG wr hrel.grow
    have HAc := hide hga
    have HMr := hide (unhide HM wr hrel.grow)
    have hll : (D ++ wl st sp en (okB v M lm) A q).length ≤ 70000 + q := by
      have := Pl.wl_len (st := st) (sp := sp) (en := en) (ok := okB v M lm) (A := A) q
      rw [List.length_append]; omega
    clear hrel hga
    by_cases hqe : (q : Int) < en
    · have hqn : q < n := by omega
      have hca := unhide HAc q hqn
      cases hne : ((A q : Int) != v)
      · have hok : Hid (okB v M lm (A q) = false) := by show _ = _; simp [okB, hne]
        have hnx := hide ((unhide HR).skip hqe hs1 (unhide hok))
        go_wp2_with fail
        go_roundw
        case rel => first | exact ⟨q + sp, by go_num, by omega, unhide hnx⟩ | ((repeat apply Exists.intro); refine ⟨?_, rfl⟩; exact ⟨q + sp, by go_num, by omega, unhide hnx⟩)
        case measure => simp [intOf]; omega
      · cases hh : hasI M lm (A q)
        · have hok : Hid (okB v M lm (A q) = true) := by show _ = _; simp [okB, hne, hh]
          have hcon := hide (fun c => contains_any wr ma lm c (A q : Int) M (unhide HMr) (by omega))
          rw [hh] at hcon
          clear hh
          go_wp2_with (first
            | (go_at_call 21; refine (unhide hcon _).mono ?_; rintro e w' ⟨rfl, rfl⟩)
            | (at_builtin; refine wpList_append_own_at _ rfl (.tmp 39) (.tmp 41) 22 rfl base 3 i0 (.int .i64 0) 1 8 Try.underlying22 hi0 hz0 hz1 hz2 rfl (by decide) _ _ _ rfl ((unhide HR).own.alloc _) ⟨w'.heap.size, 0, none⟩ 1 1 [.int .i64 (A q : Int)] rfl rfl (cell_one_new _ _ _) (by simp [Value.oneCell']) (by unfold maxLen; omega) (by omega) (by simp; omega) ?_; intro V' w1 own1 grow1 _ hat1; have hnx := hide ((unhide HR).next hqe hs1 (unhide hok) (unhide hrow) own1 grow1 hat1); have hc2' := (unhide hnx).c2; clear own1 grow1 hat1))
          go_roundw
          case rel => first | exact ⟨q + sp, by go_num, by omega, unhide hnx⟩ | ((repeat apply Exists.intro); refine ⟨?_, rfl⟩; exact ⟨q + sp, by go_num, by omega, unhide hnx⟩)
          case measure => simp [intOf]; omega
        · have hok : Hid (okB v M lm (A q) = false) := by show _ = _; simp [okB, hne, hh]
          have hnx := hide ((unhide HR).skip hqe hs1 (unhide hok))
          have hcon := hide (fun c => contains_any wr ma lm c (A q : Int) M (unhide HMr) (by omega))
          rw [hh] at hcon
          clear hh
          go_wp2_with (go_at_call 21; refine (unhide hcon _).mono ?_; rintro e w' ⟨rfl, rfl⟩)
          go_roundw
          case rel => first | exact ⟨q + sp, by go_num, by omega, unhide hnx⟩ | ((repeat apply Exists.intro); refine ⟨?_, rfl⟩; exact ⟨q + sp, by go_num, by omega, unhide hnx⟩)
          case measure => simp [intOf]; omega
    · have hfin := hide ((unhide HR).fin (n := n) (by omega) hen)
      go_wp2_with fail
      go_ret
      exact unhide hfin

set_option maxHeartbeats 1000000 in
theorem zzAppendOn_any (w : World) (base gb ab n : Nat) (A : Nat → Nat) (da : Option Addr) (dc : Nat) (D : List Int) (st sp : Nat) (en v : Int) (ma : Option Addr) (lm mc : Nat) (M : Nat → Int)
    (hown : w.ownsRow base 3 1 (.slice da D.length dc) D.length (ints D)) (hbase : base ≤ w.heap.size)
    (hG : ∀ W', w.grownBy W' (Value.slice da D.length dc).ownBlock → W'.cell? ⟨gb, 1, none⟩ = some (.slice (some ⟨ab, 0, none⟩) n n) ∧ ∀ p, p < n → W'.cell? ⟨ab, p, none⟩ = some (.int .i64 (A p : Int)))
    (hM : ∀ W', w.grownBy W' (Value.slice da D.length dc).ownBlock → ArgAt W' ma lm M)
    (hn : n ≤ 32768) (hen : en ≤ (n : Int)) (hen2 : -9223372036854775808 ≤ en) (hs1 : 1 ≤ sp) (hs2 : sp ≤ 65536) (hlm : lm ≤ 70000) (hdl : D.length ≤ 70000) (hst : st ≤ 9223372036854775807) :
    Calls Try.prog 16 #[.pointer (some ⟨gb, 0, none⟩), .slice da D.length dc, .int .i64 (st : Int), .int .i64 en, .int .i64 (sp : Int), .int .i64 v, .slice ma lm mc] w fun e w' =>
      OnEnd w base (Value.slice da D.length dc).ownBlock D e w' n st sp en v A M lm := by
  have HA := hide (appendOn_any w base gb ab n A da dc D st sp en v ma lm mc M hown hbase hG hM hn hen hen2 hs1 hs2 hlm hdl hst)
  clear hown hG hM
  go_enter Try.func16, Try.ntmps16
  go_wp2_with fail
  refine (unhide HA).mono ?_
  rintro e w' ⟨V, rfl, h2⟩
  have HE := hide h2
  clear h2 HA
  go_wp2_with fail
  go_ret
  exact ⟨V, rfl, unhide HE⟩

end Go.Proofs.Qxb6600869a
