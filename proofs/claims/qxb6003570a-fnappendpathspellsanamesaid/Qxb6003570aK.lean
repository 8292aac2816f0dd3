import Derived.Test.Qxb6003570aI
namespace Go.Proofs.Qxb6003570a
open Go.RowKit
set_option linter.unusedVariables false
set_option linter.unusedSimpArgs false

/-- 'make([]T, n, c)': n zero elements are owned, room for c. -/
theorem wpList_make_part {P : Program} (w : World) {ops : Array Oper} {rest : List Oper} {o : Oper} {a : Act} {Q : Exit → Act → World → Prop}
    (hg : o.guard = none) (l c : Operand) (t : TypeId) (hop : o.op = Op.makeSlice t l c)
    (e : TypeId) (i : TypeInfo) (z : Value) (h1 : P.underlying t = some (.slice e)) (h2 : P.info? e = some i) (h3 : i.zero = some z) (h4 : i.size = 1) (hzs : z.cells = #[z])
    (kl kc : IntKind) (L C : Int) (n m : Nat) (hl : a.eval l = .int kl L) (hc : a.eval c = .int kc C) (hL : L = (n : Int)) (hC : C = (m : Int)) (hnm : n ≤ m) (b2 : i.bytes * m ≤ 281474976710656) (b3 : m ≤ maxLen)
    (hK : ∀ w', w'.ownsRow w.heap.size e 1 (.slice (some ⟨w.heap.size, 0, none⟩) n m) n (List.replicate n z) → w.grownBy w' none → wpList P ops Q rest (a.put o.dst (.slice (some ⟨w.heap.size, 0, none⟩) n m)) w') :
    wpList P ops Q (o :: rest) a w := by
  refine wpList_plain hg fun K hK' => ?_
  subst hL
  subst hC
  have h63' : (m : Int) ≤ 9223372036854775807 := by
    have h := b3
    simp [maxLen] at h
    omega
  have hb' : (i.bytes : Int) * (m : Int) ≤ 281474976710656 := by
    have h : ((i.bytes * m : Nat) : Int) ≤ 281474976710656 := by omega
    rwa [Int.natCast_mul] at h
  have hr := run_make (P := P) w t e i z h1 h2 h3 kl kc (n : Int) (m : Int) (by omega) (by omega) hb' h63'
  rw [h4, hzs, Nat.mul_one] at hr
  simp only [Int.toNat_natCast] at hr
  unfold Oper.wp
  simp [execOp, hop, hl, hc, hr, Result.andThen]
  refine hK' _ _ (hK _ ?_ (World.grownBy_alloc w _ none))
  refine ⟨by simp, .inr ⟨w.heap.size, m, madeCells #[z] m, rfl, Nat.le_refl _, heap_alloc_new w _, hnm, b3, by rw [size_madeCells]; omega, ?_⟩⟩
  rw [toList_madeCells_one]
  simp; omega

set_option maxHeartbeats 1000000 in
theorem roomy_any (w : World) (a : Option Addr) (len cap : Nat) (F : Nat → Int) (h : ArgAt w a len F) (hl : len ≤ 70000) :
    Calls Try.prog 16 #[.slice a len cap] w fun e w' => CloneEnd w len F e w' := by
  obtain ⟨i0, hi0, hz0, hz1, hz2⟩ := info_parts Try.info3
  have hnil := fun wx => Lib.run_eql_slice_nil (P := Try.prog) wx 26 3 a len cap 0 0 Try.underlying26
  cases a with
  | none =>
    obtain rfl : len = 0 := h.1 rfl
    have hfin := hide (CloneEnd.nil w F)
    clear h
    simp only [Option.isNone_none] at hnil
    go_enter Try.func16, Try.ntmps16
    go_wp2_with fail
    go_ret
    exact unhide hfin
  | some x =>
    simp only [Option.isNone_some] at hnil
    have HA := hide h
    clear h
    go_enter Try.func16, Try.ntmps16
    go_wp2_with (at_make; refine wpList_make_part _ rfl (.tmp 8) (.tmp 11) 26 rfl 3 i0 (.int .i64 0) Try.underlying26 hi0 hz0 hz1 rfl .i64 .i64 _ _ len (len + 8) rfl rfl rfl (by omega) (by omega) (by rw [hz2]; omega) (by unfold maxLen; omega) ?_; intro w1 own1 grow1; have HC := hide (CloneRel.start (F := F) own1 grow1); clear own1 grow1)
    go_loopw [4] (fun kv wr => ∃ k : Nat, kv = .int .i64 (k : Int) ∧ CloneRel w wr w.heap.size len (len + 8) F k) (fun kv _ => len - (intOf kv).toNat)
    case atStart => exact ⟨0, rfl, unhide HC⟩
    case round =>
      obtain ⟨k, rfl, hrel⟩ := hrel
      have HR := hide hrel
      have hk := hrel.1
      have hbel := hide hrel.2.1
      clear hrel
      by_cases hkn : k < len
      · obtain ⟨b, off, e, hc⟩ := (unhide HA).2.1 (by omega)
        simp only [Option.some.injEq] at e
        subst e
        have hck := hc k hkn
        have hcr : wr.cell? ⟨b, off + k, none⟩ = some (.int .i64 (F k)) := ((unhide hbel).cell (p := ⟨b, off + k, none⟩) (World.block_lt_of_cell? w _ hck)).trans hck
        obtain ⟨⟨x, hx⟩, hfx⟩ := (unhide HR).slot hkn
        clear hc hck
        go_wp2_with fail
        go_roundw
        case rel => first | exact ⟨k + 1, by go_num, (unhide HR).next hkn⟩ | ((repeat apply Exists.intro); refine ⟨?_, rfl⟩; exact ⟨k + 1, by go_num, (unhide HR).next hkn⟩)
        case measure => simp [intOf]; omega
      · obtain rfl : len = k := by omega
        have hfin := hide (unhide HR).fin
        go_wp2_with fail
        go_ret
        exact unhide hfin

end Go.Proofs.Qxb6003570a
