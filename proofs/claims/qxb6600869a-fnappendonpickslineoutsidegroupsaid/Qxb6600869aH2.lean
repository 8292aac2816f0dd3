import Derived.Test.Qxb6600869aH
namespace Go.Proofs.Qxb6600869a
open Go.RowKit
set_option linter.unusedVariables false
set_option linter.unusedSimpArgs false
open Pl (Perm swp wl sel)

/-- What the call of the function under test leaves: its row and the wanted one, side by side. -/
def TwoEnd (L B : Nat) (w0 : World) (pu : Option Addr) (X : List Int) (e : Ending) (w2 : World) : Prop :=
  ∃ pv cv, e = .returned (.slice pv L cv) ∧ RowC w2 pv L (fun i => X.getD i 0) ∧ RowC w2 pu L (fun i => X.getD i 0) ∧ Below B w0 w2

theorem call16 (B : Nat) (w0 wb wc wg wr : World) (base gb ab rb cb n wd : Nat) (A B' : Nat → Nat) (p2 : Option Addr) (len2 c2 : Nat) (D : List Int) (st sp : Nat) (en v : Int) (p7 : Option Addr) (len7 c7 : Nat) (M : Nat → Int) (pu : Option Addr) (cu : Nat)
    (e2 : D.length = len2)
    (O2 : wg.ownsRow base 3 1 (.slice p2 D.length c2) D.length (ints D))
    (hO2 : ∀ k, (Value.slice p2 len2 c2).ownBlock = some k → k < wb.heap.size)
    (O7 : wg.ownsRow wb.heap.size 3 1 (.slice p7 len7 c7) len7 (rowl M len7))
    (W7 : ∀ i, i < len7 → -9223372036854775808 ≤ M i ∧ M i ≤ 9223372036854775807)
    (hG : Grid wg gb ab rb cb n wd A B') (hab : wc.heap.size ≤ ab) (hgb : wc.heap.size ≤ gb) (s1 : wb.heap.size ≤ wc.heap.size) (s2 : wc.heap.size ≤ wg.heap.size)
    (HR : WantRel wg wr (D ++ wl st sp en (okB v M len7) A n) (.slice pu (D ++ wl st sp en (okB v M len7) A n).length cu))
    (BB : Below B w0 wg) (hB : B ≤ base) (hbw : base ≤ wb.heap.size)
    (hn : n ≤ 32768) (hen : en ≤ (n : Int)) (hen2 : -9223372036854775808 ≤ en) (hs1 : 1 ≤ sp) (hs2 : sp ≤ 65536) (hlm : len7 ≤ 32768) (hdl : len2 ≤ 32768) (hst : st ≤ 9223372036854775807) :
    Calls Try.prog 16 #[.pointer (some ⟨gb, 0, none⟩), .slice p2 len2 c2, .int .i64 (st : Int), .int .i64 en, .int .i64 (sp : Int), .int .i64 v, .slice p7 len7 c7] wr fun e w2 =>
      TwoEnd (D ++ wl st sp en (okB v M len7) A n).length B w0 pu (D ++ wl st sp en (okB v M len7) A n) e w2 := by
  subst e2
  have szr : wg.heap.size ≤ wr.heap.size := HR.2.size
  have gl : gb < wg.heap.size := World.block_lt_of_cell? wg _ hG.g1
  have Gr := hG.below HR.2
  have O2r := own_below O2 HR.2 (Nat.le_refl _)
  have O7r := own_below O7 HR.2 (Nat.le_refl _)
  refine (zzAppendOn_any wr base gb ab n A p2 c2 D st sp en v p7 len7 c7 M O2r (by omega) ?_ ?_ hn hen hen2 hs1 hs2 (by omega) (by omega) hst).mono ?_
  · intro W' hg
    have hfar : ∀ b i, wc.heap.size ≤ b → b < wr.heap.size → W'.cell? ⟨b, i, none⟩ = wr.cell? ⟨b, i, none⟩ := fun b i h1 h2 =>
      hg.cell_far ⟨b, i, none⟩ h2 (fun e => by have := hO2 b e.symm; omega)
    refine ⟨(hfar _ _ hgb (by omega)).trans Gr.g1, fun p hp => ?_⟩
    have h1 := (Gr.lay.at_ p hp).1
    have h2 : ab < wr.heap.size := World.block_lt_of_cell? wr _ h1
    exact (hfar _ _ hab h2).trans h1
  · intro W' hg
    refine own_arg (O7r.kept hg ?_) W7
    cases hv : (Value.slice p7 len7 c7).ownBlock with
    | none => exact .inl rfl
    | some k =>
      right
      intro e2
      have h1 := (O7r.lt k hv).1
      have h2 := hO2 k e2.symm
      omega
  · rintro e w2 ⟨V2, rfl, own2, grow2⟩
    obtain ⟨pv, cv, rfl⟩ := own_form own2
    refine ⟨pv, cv, rfl, own_rowc own2, own_rowc (HR.1.kept grow2 ?_), ?_⟩
    · cases hv : (Value.slice pu (D ++ wl st sp en (okB v M len7) A n).length cu).ownBlock with
      | none => exact .inl rfl
      | some k =>
        right
        intro e2
        have h1 := (HR.1.lt k hv).1
        have h2 := hO2 k e2.symm
        omega
    · refine (BB.trans (HR.2.mono (by omega))).grown grow2 (by omega) (fun k e => ?_)
      have := (O2.lt k e).1
      omega

end Go.Proofs.Qxb6600869a
