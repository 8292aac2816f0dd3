import Derived.Test.Qxb6003570aRows
import Derived.WalkKit
import Derived.WalkSpells
import Derived.Deep.AppendLies
namespace Go.Proofs.Qxb6003570a
open Go.RowKit

section
variable {P : Program} (w : World)

/-- append onto a row that the call owns: as 'run_append_lies', and: either the new slice lies in the old row, or in a new block, and then no old block has turned. -/
theorem run_append_more (t ty : TypeId) (base : Nat) (e : TypeId) (i : TypeInfo) (z : Value) (size bytes : Nat) (ht : P.underlying t = some (.slice e)) (hi : P.info? e = some i) (hz : i.zero = some z)
    (hsize : i.size = size) (hby : i.bytes = bytes) (hzs : z.cells.size = size) (hsz : 0 < size)
    (g0 n cp : Nat) (xs : List Value) (hown : w.ownsRow base e size (.slice (some ⟨g0, 0, none⟩) n cp) n xs)
    (ad : Addr) (m c : Nat) (news : List Value) (hl : news.length = m * size) (hnews : ∀ j u, news[j]? = some u → w.cell? (ad.add j) = some u) (h1 : ∀ u ∈ news, u.oneCell' = true)
    (hm : 0 < m) (h63 : n + m ≤ maxLen) (hbytes : (n + m) * bytes ≤ 140737488355328) (hbase : base ≤ w.heap.size) (H : Nat) (hH : w.heap.size = H) :
    ∃ g cap w', (Builtin.append_ #[t, t] ty #[.slice (some ⟨g0, 0, none⟩) n cp, .slice (some ad) m c]).run P w = .ok (.slice (some ⟨g, 0, none⟩) (n + m) cap) w' ∧
      w'.ownsRow base e size (.slice (some ⟨g, 0, none⟩) (n + m) cap) (n + m) (xs ++ news) ∧ w.grownBy w' (some g0) ∧ (g = g0 ∨ (g = H ∧ Below H w w')) ∧ g < w'.heap.size := by
  obtain ⟨g, cap, w', hr, h2, h3, h4, h5⟩ := run_append_lies (P := P) w t ty base e i z size bytes ht hi hz hsize hby hzs hsz (.slice (some ⟨g0, 0, none⟩) n cp) n xs hown ad m c news hl hnews h1 hm h63 hbytes hbase H hH
  refine ⟨g, cap, w', hr, h2, h3, ?_, h5⟩
  rcases h4 with h4 | h4
  · left; simp only [Value.ownBlock] at h4; cases h4; rfl
  · by_cases hc : cp < n + m
    · right
      refine ⟨h4, ?_⟩
      subst hsize
      subst hby
      have hg := run_append_grow (P := P) w t ty e i z ht hi hz ⟨g0, 0, none⟩ n cp xs hown.1 (hown.cells (g := g0) rfl) ad m c news hl hnews hc (by simp only [maxLen] at h63; omega) (growslice_fits hc hbytes)
      rw [hr] at hg
      cases hg
      subst hH
      exact ((Below.refl _ _).drew).alloc (Nat.le_refl _) _
    · left
      rcases hown.2 with ⟨e1, _⟩ | ⟨q, cq, cur, e1, _, hh, hnc, _, hcs, _⟩
      · cases e1
      · cases e1
        subst hsize
        have hroom : n + m ≤ cp := by omega
        have hfit : n * i.size + news.length ≤ cur.size := by rw [hl, hcs, ← Nat.add_mul]; exact Nat.mul_le_mul_right _ hroom
        have hg := run_append_room (P := P) w t ty e i ht hi g0 n cp cur hh ad m c news hl hnews h1 hroom hfit
        rw [hr] at hg
        cases hg
        rfl

theorem wp_append_more {o : Oper} {a : Act} {K : Act → World → Prop} {Q : Exit → Act → World → Prop} (s x : Operand) (t : TypeId)
    (ho : o.op = .call { callee := .builtin .append, args := #[s, x], argTypes := #[t, t] })
    (base : Nat) (e : TypeId) (i : TypeInfo) (z : Value) (size bytes : Nat) (ht : P.underlying t = some (.slice e)) (hi : P.info? e = some i) (hz : i.zero = some z)
    (hsize : i.size = size) (hby : i.bytes = bytes) (hzs : z.cells.size = size) (hsz : 0 < size)
    (g0 n cp : Nat) (xs : List Value) (hs : a.eval s = .slice (some ⟨g0, 0, none⟩) n cp) (hown : w.ownsRow base e size (.slice (some ⟨g0, 0, none⟩) n cp) n xs)
    (ad : Addr) (m c : Nat) (news : List Value) (hx : a.eval x = .slice (some ad) m c) (hl : news.length = m * size) (hnews : ∀ j u, news[j]? = some u → w.cell? (ad.add j) = some u) (h1 : ∀ u ∈ news, u.oneCell' = true)
    (hm : 0 < m) (h63 : n + m ≤ maxLen) (hbytes : (n + m) * bytes ≤ 140737488355328) (hbase : base ≤ w.heap.size) (H : Nat) (hH : w.heap.size = H)
    (h : ∀ g cap w', w'.ownsRow base e size (.slice (some ⟨g, 0, none⟩) (n + m) cap) (n + m) (xs ++ news) → w.grownBy w' (some g0) → (g = g0 ∨ (g = H ∧ Below H w w')) → g < w'.heap.size → K (a.put o.dst (.slice (some ⟨g, 0, none⟩) (n + m) cap)) w') : o.wp P a w K Q := by
  obtain ⟨g, cap, w', hr, h2, h3, h4, h5⟩ := run_append_more (P := P) w t o.type base e i z size bytes ht hi hz hsize hby hzs hsz g0 n cp xs hown ad m c news hl hnews h1 hm h63 hbytes hbase H hH
  unfold Oper.wp execOp
  simp only [ho, resolve, invoke, builtin, Sem.run_bind, Sem.run_pure, Result.andThen_ok, List.map_toArray, List.map_cons, List.map_nil, hs, hx, hr]
  exact h g cap w' h2 h3 h4 h5

theorem step_append_more {ops : Array Oper} {o : Oper} {a : Act} {K : Act → World → Prop} {Q : Exit → Act → World → Prop} {E : Prop} (hgd : o.guard = none) (s x : Operand) (t : TypeId)
    (ho : o.op = .call { callee := .builtin .append, args := #[s, x], argTypes := #[t, t] })
    (base : Nat) (e : TypeId) (i : TypeInfo) (z : Value) (size bytes : Nat) (ht : P.underlying t = some (.slice e)) (hi : P.info? e = some i) (hz : i.zero = some z)
    (hsize : i.size = size) (hby : i.bytes = bytes) (hzs : z.cells.size = size) (hsz : 0 < size)
    (g0 n cp : Nat) (xs : List Value) (hs : a.eval s = .slice (some ⟨g0, 0, none⟩) n cp) (hown : w.ownsRow base e size (.slice (some ⟨g0, 0, none⟩) n cp) n xs)
    (ad : Addr) (m c : Nat) (news : List Value) (hx : a.eval x = .slice (some ad) m c) (hl : news.length = m * size) (hnews : ∀ j u, news[j]? = some u → w.cell? (ad.add j) = some u) (h1 : ∀ u ∈ news, u.oneCell' = true)
    (hm : 0 < m) (h63 : n + m ≤ maxLen) (hbytes : (n + m) * bytes ≤ 140737488355328) (hbase : base ≤ w.heap.size) (H : Nat) (hH : w.heap.size = H)
    (h : ∀ g cap w', w'.ownsRow base e size (.slice (some ⟨g, 0, none⟩) (n + m) cap) (n + m) (xs ++ news) → w.grownBy w' (some g0) → (g = g0 ∨ (g = H ∧ Below H w w')) → g < w'.heap.size → K (a.put o.dst (.slice (some ⟨g, 0, none⟩) (n + m) cap)) w') :
    if Region.wanted o (yielded ops a.tmps) = true then Oper.wp P o a w K Q else E := by
  have hw : Region.wanted o (yielded ops a.tmps) = true := by simp [Region.wanted, hgd]
  rw [if_pos hw]
  exact wp_append_more w s x t ho base e i z size bytes ht hi hz hsize hby hzs hsz g0 n cp xs hs hown ad m c news hx hl hnews h1 hm h63 hbytes hbase H hH h

end

theorem enter31 (args : Array Value) (w : World) : (callFunc 31 args).run Try.prog w = .ok (.enter 31 args) w := by
  have h1 : ¬ Try.f31.name = "runtime.NumGoroutine" := of_decide_eq_false (by kernel_rfl)
  have h2 : Try.f31.body.isNone = false := by kernel_rfl
  have h3 : ¬ Try.f31.body = none := by intro e; rw [e] at h2; cases h2
  simp [callFunc, go_sem, Try.func31, h1, h3]

/-- A call of a Go function that only reads, as one step of a region that draws its order. -/
theorem step_call {P : Program} {w : World} {ops : Array Oper} {a : Act} {K : Act → World → Prop} {Q : Exit → Act → World → Prop} {E : Prop} {dst : Option Tmp} {f : FuncId} {xs : Array Operand} {ats : Array TypeId} {ty : TypeId} {pos : String} {after : Array Edge} (hrun : ∀ (args : Array Value) (w : World), (callFunc f args).run P w = .ok (.enter f args) w) (args : Array Value) (v : Value) (hargs : xs.map a.eval = args)
    (hc : Calls P f args w fun e w' => e = .returned v ∧ w' = w) (h : K (a.put dst v) w) :
    if Region.wanted { dst := dst, op := .call { callee := .value (.func f), args := xs, argTypes := ats }, type := ty, pos := pos, after := after, guard := none } (yielded ops a.tmps) = true then Oper.wp P { dst := dst, op := .call { callee := .value (.func f), args := xs, argTypes := ats }, type := ty, pos := pos, after := after, guard := none } a w K Q else E := by
  rw [if_pos (by simp [Region.wanted])]
  unfold Oper.wp
  rw [execOp_call_go, hrun, Oper.upon_enter]
  simp only [Array.empty_append, Array.append_empty, hargs]
  refine hc.mono ?_
  rintro e w' ⟨rfl, rfl⟩
  exact h

theorem wrapIn (x : Int) (h1 : -9223372036854775808 ≤ x) (h2 : x ≤ 9223372036854775807) : IntKind.i64.wrap x = x := by
  rw [IntKind.wrap_i64]; omega

end Go.Proofs.Qxb6003570a
