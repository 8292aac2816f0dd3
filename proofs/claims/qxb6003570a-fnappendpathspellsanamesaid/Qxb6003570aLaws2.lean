import Derived.Test.Qxb6003570aLaws
import Derived.Lib.AppendZeros
namespace Go.Proofs.Qxb6003570a
open Go.RowKit

theorem zeroCells_one (z : Value) (n : Nat) : Builtin.zeroCells #[z] n = (List.replicate n z).toArray := by
  have h := toList_madeCells_one z n
  have e : Builtin.zeroCells #[z] n = madeCells #[z] n := by simp [Builtin.zeroCells, madeCells]
  rw [e, ← h]

section
variable {P : Program} (w : World)

/-- .. where there is room. -/
theorem run_zeros_room (t tn ty e : TypeId) (i : TypeInfo) (z : Value) (ik : IntKind) (ht : P.underlying t = some (.slice e)) (htn : P.underlying tn = some (.int ik)) (hi : P.info? e = some i) (hz : i.zero = some z)
    (hsize : i.size = 1) (hzs : z.cells = #[z]) (h1z : z.oneCell' = true) (g n cap : Nat) (cur : Array Value) (hg : w.heap[g]? = some (.cells cur e (0, 0))) (k : Nat) (hk : 0 < k) (hk2 : k ≤ 1000000) (hkb : k * i.bytes ≤ 281474976710656)
    (hroom : n + k ≤ cap) (hfit : n + k ≤ cur.size) :
    (Builtin.append_ #[t, tn] ty #[.slice (some ⟨g, 0, none⟩) n cap, .int .i64 (k : Int)]).run P w =
      .ok (.slice (some ⟨g, 0, none⟩) (n + k) cap) (w.setRow g (cur.toList.take n ++ List.replicate k z ++ cur.toList.drop (n + k)).toArray) := by
  have hw : IntKind.i64.wrap (k : Int) = (k : Int) := wrapIn _ (by omega) (by omega)
  have hneg : ¬ ((k : Int) < 0) := by omega
  have hk0 : k ≠ 0 := by omega
  have hkb' : ¬ (281474976710656 < (k : Int) * (i.bytes : Int)) := by rw [← Int.natCast_mul]; omega
  have hst := run_storeCells_at P g n e (List.replicate k z) 0 cur w hg (by simpa using hfit) (fun u hu => by rw [(List.mem_replicate.1 hu).2]; exact h1z)
  simp only [Nat.add_zero, List.length_replicate] at hst
  have hn : n * 1 = n := by omega
  simp [Builtin.append_, run_underlying ht, run_underlying htn, sizeOf, typeInfo, zeroValue, hi, hz, hsize, hzs, asInt, asIntOf, hw, hneg, hk0, hkb', hroom, zeroCells_one, Addr.add_lit, hst]

/-- .. where there is none: a new row. -/
theorem run_zeros_grow (t tn ty e : TypeId) (i : TypeInfo) (z : Value) (ik : IntKind) (ht : P.underlying t = some (.slice e)) (htn : P.underlying tn = some (.int ik)) (hi : P.info? e = some i) (hz : i.zero = some z)
    (hsize : i.size = 1) (hzs : z.cells = #[z]) (b : Addr) (n cap : Nat) (olds : List Value) (hlo : olds.length = n) (holds : ∀ j v, olds[j]? = some v → w.cell? (b.add j) = some v) (k : Nat) (hk : 0 < k) (hk2 : k ≤ 1000000) (hkb : k * i.bytes ≤ 281474976710656)
    (hg : cap < n + k) (h63 : ((n + k : Nat) : Int) ≤ 9223372036854775807) (hfit : Builtin.nextslicecap (n + k) cap * i.bytes ≤ 281474976710656) :
    (Builtin.append_ #[t, tn] ty #[.slice (some b) n cap, .int .i64 (k : Int)]).run P w =
      .ok (.slice (some ⟨w.heap.size, 0, none⟩) (n + k) (grownCap w (n + k) cap e))
        (w.drew.alloc (.cells (olds.toArray ++ (List.replicate k z).toArray ++ Builtin.zeroCells z.cells (grownCap w (n + k) cap e - (n + k))) e)) := by
  have hw : IntKind.i64.wrap (k : Int) = (k : Int) := wrapIn _ (by omega) (by omega)
  have hneg : ¬ ((k : Int) < 0) := by omega
  have hk0 : k ≠ 0 := by omega
  have hkb' : ¬ (281474976710656 < (k : Int) * (i.bytes : Int)) := by rw [← Int.natCast_mul]; omega
  have hn : ¬ (n + k ≤ cap) := by omega
  have h63' : ¬ (9223372036854775807 < ((n : Int) + (k : Int))) := by omega
  have h48' : ¬ (281474976710656 < Builtin.nextslicecap (n + k) cap * i.bytes) := by omega
  have hfo := run_firstCells_some (P := P) w.drew i.size n b n cap olds (by rw [hsize]; omega) (by simpa using holds)
  rw [hsize] at hfo
  simp [Builtin.append_, run_underlying ht, run_underlying htn, sizeOf, typeInfo, zeroValue, hi, hz, hsize, hzs, asInt, asIntOf, hw, hneg, hk0, hkb', hn, h63', h48', Question.forced, hfo, newRow, grownCap, zeroCells_one]

/-- 'append(s, make([]T, k)...)' onto nil or onto a row that the call owns: k noughts behind what was there. -/
theorem run_append_zeros (base : Nat) (t tn ty e : TypeId) (i : TypeInfo) (z : Value) (ik : IntKind) (bytes : Nat) (ht : P.underlying t = some (.slice e)) (htn : P.underlying tn = some (.int ik)) (hi : P.info? e = some i) (hz : i.zero = some z)
    (hsize : i.size = 1) (hby : i.bytes = bytes) (hzs : z.cells = #[z]) (h1z : z.oneCell' = true)
    (v : Value) (n : Nat) (xs : List Value) (hown : w.ownsRow base e 1 v n xs) (k : Nat) (hk : 0 < k) (hk2 : k ≤ 1000000) (hkb : k * bytes ≤ 281474976710656)
    (h63 : n + k ≤ maxLen) (hbytes : (n + k) * bytes ≤ 140737488355328) (hbase : base ≤ w.heap.size) :
    ∃ g cap w', (Builtin.append_ #[t, tn] ty #[v, .int .i64 (k : Int)]).run P w = .ok (.slice (some ⟨g, 0, none⟩) (n + k) cap) w' ∧ w'.ownsRow base e 1 (.slice (some ⟨g, 0, none⟩) (n + k) cap) (n + k) (xs ++ List.replicate k z) ∧ w.grownBy w' v.ownBlock := by
  have hsmall : n + k ≤ 9223372036854775807 := by simp only [maxLen] at h63; omega
  have hl : xs.length = n := by have := hown.1; omega
  subst hby
  have hlen : (xs ++ List.replicate k z).length = (n + k) * 1 := by rw [List.length_append, hl, List.length_replicate]; omega
  have grown : ∀ (old : Nat) (row : Option Nat),
      (w.drew.alloc (.cells (xs.toArray ++ (List.replicate k z).toArray ++ Builtin.zeroCells z.cells (grownCap w (n + k) old e - (n + k))) e)).ownsRow base e 1
        (.slice (some ⟨w.heap.size, 0, none⟩) (n + k) (grownCap w (n + k) old e)) (n + k) (xs ++ List.replicate k z) ∧
      w.grownBy (w.drew.alloc (.cells (xs.toArray ++ (List.replicate k z).toArray ++ Builtin.zeroCells z.cells (grownCap w (n + k) old e - (n + k))) e)) row := by
    intro old row
    have hge := grownCap_ge w (n + k) old e
    have hcm : grownCap w (n + k) old e ≤ maxLen := grownCap_le_maxLen w (n + k) old e h63
    refine ⟨⟨hlen, .inr ⟨w.heap.size, _, _, rfl, hbase, heap_alloc_new w.drew _, hge, hcm, ?_, ?_⟩⟩, ⟨rfl, rfl, rfl, by simp, fun q hq _ => heap_alloc_old w.drew _ hq⟩⟩
    · simp only [Array.size_append, List.size_toArray, size_zeroCells, hzs, hl, List.length_replicate]
      simp; omega
    · simp only [Array.toList_append]
      rw [← hlen]
      exact List.take_left
  rcases hown.2 with ⟨rfl, rfl⟩ | ⟨g, cap, cur, rfl, hbg, hg, hnc, hcm, hcs, htake⟩
  · have hx : xs = [] := List.eq_nil_of_length_eq_zero hl
    subst hx
    have hr := Lib.run_append_nil_zeros (P := P) w t tn ty e i z .i64 ik ht htn hi hz k hk (by omega) (by omega) hkb
    have hgr := grown 0 (Value.ownBlock (.slice none 0 0))
    simp only [Nat.zero_add, List.nil_append, Array.empty_append] at hgr ⊢
    rw [hzs, zeroCells_one] at hr
    rw [hzs] at hgr
    exact ⟨_, _, _, hr, hgr.1, hgr.2⟩
  · by_cases hroom : n + k ≤ cap
    · have hfit : n + k ≤ cur.size := by omega
      have hr := run_zeros_room (P := P) w t tn ty e i z ik ht htn hi hz hsize hzs h1z g n cap cur hg k hk hk2 hkb hroom hfit
      refine ⟨_, _, _, hr, ⟨hlen, .inr ⟨g, cap, _, rfl, hbg, setRow_heap w g cur _ e _ hg, hroom, hcm, ?_, ?_⟩⟩, ⟨rfl, rfl, rfl, by simp, fun q _ hq => setRow_other w g q _ (fun e => hq (by simp [Value.ownBlock, e]))⟩⟩
      · simp only [List.size_toArray, List.length_append, List.length_take, List.length_drop, Array.length_toList, List.length_replicate]
        omega
      · have ht2 : cur.toList.take n = xs := by rw [← htake, Nat.mul_one]
        rw [ht2, ← hlen]
        exact List.take_left
    · have holds : ∀ j u, xs[j]? = some u → w.cell? ((⟨g, 0, none⟩ : Addr).add j) = some u := hown.cells (g := g) rfl
      have hr := run_zeros_grow (P := P) w t tn ty e i z ik ht htn hi hz hsize hzs ⟨g, 0, none⟩ n cap xs hl holds k hk hk2 hkb (by omega) (by omega) (growslice_fits (by omega) hbytes)
      have hgr := grown cap (Value.ownBlock (.slice (some ⟨g, 0, none⟩) n cap))
      exact ⟨_, _, _, hr, hgr.1, hgr.2⟩

theorem wpList_append_zeros {ops : Array Oper} {rest : List Oper} {o : Oper} {a : Act} {Q : Exit → Act → World → Prop} (hgd : o.guard = none) (s x : Operand) (t tn : TypeId)
    (ho : o.op = .call { callee := .builtin .append, args := #[s, x], argTypes := #[t, tn] })
    (base : Nat) (e : TypeId) (i : TypeInfo) (z : Value) (ik : IntKind) (bytes : Nat) (ht : P.underlying t = some (.slice e)) (htn : P.underlying tn = some (.int ik)) (hi : P.info? e = some i) (hz : i.zero = some z)
    (hsize : i.size = 1) (hby : i.bytes = bytes) (hzs : z.cells = #[z]) (h1z : z.oneCell' = true)
    (v : Value) (n : Nat) (xs : List Value) (hs : a.eval s = v) (hown : w.ownsRow base e 1 v n xs) (K : Int) (k : Nat) (hx : a.eval x = .int .i64 K) (hK : K = (k : Int)) (hk : 0 < k) (hk2 : k ≤ 1000000) (hkb : k * bytes ≤ 281474976710656)
    (h63 : n + k ≤ maxLen) (hbytes : (n + k) * bytes ≤ 140737488355328) (hbase : base ≤ w.heap.size)
    (h : ∀ g cap w', w'.ownsRow base e 1 (.slice (some ⟨g, 0, none⟩) (n + k) cap) (n + k) (xs ++ List.replicate k z) → w.grownBy w' v.ownBlock → wpList P ops Q rest (a.put o.dst (.slice (some ⟨g, 0, none⟩) (n + k) cap)) w') : wpList P ops Q (o :: rest) a w := by
  obtain ⟨g, cap, w', hr, h2, h3⟩ := run_append_zeros (P := P) w base t tn o.type e i z ik bytes ht htn hi hz hsize hby hzs h1z v n xs hown k hk hk2 hkb h63 hbytes hbase
  subst hK
  exact Lib.wpList_append_run w hgd s x t tn ho _ _ hs hx _ _ hr (h g cap w' h2 h3)

end
end Go.Proofs.Qxb6003570a
