import Derived.Test.Qxb6003570aH
namespace Go.Proofs.Qxb6003570a
open Go.RowKit

/-- What 'AppendPath' has spelt, as a path that 'Find' can read. -/
theorem AP.path {w wr : World} {B gb cap len d : Nat} {F G : Nat → Int} {f : Nat → Nat} (h : AP w wr B gb cap len d F G) (hf : ∀ j, j ≤ d → G (len + j) = (f j : Int)) : ∀ i, i < d + 1 → wr.cell? ⟨gb, len + i, none⟩ = some (.int .i64 ((fun j => (f j : Int)) i)) := fun i hi => by
  rw [h.cell i (by omega), hf i (by omega)]

end Go.Proofs.Qxb6003570a
