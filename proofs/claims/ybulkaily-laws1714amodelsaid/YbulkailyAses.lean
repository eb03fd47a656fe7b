/-
  The servers as memory holds them.
-/
import Derived.Test.YbulkailyServed
namespace Go.Proofs.Ybulkaily
open Go.RowKit

/-- The key at place i of the block kb. -/
def KeyAt (kb i : Nat) (k : K) (w : World) : Prop := ∀ j v, k.cells[j]? = some v → w.cell? ⟨kb, i * 6 + j, none⟩ = some v

/-- The server at place i of the block ob: its context and its keys. -/
def AsAt (ob i : Nat) (x : Int × List K) (w : World) : Prop := ∃ kb cap, kb < w.heap.size ∧
  w.cell? ⟨ob, i * 4, none⟩ = some (.string ⟨#[]⟩) ∧ w.cell? ⟨ob, i * 4 + 1, none⟩ = some (.int .u32 x.1) ∧
  w.cell? ⟨ob, i * 4 + 2, none⟩ = some (.int .u32 0) ∧ w.cell? ⟨ob, i * 4 + 3, none⟩ = some (.slice (some ⟨kb, 0, none⟩) x.2.length cap) ∧
  ∀ j, j < x.2.length → ∃ k, x.2[j]? = some k ∧ k.Ok ∧ KeyAt kb j k w

/-- The servers at the block ob. -/
structure Ases (ob : Nat) (L : List (Int × List K)) (w : World) : Prop where
  lt : ob < w.heap.size
  at_ : ∀ i, i < L.length → ∃ x, L[i]? = some x ∧ x.2.length ≤ 256 ∧ AsAt ob i x w
  small : L.length ≤ 256

theorem AsAt.below {ob i : Nat} {x : Int × List K} {w w' : World} {N : Nat} (h : AsAt ob i x w) (hb : Below N w w') (hN : w.heap.size ≤ N) (hob : ob < w.heap.size) : AsAt ob i x w' := by
  obtain ⟨kb, cap, h1, h2, h3, h4, h5, h6⟩ := h
  have hs := hb.size
  have hob' : ob < N := by omega
  refine ⟨kb, cap, by omega, by rw [hb.cell hob']; exact h2, by rw [hb.cell hob']; exact h3, by rw [hb.cell hob']; exact h4, by rw [hb.cell hob']; exact h5, fun j hj => ?_⟩
  obtain ⟨k, a, b, c⟩ := h6 j hj
  exact ⟨k, a, b, fun t v ht => by rw [hb.cell (by show kb < N; omega)]; exact c t v ht⟩
theorem Ases.below {ob : Nat} {L : List (Int × List K)} {w w' : World} (h : Ases ob L w) (hb : Below w.heap.size w w') : Ases ob L w' where
  lt := Nat.lt_of_lt_of_le h.lt hb.size
  at_ := fun i hi => by
    obtain ⟨x, h1, h2, h3⟩ := h.at_ i hi
    exact ⟨x, h1, h2, h3.below hb (Nat.le_refl _) h.lt⟩
  small := h.small

end Go.Proofs.Ybulkaily
