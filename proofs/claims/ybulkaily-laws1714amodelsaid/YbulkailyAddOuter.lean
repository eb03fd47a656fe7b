/-
  For 'add': a server taken up.
-/
import Derived.Test.YbulkailyAddParts
namespace Go.Proofs.Ybulkaily
open Go.RowKit

theorem ORel.step {w0 : World} {T sb gb : Nat} {L : List (Int × List K)} {i : Nat} {FF : List R3} {wr : World} (h : ORel w0 T sb gb L i FF wr) (hi : i ≤ 256) {rc : Int} {ks : List K} {kb cap n : Nat} (hn : ks.length = n) (hn2 : n ≤ 256) (r0 : 0 ≤ rc) (r1 : rc ≤ 4294967295)
    (hk : ∀ j, j < n → ∃ k, ks[j]? = some k ∧ KeyAt kb j k w0) (hT : w0.cell? ⟨T, 16386, none⟩ = some (.map (some sb))) :
    ∃ o kc w1 w2, (Builtin.append_ #[38, 38] 38 #[.slice none 0 0, .slice (some ⟨kb, 0, none⟩) n cap]).run Yba.prog (wr.alloc (.cells #[.string ⟨#[]⟩, .int .u32 rc, .int .u32 0, .slice (some ⟨kb, 0, none⟩) n cap] 47)).drew = .ok (.slice o n kc) w1 ∧
      (Instr.mapUpdate 54 (.map (some sb)) (.int .u32 rc) (.pointer (some ⟨w1.heap.size, 0, none⟩))).run Yba.prog (w1.alloc (.cells #[.string ⟨#[]⟩, .int .u32 rc, .int .u32 0, .slice o n kc] 47)).drew = .ok () w2 ∧
      IRel w0 T sb gb L i rc ks o w1.heap.size 0 FF w2 ∧
      w1.heap[wr.heap.size]? = some (.cells #[.string ⟨#[]⟩, .int .u32 rc, .int .u32 0, .slice (some ⟨kb, 0, none⟩) n cap] 47) ∧
      w1.cell? ⟨T, 16386, none⟩ = some (.map (some sb)) ∧ w2.cell? ⟨T, 16386, none⟩ = some (.map (some sb)) ∧
      w2.heap[w1.heap.size]? = some (.cells #[.string ⟨#[]⟩, .int .u32 rc, .int .u32 0, .slice o n kc] 47) := by
  have hst := h.st
  have gA : wr.grownBy (wr.alloc (.cells #[.string ⟨#[]⟩, .int .u32 rc, .int .u32 0, .slice (some ⟨kb, 0, none⟩) n cap] 47)).drew none := (World.grownBy_alloc _ _ _).trans (grownBy_drew _)
  have hA : (wr.alloc (.cells #[.string ⟨#[]⟩, .int .u32 rc, .int .u32 0, .slice (some ⟨kb, 0, none⟩) n cap] 47)).drew.heap[wr.heap.size]? = some (.cells #[.string ⟨#[]⟩, .int .u32 rc, .int .u32 0, .slice (some ⟨kb, 0, none⟩) n cap] 47) := heap_alloc_new _ _
  generalize hAe : (wr.alloc (.cells #[.string ⟨#[]⟩, .int .u32 rc, .int .u32 0, .slice (some ⟨kb, 0, none⟩) n cap] 47)).drew = A at *
  have hstA := hst.grown gA
  obtain ⟨o, kc, w1, hr, hg1, hkb⟩ := append_copy A kb cap n ks hn (by omega) (fun j hj => by
    obtain ⟨k, a, b⟩ := hk j hj
    exact ⟨k, a, fun t v ht => hstA.cell (b t v ht)⟩)
  have hst1 := hstA.grown hg1
  have gB : w1.grownBy (w1.alloc (.cells #[.string ⟨#[]⟩, .int .u32 rc, .int .u32 0, .slice o n kc] 47)).drew none := (World.grownBy_alloc _ _ _).trans (grownBy_drew _)
  have hB : (w1.alloc (.cells #[.string ⟨#[]⟩, .int .u32 rc, .int .u32 0, .slice o n kc] 47)).drew.heap[w1.heap.size]? = some (.cells #[.string ⟨#[]⟩, .int .u32 rc, .int .u32 0, .slice o n kc] 47) := heap_alloc_new _ _
  generalize hBe : (w1.alloc (.cells #[.string ⟨#[]⟩, .int .u32 rc, .int .u32 0, .slice o n kc] 47)).drew = B at *
  have hstB := hst1.grown gB
  obtain ⟨es, kk, hblk⟩ := hstB.sm.blk
  obtain ⟨w2, hr2, hsm2, hg2, hs2⟩ := hstB.sm.put rc r0 r1 (by unfold maxLen; omega) (.pointer (some ⟨w1.heap.size, 0, none⟩))
  have hst2 := hstB.served hg2 hsm2
  have hB2 : w2.heap[w1.heap.size]? = some (.cells #[.string ⟨#[]⟩, .int .u32 rc, .int .u32 0, .slice o n kc] 47) := by
    rw [hg2.block _ (lt_of_block hB) (fun e => by
      simp at e
      rw [← e, hB] at hblk
      cases hblk)]
    exact hB
  have hI : IRel w0 T sb gb L i rc ks o w1.heap.size 0 FF w2 := {
    st := hst2.mono (Nat.le_refl _)
    kb := (hkb.kept gB (by simp)).kept hg2 (fun b e cur => by cases e; rw [hblk]; simp)
    srv := ⟨_, _, hB2, rfl⟩
    rc := by rw [h.rc]; simp
    len := Nat.le_trans h.len (Nat.le_add_right _ _) }
  refine ⟨o, kc, w1, w2, hr, by rw [hBe]; exact hr2, hI, ?_, hst1.cell hT, hst2.cell hT, hB2⟩
  · rw [hg1.block _ (lt_of_block hA) (by simp)]; exact hA
end Go.Proofs.Ybulkaily
