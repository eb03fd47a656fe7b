/-
  Key.Matches by its contract.
-/
import Derived.Test.YbulkailyLeaf
namespace Go.Proofs.Ybulkaily
open Go.RowKit

set_option maxHeartbeats 6400000 in
theorem matches_any (k : K) (D O C : Int) (w : World) :
    Calls Yba.prog 16 #[k.val, msgVal D O C] w fun e w' => e = .returned (.bool (matchB k D O C)) ∧ w' = (w.alloc k.obj).alloc (msgObj D O C) := by
  obtain ⟨d, o, s, l, h, p⟩ := k
  unfold K.val K.obj matchB bitB msgVal msgObj
  dsimp only
  have hb : ∀ b : Bool, b = true ∨ b = false := fun b => by cases b <;> simp
  rcases hb (D != d) with h1 | h1
  · rw [h1]
    clear hb
    go_enter Yba.func16, Yba.ntmps16
    go_wp2
    go_ret
    exact ⟨rfl, rfl⟩
  rw [h1]
  -- the third and the fourth test, once the first two let by
  have h23 : ((bits .and .u8 p 1 != 0) = true ∧ (O != o) = true) ∨ ((bits .and .u8 p 1 != 0) = true ∧ (O != o) = false) ∨ (bits .and .u8 p 1 != 0) = false := by
    rcases hb (bits .and .u8 p 1 != 0) with a | a <;> rcases hb (O != o) with b | b <;> simp [a, b]
  have h45 : ((bits .and .u8 p 2 != 0) = true ∧ ((5 : Int) != s) = true) ∨ ((bits .and .u8 p 2 != 0) = true ∧ ((5 : Int) != s) = false) ∨ (bits .and .u8 p 2 != 0) = false := by
    rcases hb (bits .and .u8 p 2 != 0) with a | a <;> rcases hb ((5 : Int) != s) with b | b <;> simp [a, b]
  have h678 : ((bits .and .u8 p 4 != 0) = false) ∨ ((bits .and .u8 p 4 != 0) = true ∧ decide (C < l) = true) ∨ ((bits .and .u8 p 4 != 0) = true ∧ decide (C < l) = false ∧ decide (h < C) = true) ∨ ((bits .and .u8 p 4 != 0) = true ∧ decide (C < l) = false ∧ decide (h < C) = false) := by
    rcases hb (bits .and .u8 p 4 != 0) with a | a <;> rcases hb (decide (C < l)) with b | b <;> rcases hb (decide (h < C)) with c | c <;> rw [a, b, c] <;> simp
  clear hb
  rcases h23 with ⟨h2, h3⟩ | ⟨h2, h3⟩ | h2
  · rw [h2, h3]
    clear h45 h678
    go_enter Yba.func16, Yba.ntmps16
    go_wp2
    go_ret
    exact ⟨rfl, rfl⟩
  all_goals
    try rw [h3]
    rw [h2]
    rcases h45 with ⟨h4, h5⟩ | ⟨h4, h5⟩ | h4
    · rw [h4, h5]
      clear h678
      go_enter Yba.func16, Yba.ntmps16
      go_wp2
      go_ret
      exact ⟨by simp, rfl⟩
    all_goals
      try rw [h5]
      rw [h4]
      rcases h678 with h6 | ⟨h6, h7⟩ | ⟨h6, h7, h8⟩ | ⟨h6, h7, h8⟩
      all_goals
        try rw [h8]
        try rw [h7]
        rw [h6]
        go_enter Yba.func16, Yba.ntmps16
        go_wp2
        go_ret
        exact ⟨by simp, rfl⟩
end Go.Proofs.Ybulkaily
