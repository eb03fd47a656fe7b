/-
  What the two laws' frames share: a slice of bools that came in, opened; the walks where a slice is longer than 1024.
-/
import Derived.Test.YbulkaipeStates
import Derived.ProofKit
import Derived.OpenShut
import Derived.ChangeOld
import Derived.Below
import Derived.Deep.Grids
namespace Go.Proofs.Ybulkaipe
open Go.ChangeShapes Go.WideShapes Go.ChangeAt Go.RowKit Go.Deep

theorem own : ownKnob Yba.prog.godebug = none := by kernel_rfl
theorem laidOut : laidOutB Yba.prog = true := by kernel_rfl

/-- A slice of bools, opened: its row. -/
theorem open_row {H : Type} {enc : TypeId × Value → H} {W : World} {a : Option Addr} {len cap : Nat} {d : DataW H} {p : List MemPlace}
    (h : DataW.Trod enc Yba.prog W 0 (fun _ => true) true 23 (.slice a len cap) d p) : ∃ bs, Row a len bs W ∧ len ≤ maxLen := by
  obtain ⟨fuel, hf⟩ := h
  rcases open_bools Yba.underlying23 Yba.underlying4 (by kernel_rfl) hf with ⟨hcs, _⟩ | ⟨x, l, c, B, hcs, _, hl, hm, _, hcell⟩
  · simp [Value.cells] at hcs
    obtain ⟨rfl, rfl, rfl⟩ := hcs
    exact ⟨[], ⟨rfl, Or.inl rfl⟩, Nat.zero_le _⟩
  · simp [Value.cells] at hcs
    obtain ⟨rfl, rfl, rfl⟩ := hcs
    refine ⟨(List.range len).map B, ⟨by simp, ?_⟩, by omega⟩
    by_cases h0 : len = 0
    · exact Or.inl h0
    · obtain ⟨b, off, spot⟩ := x
      have hc := hcell 0 (by omega)
      have hspot : spot = none := by simpa [Addr.add] using World.cell?_spot hc
      subst hspot
      refine Or.inr ⟨b, off, rfl, ?_, ?_⟩
      · have h1 : W.cell? ⟨b, off, none⟩ = some (.bool (B 0)) := by simpa [Addr.add] using hc
        apply Classical.byContradiction
        intro h
        have h2 : W.heap[b]? = none := by simp; omega
        simp [World.cell?, h2] at h1
      · intro j hj
        have h1 := hcell j (by omega)
        rw [Addr.add_lit] at h1
        rw [h1]
        simp [hj]

theorem states_long (r due wF : Int) (wa : Option Addr) (wl wcap : Nat) (tF : Int) (ta : Option Addr) (tl tcap : Nat) (w : World) (hwm : wl ≤ maxLen) (htm : tl ≤ maxLen) (h : 1024 < wl ∨ 1024 < tl) :
    Calls Yba.prog 4 #[.int .u8 r, .int .i32 due, .int .i16 wF, .slice wa wl wcap, .int .i16 tF, .slice ta tl tcap] w fun e w' => e = .returned (.bool true) ∧ Below w.heap.size w w' := by
  unfold maxLen at hwm htm
  by_cases h1 : 1024 < wl
  · have hd : decide ((1024 : Int) < (wl : Int)) = true := by simp; omega
    clear h
    go_enter Yba.func4, Yba.ntmps4
    go_wp2
    go_ret
    exact ⟨rfl, Below.refl _ _⟩
  · have hd : decide ((1024 : Int) < (wl : Int)) = false := by simp; omega
    have hd2 : decide ((1024 : Int) < (tl : Int)) = true := by simp; omega
    clear h
    go_enter Yba.func4, Yba.ntmps4
    go_wp2
    go_ret
    exact ⟨rfl, Below.refl _ _⟩

theorem exact_long (r due wF : Int) (wa : Option Addr) (wl wcap : Nat) (tF : Int) (ta : Option Addr) (tl tcap : Nat) (w : World) (hwm : wl ≤ maxLen) (htm : tl ≤ maxLen) (h : 1024 < wl ∨ 1024 < tl) :
    Calls Yba.prog 3 #[.int .u8 r, .int .i32 due, .int .i16 wF, .slice wa wl wcap, .int .i16 tF, .slice ta tl tcap] w fun e w' => e = .returned (.bool true) ∧ Below w.heap.size w w' := by
  unfold maxLen at hwm htm
  by_cases h1 : 1024 < wl
  · have hd : decide ((1024 : Int) < (wl : Int)) = true := by simp; omega
    clear h
    go_enter Yba.func3, Yba.ntmps3
    go_wp2
    go_ret
    exact ⟨rfl, Below.refl _ _⟩
  · have hd : decide ((1024 : Int) < (wl : Int)) = false := by simp; omega
    have hd2 : decide ((1024 : Int) < (tl : Int)) = true := by simp; omega
    clear h
    go_enter Yba.func3, Yba.ntmps3
    go_wp2
    go_ret
    exact ⟨rfl, Below.refl _ _⟩
end Go.Proofs.Ybulkaipe
