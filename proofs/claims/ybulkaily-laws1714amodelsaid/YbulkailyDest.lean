/-
  atomic.Pointer's Load and Store, Table.destination, by their contracts.
-/
import Derived.Test.YbulkailyAtom
namespace Go.Proofs.Ybulkaily
open Go.RowKit

theorem load_nil {T p : Nat} {w : World} (hc : w.cell? ⟨T, p, none⟩ = some (.pointer none)) :
    Calls Yba.prog 18 #[.pointer (some ⟨T, p, none⟩)] w fun e w' => e = .returned (.pointer none) ∧ w = w' := by
  have h := call22 hc
  have h2 : ∀ w : World, (convert 59 55 (.pointer none)).run Yba.prog w = .ok (.pointer none) w := fun _ => by kernel_rfl
  go_enter Yba.func18, Yba.ntmps18
  go_wp2
  go_ret
  exact ⟨rfl, rfl⟩

theorem load_some {T p b : Nat} {cs : Array Value} {w : World} (hc : w.cell? ⟨T, p, none⟩ = some (.pointer (some ⟨b, 0, none⟩))) (hb : w.heap[b]? = some (.cells cs 81 (0, 0))) (hs : cs.size = 2) :
    Calls Yba.prog 18 #[.pointer (some ⟨T, p, none⟩)] w fun e w' => e = .returned (.pointer (some ⟨b, 0, none⟩)) ∧ w = w' := by
  have h := call22 hc
  have h2 := conv_back hb hs
  clear hb
  go_enter Yba.func18, Yba.ntmps18
  go_wp2
  go_ret
  exact ⟨rfl, rfl⟩

theorem store_some {T p b : Nat} {cs : Array Value} {u : Value} {w : World} (hc : w.cell? ⟨T, p, none⟩ = some u) (hz : w.frozen? ⟨T, p, none⟩ = false) (hb : w.heap[b]? = some (.cells cs 81 (0, 0))) (hs : cs.size = 2) :
    Calls Yba.prog 19 #[.pointer (some ⟨T, p, none⟩), .pointer (some ⟨b, 0, none⟩)] w fun e w' => e = .returned (.tuple #[]) ∧ w' = w.setCell ⟨T, p, none⟩ (.pointer (some ⟨b, 0, none⟩)) := by
  have h := call23 (y := some ⟨b, 0, none⟩) hc hz
  obtain ⟨v, hv⟩ : ∃ v, w.cell? ⟨b, 0, none⟩ = some v := by
    refine ⟨cs[0]'(by omega), ?_⟩
    simp [World.cell?, hb]
  have h2 := run_convert_to_unsafe (P := Yba.prog) (src := 55) (dst := 59) Yba.underlying55 Yba.underlying59 info81 hv
  clear hv hb hc hz
  go_enter Yba.func19, Yba.ntmps19
  go_wp2
  go_end0
  exact ⟨rfl, rfl⟩

theorem dest_far {T : Nat} (d : Int) (w : World) (h : 16383 < d) :
    Calls Yba.prog 14 #[.pointer (some ⟨T, 0, none⟩), .int .u32 d] w fun e w' => e = .returned (.pointer none) ∧ w = w' := by
  go_enter Yba.func14, Yba.ntmps14
  go_wp2
  go_ret
  exact ⟨rfl, rfl⟩

theorem dest_nil {T d : Nat} {w : World} (h : d ≤ 16383) (hc : w.cell? ⟨T, d, none⟩ = some (.pointer none)) :
    Calls Yba.prog 14 #[.pointer (some ⟨T, 0, none⟩), .int .u32 d] w fun e w' => e = .returned (.pointer none) ∧ w = w' := by
  have h' : ¬ (16383 : Int) < (d : Int) := by omega
  go_enter Yba.func14, Yba.ntmps14
  go_wp2_with fail
  refine (load_nil hc).mono ?_
  rintro e w' ⟨rfl, rfl⟩
  go_wp2
  go_ret
  exact ⟨rfl, rfl⟩

theorem dest_some {T d b : Nat} {cs : Array Value} {w : World} (h : d ≤ 16383) (hc : w.cell? ⟨T, d, none⟩ = some (.pointer (some ⟨b, 0, none⟩))) (hb : w.heap[b]? = some (.cells cs 81 (0, 0))) (hs : cs.size = 2) :
    Calls Yba.prog 14 #[.pointer (some ⟨T, 0, none⟩), .int .u32 d] w fun e w' => e = .returned (.pointer (some ⟨b, 0, none⟩)) ∧ w = w' := by
  have h' : ¬ (16383 : Int) < (d : Int) := by omega
  have HB : Hid (w.heap[b]? = some (.cells cs 81 (0, 0))) := hb
  clear hb
  go_enter Yba.func14, Yba.ntmps14
  go_wp2_with fail
  refine (load_some hc HB.out hs).mono ?_
  rintro e w' ⟨rfl, rfl⟩
  go_wp2
  go_ret
  exact ⟨rfl, rfl⟩
end Go.Proofs.Ybulkaily
