/-
  The table's memory: its zero cells; atomic.Pointer's Load and Store; destination.
-/
import Derived.Test.YbulkailyLeaf
import Derived.Laws.LoneSync
namespace Go.Proofs.Ybulkaily
open Go.RowKit

/-- Is the value a nil pointer? -/
def isNilPtr : Value → Bool
  | .pointer none => true
  | _ => false
theorem isNilPtr_eq {v : Value} (h : isNilPtr v = true) : v = .pointer none := by
  unfold isNilPtr at h
  split at h
  · rfl
  · cases h

/-- The cells of a struct's zero value. -/
def aggOf : Option Value → Array Value
  | some (.agg cs) => cs
  | _ => #[]

theorem all69 : ((aggOf Yba.t69.zero).toList.take 16384).all isNilPtr = true := by kernel_rfl
theorem size69 : (aggOf Yba.t69.zero).size = 16387 := by kernel_rfl
theorem zero69 : Yba.t69.zero = some (.agg (aggOf Yba.t69.zero)) := by kernel_rfl

/-- The table's zero cells: 16384 nil pointers, and three cells more. -/
theorem table_zero : ∃ Z : Array Value, Yba.t69.zero = some (.agg Z) ∧ Z.size = 16387 ∧ ∀ p, p < 16384 → Z[p]? = some (.pointer none) := by
  refine ⟨aggOf Yba.t69.zero, zero69, size69, ?_⟩
  have ha := all69
  have hs := size69
  generalize aggOf Yba.t69.zero = Z at *
  intro p hp
  rw [List.all_eq_true] at ha
  have hl : p < Z.toList.length := by simp; omega
  have hm : Z.toList[p] ∈ Z.toList.take 16384 := by
    rw [List.mem_take_iff_getElem]
    exact ⟨p, by omega, rfl⟩
  have := isNilPtr_eq (ha _ hm)
  have h2 : p < Z.size := by omega
  rw [Array.getElem?_eq_getElem h2]
  simpa using this

/-! ### the two library entries -/
theorem find22 : Extern.find Yba.f22 = some (Extern.Atomic.loadT .ptr) := by kernel_rfl
theorem find23 : Extern.find Yba.f23 = some Extern.Atomic.storeT := by kernel_rfl

theorem call22 {a : Addr} {x : Option Addr} {w : World} (hc : w.cell? a = some (.pointer x)) :
    (callFunc 22 #[.pointer (some a)]).run Yba.prog w = .ok (.value (.pointer x)) w := by
  rw [run_callFunc_extern Yba.func22 (by kernel_rfl) (by kernel_rfl) (by kernel_rfl) find22]
  change (Sem.run Yba.prog (do Extern.Atomic.read .ptr (← asAddr (.pointer (some a)))) w).andThen _ = _
  simp [Extern.Atomic.read, asAddr, hc, Result.andThen]

theorem call23 {a : Addr} {y : Option Addr} {u : Value} {w : World} (hc : w.cell? a = some u) (hz : w.frozen? a = false) :
    (callFunc 23 #[.pointer (some a), .pointer y]).run Yba.prog w = .ok (.value (.tuple #[])) (w.setCell a (.pointer y)) := by
  rw [run_callFunc_extern Yba.func23 (by kernel_rfl) (by kernel_rfl) (by kernel_rfl) find23]
  change (Sem.run Yba.prog (do
    store (← asAddr (.pointer (some a))) (.pointer y) .atomic
    pure Extern.Atomic.none_) w).andThen _ = _
  simp [asAddr, hc, hz, run_store Yba.prog w a (.pointer y) .atomic rfl, Result.andThen, Extern.Atomic.none_]

theorem lies81 : liesAt Yba.prog Yba.prog.depth 81 (2 / Yba.prog.cellsOf 81) 0 81 1 = true := by kernel_rfl
theorem info81 : (Yba.prog.info? 81).map (fun i => decide (i.size = 0)) = some false := by kernel_rfl

theorem conv_back {b : Nat} {cs : Array Value} {w : World} (h : w.heap[b]? = some (.cells cs 81 (0, 0))) (hs : cs.size = 2) :
    (convert 59 55 (.pointer (some ⟨b, 0, none⟩))).run Yba.prog w = .ok (.pointer (some ⟨b, 0, none⟩)) w := by
  have hsh : w.shape? b = some (81, 2) := by simp [World.shape?, h, hs]
  have hl := lies81
  obtain ⟨i, hi, hz⟩ := Option.map_eq_some_iff.1 info81
  have hz' : i.size ≠ 0 := by simpa using hz
  simp [convert, run_underlying Yba.underlying59, run_underlying Yba.underlying55, Conv.unsafePointer, Conv.seenAt, viewAt, hsh, variablesAt, hl, sizeOf, typeInfo, hi, hz']
end Go.Proofs.Ybulkaily
