/-
  The two maps of 'add': which value stands at which key.
-/
import Derived.Test.YbulkailyServed
import Derived.Maps.RangeWalk
import Derived.Maps.OwnSet
namespace Go.Proofs.Ybulkaily
open Go.RowKit

/-- How an element reads: as itself. -/
def rdr (v : Value) : Option (DataW Value × List MemPlace) := some (.held v, [])

theorem keyed29 : Maps.Keyed Yba.prog 29 := Maps.int_keyed Yba.underlying29
theorem keyed23 : Maps.Keyed Yba.prog 23 := Maps.int_keyed Yba.underlying23
theorem wf32 {p : Int} (h0 : 0 ≤ p) (h1 : p ≤ 4294967295) : (Lit.int .u32 p).wf = true := by
  have a : IntKind.min .u32 ≤ p := h0
  have b : p ≤ IntKind.max .u32 := h1
  simp [Lit.wf, a, b]
theorem key29 {p : Int} (h0 : 0 ≤ p) (h1 : p ≤ 4294967295) : keyOf Yba.prog 29 (.int .u32 p) = some (.int .u32 p) := Maps.keyOf_int_mk Yba.underlying29 (wf32 h0 h1)
theorem key23 {p : Int} (h0 : 0 ≤ p) (h1 : p ≤ 4294967295) : keyOf Yba.prog 23 (.int .u32 p) = some (.int .u32 p) := Maps.keyOf_int_mk Yba.underlying23 (wf32 h0 h1)

/-- The datum D holds g p at each key p. -/
def Reads (D : DataW Value) (g : Nat → Option Value) : Prop := ∀ p : Nat, p ≤ 4294967295 → Maps.has D (.int .u32 p) = (g p).isSome ∧ ∀ v, g p = some v → ∀ zd, D.atKey (.int .u32 p) zd = .held v

/-- Block b is a map of at most n entries that holds g p at each key p. -/
def Gm (w : World) (b n : Nat) (g : Nat → Option Value) : Prop := ∃ D, w.ownsMap Yba.prog 29 rdr b n D ∧ Reads D g

theorem Gm.lt {w : World} {b n : Nat} {g : Nat → Option Value} (h : Gm w b n g) : b < w.heap.size := by obtain ⟨D, h, _⟩ := h; exact h.lt
theorem gm_made (w : World) : Gm (w.alloc (.map #[] 0)) w.heap.size 0 (fun _ => none) := ⟨_, World.ownsMap_made w _ _ _, fun p _ => ⟨rfl, fun v hv => by cases hv⟩⟩
theorem Gm.kept {w w' : World} {b n : Nat} {g : Nat → Option Value} {row : Option Nat} (h : Gm w b n g) (hg : w.grownBy w' row) (hne : some b ≠ row) : Gm w' b n g := by
  obtain ⟨D, h1, h2⟩ := h
  exact ⟨D, h1.kept hg hne, h2⟩

theorem Gm.look {w : World} {b n : Nat} {g : Nat → Option Value} (h : Gm w b n g) (p : Nat) (hp : p ≤ 4294967295) :
    (Instr.lookup 75 (.map (some b)) (.int .u32 p) true).run Yba.prog w = .ok (.tuple #[(g p).getD (.slice none 0 0), .bool (g p).isSome]) w := by
  obtain ⟨D, h1, h2⟩ := h
  have hz : (zeroValue 76).run Yba.prog w = .ok (.slice none 0 0) w := by simp [go_sem]
  obtain ⟨v, ps, hr, hv⟩ := h1.look_ok keyed29 (t := 75) (e := 76) Yba.underlying75 hz (zd := .held (.slice none 0 0)) (zp := []) rfl (key29 (p := p) (by omega) (by omega))
  obtain ⟨h3, h4⟩ := h2 p hp
  rw [h3] at hr
  rw [hr]
  cases hgp : g p with
  | none =>
    rw [hgp] at h3
    rw [Maps.atKey_of_not_has h3] at hv
    have : v = .slice none 0 0 := by unfold rdr at hv; exact (by simpa using hv : _ ∧ _).1
    rw [this]; rfl
  | some u =>
    rw [h4 u hgp] at hv
    have : v = u := by unfold rdr at hv; exact (by simpa using hv : _ ∧ _).1
    rw [this]; rfl

theorem Gm.put {w : World} {b n : Nat} {g : Nat → Option Value} (h : Gm w b n g) (p : Nat) (hp : p ≤ 4294967295) (hn : n < maxLen) (val : Value) :
    ∃ w', (Instr.mapUpdate 75 (.map (some b)) (.int .u32 p) val).run Yba.prog w = .ok () w' ∧ Gm w' b (n + 1) (fun q => if q = p then some val else g q) ∧ w.grownBy w' (some b) ∧ w'.heap.size = w.heap.size := by
  obtain ⟨D, h1, h2⟩ := h
  obtain ⟨w', hr, hm, ht⟩ := h1.store keyed29 (t := 75) (e := 76) Yba.underlying75 hn (key29 (p := p) (by omega) (by omega)) (val := val) (d := .held val) (ps := []) rfl
  refine ⟨w', hr, ⟨_, hm, fun q hq => ?_⟩, ht.grown, ?_⟩
  · by_cases e : q = p
    · subst e
      have hk : WideAt.IsKeyLit (Lit.int .u32 (q : Int)) := trivial
      dsimp only
      rw [if_pos rfl]
      exact ⟨by rw [Maps.has_put_same h1.isMap hk]; rfl, fun v hv zd => by cases hv; exact Maps.atKey_put_same h1.isMap hk _ _⟩
    · dsimp only
      rw [if_neg e]
      have hne : Lit.int .u32 (q : Int) ≠ Lit.int .u32 (p : Int) := fun hh => e (by injection hh with _ hh; omega)
      obtain ⟨h3, h4⟩ := h2 q hq
      exact ⟨by rw [Maps.has_put_other hne]; exact h3, fun v hv zd => by rw [Maps.atKey_put_other hne]; exact h4 v hv zd⟩
  · obtain ⟨es, c, es', c', _, rfl⟩ := ht
    simp [Go.ChangeMaps.setBlock]

/-- The servers' map: what it holds is never read. -/
def Sm (w : World) (b n : Nat) : Prop := ∃ D, w.ownsMap Yba.prog 23 rdr b n D
theorem Sm.lt {w : World} {b n : Nat} (h : Sm w b n) : b < w.heap.size := by obtain ⟨D, h⟩ := h; exact h.lt
theorem sm_made (w : World) : Sm (w.alloc (.map #[] 0)) w.heap.size 0 := ⟨_, World.ownsMap_made w _ _ _⟩
theorem Sm.kept {w w' : World} {b n : Nat} {row : Option Nat} (h : Sm w b n) (hg : w.grownBy w' row) (hne : some b ≠ row) : Sm w' b n := by
  obtain ⟨D, h1⟩ := h
  exact ⟨D, h1.kept hg hne⟩
theorem Sm.put {w : World} {b n : Nat} (h : Sm w b n) (p : Int) (hp0 : 0 ≤ p) (hp : p ≤ 4294967295) (hn : n < maxLen) (val : Value) :
    ∃ w', (Instr.mapUpdate 54 (.map (some b)) (.int .u32 p) val).run Yba.prog w = .ok () w' ∧ Sm w' b (n + 1) ∧ w.grownBy w' (some b) ∧ w'.heap.size = w.heap.size := by
  obtain ⟨D, h1⟩ := h
  obtain ⟨w', hr, hm, ht⟩ := h1.store keyed23 (t := 54) (e := 71) Yba.underlying54 hn (key23 hp0 hp) (val := val) (d := .held val) (ps := []) rfl
  refine ⟨w', hr, ⟨_, hm⟩, ht.grown, ?_⟩
  obtain ⟨es, c, es', c', _, rfl⟩ := ht
  simp [Go.ChangeMaps.setBlock]
end Go.Proofs.Ybulkaily
