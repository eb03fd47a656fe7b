/-
  What memory holds while 'add' gathers the routes: lemmas outside the walk.
-/
import Derived.Test.YbulkailyMap
import Derived.Test.YbulkailyBuildParts
namespace Go.Proofs.Ybulkaily
open Go.RowKit

/-- A route as gathered: its key, its server's block, its server's context. -/
abbrev R3 := K × Nat × Int
def pr (r : R3) : K × Nat := (r.1, r.2.1)
/-- The routes of the DPC p. -/
def sel (FF : List R3) (p : Nat) : List R3 := FF.filter fun r => r.1.dpc == (p : Int)
/-- Block b is a server of context rc. -/
def Srv (w : World) (b : Nat) (rc : Int) : Prop := ∃ cs z, w.heap[b]? = some (.cells cs 47 z) ∧ cs[1]? = some (.int .u32 rc)

theorem Srv.lt {w : World} {b : Nat} {rc : Int} (h : Srv w b rc) : b < w.heap.size := by obtain ⟨cs, z, h, _⟩ := h; exact lt_of_block h
theorem Srv.cell {w : World} {b : Nat} {rc : Int} (h : Srv w b rc) : w.cell? ⟨b, 1, none⟩ = some (.int .u32 rc) := by
  obtain ⟨cs, z, h, h1⟩ := h
  simp [World.cell?, h, h1]

/-- The map's block holds no cells. -/
theorem Gm.blk {w : World} {b n : Nat} {g : Nat → Option Value} (h : Gm w b n g) : ∃ es c, w.heap[b]? = some (.map es c) := by obtain ⟨D, ⟨es, c, h, _⟩, _⟩ := h; exact ⟨es, c, h⟩
theorem Sm.blk {w : World} {b n : Nat} (h : Sm w b n) : ∃ es c, w.heap[b]? = some (.map es c) := by obtain ⟨D, ⟨es, c, h, _⟩⟩ := h; exact ⟨es, c, h⟩
theorem Gm.mono {w : World} {b n n' : Nat} {g : Nat → Option Value} (h : Gm w b n g) (hn : n ≤ n') : Gm w b n' g := by obtain ⟨D, h1, h2⟩ := h; exact ⟨D, h1.mono hn, h2⟩
theorem Sm.mono {w : World} {b n n' : Nat} (h : Sm w b n) (hn : n ≤ n') : Sm w b n' := by obtain ⟨D, h1⟩ := h; exact ⟨D, h1.mono hn⟩

/-- What the map of the grown routes holds. -/
structure Rows (base : Nat) (FF : List R3) (g : Nat → Option Value) (wr : World) : Prop where
  none_ : ∀ p, p ≤ 16383 → sel FF p = [] → g p = none
  some_ : ∀ p, p ≤ 16383 → sel FF p ≠ [] → ∃ rb cap, g p = some (.slice (some ⟨rb, 0, none⟩) (sel FF p).length cap) ∧ wr.ownsRow base 83 7 (.slice (some ⟨rb, 0, none⟩) (sel FF p).length cap) (sel FF p).length ((sel FF p).flatMap fun r => routeCells (pr r))
  apart : ∀ p q v u, p ≠ q → g p = some v → g q = some u → v.ownBlock ≠ u.ownBlock
  far : ∀ p, 16383 < p → g p = none

structure St (w0 : World) (T sb gb : Nat) (FF : List R3) (c : Nat) (wr : World) : Prop where
  os : wr.os = w0.os
  tape : wr.tape = w0.tape
  output : wr.output = w0.output
  size : w0.heap.size ≤ wr.heap.size
  old : ∀ b, b < w0.heap.size → b ≠ sb → wr.heap[b]? = w0.heap[b]?
  map0 : ∃ es k, w0.heap[sb]? = some (.map es k)
  gbl : w0.heap.size ≤ gb
  sm : Sm wr sb c
  gm : ∃ g, Gm wr gb c g ∧ Rows w0.heap.size FF g wr
  srv : ∀ r ∈ FF, r.1.Ok ∧ Srv wr r.2.1 r.2.2

theorem St.sb_lt {w0 : World} {T sb gb : Nat} {FF : List R3} {c : Nat} {wr : World} (h : St w0 T sb gb FF c wr) : sb < w0.heap.size := by obtain ⟨es, k, e⟩ := h.map0; exact lt_of_block e

/-- What the call found is there still, but for the servers' map. -/
theorem St.cell {w0 : World} {T sb gb : Nat} {FF : List R3} {c : Nat} {wr : World} (h : St w0 T sb gb FF c wr) {a : Addr} {v : Value} (hc : w0.cell? a = some v) : wr.cell? a = some v := by
  have hlt : a.block < w0.heap.size := World.block_lt_of_cell? w0 a hc
  have hne : a.block ≠ sb := by
    intro e
    obtain ⟨es, k, he⟩ := h.map0
    rw [← e] at he
    simp [World.cell?, he] at hc
  rw [World.cell?_of_block (h.old a.block hlt hne)]
  exact hc

theorem Rows.kept {base : Nat} {FF : List R3} {g : Nat → Option Value} {w w' : World} {row : Option Nat} (h : Rows base FF g w) (hg : w.grownBy w' row) (hrow : ∀ b, row = some b → ∀ cur, w.heap[b]? ≠ some (.cells cur 83 (0, 0))) : Rows base FF g w' where
  none_ := h.none_
  some_ := fun p hp hne => by
    obtain ⟨rb, cap, h1, h2⟩ := h.some_ p hp hne
    refine ⟨rb, cap, h1, h2.kept hg ?_⟩
    refine Or.inr fun e => ?_
    have e' : row = some rb := e.symm
    rcases h2.2 with ⟨e0, _⟩ | ⟨g', c', cur, e0, _, hh, _⟩
    · cases e0
    · cases e0
      exact hrow _ e' cur hh
  apart := h.apart
  far := h.far

theorem Srv.kept {w w' : World} {b : Nat} {rc : Int} {row : Option Nat} (h : Srv w b rc) (hg : w.grownBy w' row) (hrow : ∀ b, row = some b → ∀ cur z, w.heap[b]? ≠ some (.cells cur 47 z)) : Srv w' b rc := by
  have hlt := h.lt
  obtain ⟨cs, z, h1, h2⟩ := h
  refine ⟨cs, z, ?_, h2⟩
  rw [hg.block b hlt (fun e => hrow b e.symm cs z h1)]
  exact h1

/-- New blocks change nothing. -/
theorem St.grown {w0 : World} {T sb gb : Nat} {FF : List R3} {c : Nat} {wr w' : World} (h : St w0 T sb gb FF c wr) (hg : wr.grownBy w' none) : St w0 T sb gb FF c w' where
  os := hg.os.trans h.os
  tape := hg.tape.trans h.tape
  output := hg.output.trans h.output
  size := Nat.le_trans h.size hg.size
  old := fun b hb hne => (hg.block b (Nat.lt_of_lt_of_le hb h.size) (by simp)).trans (h.old b hb hne)
  map0 := h.map0
  gbl := h.gbl
  sm := h.sm.kept hg (by simp)
  gm := by
    obtain ⟨g, h1, h2⟩ := h.gm
    exact ⟨g, h1.kept hg (by simp), h2.kept hg (by simp)⟩
  srv := fun r hr => ⟨(h.srv r hr).1, (h.srv r hr).2.kept hg (by simp)⟩

/-- A server put into the servers' map. -/
theorem St.served {w0 : World} {T sb gb : Nat} {FF : List R3} {c : Nat} {wr w' : World} (h : St w0 T sb gb FF c wr) (hg : wr.grownBy w' (some sb)) (hs : Sm w' sb (c + 1)) : St w0 T sb gb FF (c + 1) w' := by
  obtain ⟨es, k, hblk⟩ := h.sm.blk
  have hlt := h.sb_lt
  have hgb := h.gbl
  exact {
    os := hg.os.trans h.os
    tape := hg.tape.trans h.tape
    output := hg.output.trans h.output
    size := Nat.le_trans h.size hg.size
    old := fun b hb hne => (hg.block b (Nat.lt_of_lt_of_le hb h.size) (by simpa using hne)).trans (h.old b hb hne)
    map0 := h.map0
    gbl := h.gbl
    sm := hs
    gm := by
      obtain ⟨g, h1, h2⟩ := h.gm
      exact ⟨g, (h1.kept hg (by simp; omega)).mono (by omega), h2.kept hg (fun b e cur => by cases e; rw [hblk]; simp)⟩
    srv := fun r hr => ⟨(h.srv r hr).1, (h.srv r hr).2.kept hg (fun b e cur z => by cases e; rw [hblk]; simp)⟩ }

theorem St.mono {w0 : World} {T sb gb : Nat} {FF : List R3} {c c' : Nat} {wr : World} (h : St w0 T sb gb FF c wr) (hc : c ≤ c') : St w0 T sb gb FF c' wr :=
  { h with sm := h.sm.mono hc, gm := by obtain ⟨g, h1, h2⟩ := h.gm; exact ⟨g, h1.mono hc, h2⟩ }

theorem sel_snoc (FF : List R3) (r : R3) (p : Nat) : sel (FF ++ [r]) p = if r.1.dpc = (p : Int) then sel FF p ++ [r] else sel FF p := by
  unfold sel
  rw [List.filter_append]
  by_cases e : r.1.dpc = (p : Int) <;> simp [e]

/-- A route gathered: the row appended to (W to w1), then the map's entry laid (w1 to w2). -/
theorem St.route {w0 : World} {T sb gb : Nat} {FF : List R3} {c : Nat} {W w1 w2 : World} (h : St w0 T sb gb FF c W) {g : Nat → Option Value} (hgm : Gm W gb c g) (hrows : Rows w0.heap.size FF g W) {p : Nat} (hp : p ≤ 16383) {r : R3} (hr : r.1.dpc = (p : Int)) (hok : r.1.Ok) (hsrv : Srv W r.2.1 r.2.2)
    {gg cap : Nat} (hown : w1.ownsRow w0.heap.size 83 7 (.slice (some ⟨gg, 0, none⟩) ((sel FF p).length + 1) cap) ((sel FF p).length + 1) (((sel FF p).flatMap fun r => routeCells (pr r)) ++ routeCells (pr r)))
    (hg1 : W.grownBy w1 (Value.ownBlock ((g p).getD (.slice none 0 0)))) (hga : Value.ownBlock ((g p).getD (.slice none 0 0)) = some gg ∨ gg = W.heap.size)
    (hgm2 : Gm w2 gb (c + 1) (fun q => if q = p then some (.slice (some ⟨gg, 0, none⟩) ((sel FF p).length + 1) cap) else g q)) (hg2 : w1.grownBy w2 (some gb)) : St w0 T sb gb (FF ++ [r]) (c + 1) w2 := by
  obtain ⟨es, k, hblk⟩ := hgm.blk
  obtain ⟨es', k', hblk'⟩ := h.sm.blk
  have hlt := h.sb_lt
  have hgb := h.gbl
  have hgbW := hgm.lt
  have hsz := h.size
  -- the row that was appended to: a block of cells of type 83, of the call's own
  have hrow : ∀ b, Value.ownBlock ((g p).getD (.slice none 0 0)) = some b → w0.heap.size ≤ b ∧ ∃ cur, W.heap[b]? = some (.cells cur 83 (0, 0)) := by
    intro b hb
    cases hgp : g p with
    | none => rw [hgp] at hb; simp [Value.ownBlock] at hb
    | some v =>
      have hne : sel FF p ≠ [] := fun e => by rw [hrows.none_ p hp e] at hgp; cases hgp
      obtain ⟨rb, cp, h1, h2⟩ := hrows.some_ p hp hne
      rw [hgp] at h1 hb
      cases h1
      simp [Value.ownBlock] at hb
      subst hb
      rcases h2.2 with ⟨e0, _⟩ | ⟨g', c', cur, e0, hb0, hh, _⟩
      · cases e0
      · cases e0; exact ⟨hb0, cur, hh⟩
  have hb1 : ∀ b, Value.ownBlock ((g p).getD (.slice none 0 0)) = some b → b ≠ gb ∧ b ≠ sb := fun b hb => by
    obtain ⟨h1, cur, h2⟩ := hrow b hb
    refine ⟨fun e => ?_, fun e => by omega⟩
    rw [e, hblk] at h2
    cases h2
  have hgb1 : ∃ es k, w1.heap[gb]? = some (.map es k) := ⟨es, k, by rw [hg1.block gb hgbW (fun e => (hb1 gb e.symm).1 rfl)]; exact hblk⟩
  obtain ⟨es1, k1, hgb1⟩ := hgb1
  have hgglt := (hown.lt gg rfl).2
  refine ⟨hg2.os.trans (hg1.os.trans h.os), hg2.tape.trans (hg1.tape.trans h.tape), hg2.output.trans (hg1.output.trans h.output), Nat.le_trans hsz (Nat.le_trans hg1.size hg2.size), ?_, h.map0, hgb, ?_, ⟨_, hgm2, ?_⟩, ?_⟩
  · intro b hb hne
    have e1 := hg1.block b (Nat.lt_of_lt_of_le hb hsz) (fun e => by have := (hrow b e.symm).1; omega)
    have e2 := hg2.block b (Nat.lt_of_lt_of_le (Nat.lt_of_lt_of_le hb hsz) hg1.size) (by simp; omega)
    exact e2.trans (e1.trans (h.old b hb hne))
  · exact ((h.sm.kept hg1 (fun e => (hb1 sb e.symm).2 rfl)).kept hg2 (by simp; omega)).mono (by omega)
  · refine ⟨fun q hq he => ?_, fun q hq hne => ?_, fun q q' v u hqq hv hu => ?_, fun q hq => ?_⟩
    · rw [sel_snoc] at he
      by_cases e : q = p
      · subst e; rw [if_pos hr] at he; simp at he
      · rw [if_neg e]
        rw [if_neg (by rw [hr]; omega)] at he
        exact hrows.none_ q hq he
    · rw [sel_snoc]
      by_cases e : q = p
      · subst e
        rw [if_pos rfl, if_pos hr]
        refine ⟨gg, cap, by simp, ?_⟩
        have := hown.kept hg2 (Or.inr (by
          intro e
          have e' : gg = gb := by simpa [Value.ownBlock] using e
          rcases hown.2 with ⟨e0, _⟩ | ⟨g', c', cur, e0, _, hh, _⟩
          · cases e0
          · cases e0
            rw [e', hgb1] at hh
            cases hh))
        simpa using this
      · rw [if_neg e, if_neg (by rw [hr]; omega)]
        rw [sel_snoc, if_neg (by rw [hr]; omega)] at hne
        obtain ⟨rb, cp, h1, h2⟩ := hrows.some_ q hq hne
        have hbq : ∃ cur, W.heap[rb]? = some (.cells cur 83 (0, 0)) := by
          rcases h2.2 with ⟨e0, _⟩ | ⟨g', c', cur, e0, _, hh, _⟩
          · cases e0
          · cases e0; exact ⟨cur, hh⟩
        obtain ⟨cur, hbq⟩ := hbq
        refine ⟨rb, cp, h1, (h2.kept hg1 (Or.inr ?_)).kept hg2 (Or.inr ?_)⟩
        · intro e2
          cases hgp : g p with
          | none => rw [hgp] at e2; simp [Value.ownBlock] at e2
          | some v =>
            rw [hgp] at e2
            exact hrows.apart q p _ v e h1 hgp e2
        · intro e2
          have e' : rb = gb := by simpa [Value.ownBlock] using e2
          rw [e', hblk] at hbq
          cases hbq
    · have key : ∀ q v, q ≠ p → g q = some v → v.ownBlock ≠ some gg := by
        intro q v hq hv e
        by_cases hq2 : q ≤ 16383
        · have hne : sel FF q ≠ [] := fun e0 => by rw [hrows.none_ q hq2 e0] at hv; cases hv
          obtain ⟨rb, cp, h1, h2⟩ := hrows.some_ q hq2 hne
          have hl := (h2.lt rb rfl).2
          obtain rfl := Option.some.inj (hv.symm.trans h1)
          have e' : rb = gg := by simpa [Value.ownBlock] using e
          subst e'
          rcases hga with h3 | h3
          · cases hgp : g p with
            | none => rw [hgp] at h3; simp [Value.ownBlock] at h3
            | some v' =>
              rw [hgp] at h3
              exact hrows.apart q p _ v' hq h1 hgp (by rw [e]; exact h3.symm)
          · omega
        · rw [hrows.far q (by omega)] at hv; cases hv
      by_cases e1 : q = p
      · subst e1
        rw [if_pos rfl] at hv
        cases hv
        rw [if_neg (fun e => hqq e.symm)] at hu
        exact fun e => key q' u (fun e => hqq e.symm) hu e.symm
      · rw [if_neg e1] at hv
        by_cases e2 : q' = p
        · subst e2
          rw [if_pos rfl] at hu
          cases hu
          exact key q v e1 hv
        · rw [if_neg e2] at hu
          exact hrows.apart q q' v u hqq hv hu
    · rw [if_neg (by omega)]
      exact hrows.far q hq
  · intro x hx
    have tr : ∀ b rc, Srv W b rc → Srv w2 b rc := fun b rc hs => (hs.kept hg1 (fun b' e cur z => by obtain ⟨_, cur', h2⟩ := hrow b' e; rw [h2]; intro e; cases e)).kept hg2 (fun b' e cur z => by cases e; rw [hgb1]; simp)
    rcases List.mem_append.1 hx with hx | hx
    · exact ⟨(h.srv x hx).1, tr _ _ (h.srv x hx).2⟩
    · simp at hx
      subst hx
      exact ⟨hok, tr _ _ hsrv⟩
end Go.Proofs.Ybulkaily
