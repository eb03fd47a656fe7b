/-
  What was drawn, read out of the arguments.
-/
import Derived.Test.YbulkailyBuildParts
import Derived.ProofKit
import Derived.Deep.Slices
import Derived.SizedLaws
namespace Go.Proofs.Ybulkaily
open Go.RowKit Go.ChangeShapes Go.WideShapes Go.ChangeAt Go.Deep

/-- What was drawn, as memory holds it. -/
def InV (w : World) (v : Value) (I : List (Int × List Z)) : Prop := (v = .slice none 0 0 ∧ I = []) ∨ ∃ a cap, v = .slice (some a) I.length cap ∧ I.length ≤ 9223372036854775807 ∧ ∀ i, i < I.length → ∃ x, I[i]? = some x ∧ InAt a i x w

theorem cells5 : Yba.prog.cellsOf 5 = 1 := by kernel_rfl
theorem cells23 : Yba.prog.cellsOf 23 = 1 := by kernel_rfl
theorem cells32 : Yba.prog.cellsOf 32 = 1 := by kernel_rfl
theorem cells35 : Yba.prog.cellsOf 35 = 1 := by kernel_rfl
theorem cells37 : Yba.prog.cellsOf 37 = 2 := by kernel_rfl
theorem cells40 : Yba.prog.cellsOf 40 = 7 := by kernel_rfl
theorem bytes40 : Yba.prog.bytesOf 40 = 20 := by kernel_rfl

theorem wf_u8 {x : Int} (h : (Lit.int .u8 x).wf = true) : 0 ≤ x ∧ x ≤ 255 := by simp [Lit.wf] at h; exact h
theorem wf_u16 {x : Int} (h : (Lit.int .u16 x).wf = true) : 0 ≤ x ∧ x ≤ 65535 := by simp [Lit.wf] at h; exact h
theorem wf_u32 {x : Int} (h : (Lit.int .u32 x).wf = true) : 0 ≤ x ∧ x ≤ 4294967295 := by simp [Lit.wf] at h; exact h

section
variable {H : Type} {enc : TypeId × Value → H} {w : World}

theorem fld {t : TypeId} {k : IntKind} {m : Nat} {cs : List Value} {xs : List (DataW H × List MemPlace)} {i : Nat} (hu : Yba.prog.underlying t = some (.int k)) (hc : Yba.prog.cellsOf t = 1)
    (h : DataW.trod enc Yba.prog w 0 (fun _ => true) true m t ((cs.drop i).take (Yba.prog.cellsOf t)) = xs[i]?) (hi : i < xs.length) (hl : i < cs.length) : ∃ x, cs[i]? = some (.int k x) ∧ (Lit.int k x).wf = true := by
  rw [hc, List.getElem?_eq_getElem hi] at h
  obtain ⟨n, h1, _, h2⟩ := DataW.trod_int hu h
  refine ⟨n, ?_, h2⟩
  have : (cs.drop i).take 1 = [cs[i]] := by rw [List.drop_eq_getElem_cons hl]; rfl
  rw [this] at h1
  rw [List.getElem?_eq_getElem hl]
  simpa using h1

theorem open_key {n : Nat} {cs : List Value} {x : DataW H × List MemPlace} (h : DataW.trod enc Yba.prog w 0 (fun _ => true) true n 40 cs = some x) : ∃ z : Z, z.Ok ∧ ∀ (t : Nat) (v : Value), z.cells[t]? = some v → cs[t]? = some v := by
  obtain ⟨xs, m, _, _, hl, hx, hf⟩ := DataW.trod_struct Yba.underlying40 h
  rw [cells40] at hl
  have hx : xs.length = 7 := hx
  obtain ⟨a0, g0, b0⟩ := fld (i := 0) Yba.underlying5 cells5 (hf 0 _ rfl) (by omega) (by omega)
  obtain ⟨a1, g1, b1⟩ := fld (i := 1) Yba.underlying23 cells23 (hf 1 _ rfl) (by omega) (by omega)
  obtain ⟨a2, g2, b2⟩ := fld (i := 2) Yba.underlying23 cells23 (hf 2 _ rfl) (by omega) (by omega)
  obtain ⟨a3, g3, b3⟩ := fld (i := 3) Yba.underlying5 cells5 (hf 3 _ rfl) (by omega) (by omega)
  obtain ⟨a4, g4, b4⟩ := fld (i := 4) Yba.underlying32 cells32 (hf 4 _ rfl) (by omega) (by omega)
  obtain ⟨a5, g5, b5⟩ := fld (i := 5) Yba.underlying32 cells32 (hf 5 _ rfl) (by omega) (by omega)
  obtain ⟨a6, g6, b6⟩ := fld (i := 6) Yba.underlying5 cells5 (hf 6 _ rfl) (by omega) (by omega)
  refine ⟨⟨a0, a1, a2, a3, a4, a5, a6⟩, ⟨(wf_u8 b0).1, (wf_u8 b0).2, (wf_u32 b1).1, (wf_u32 b1).2, (wf_u32 b2).1, (wf_u32 b2).2, (wf_u8 b3).1, (wf_u8 b3).2, (wf_u16 b4).1, (wf_u16 b4).2, (wf_u16 b5).1, (wf_u16 b5).2, (wf_u8 b6).1, (wf_u8 b6).2⟩, ?_⟩
  intro t v ht
  match t, ht with
  | 0, ht => cases ht; exact g0
  | 1, ht => cases ht; exact g1
  | 2, ht => cases ht; exact g2
  | 3, ht => cases ht; exact g3
  | 4, ht => cases ht; exact g4
  | 5, ht => cases ht; exact g5
  | 6, ht => cases ht; exact g6
  | t + 7, ht => simp [Z.cells] at ht

theorem open_keys {n : Nat} {c : Value} {x : DataW H × List MemPlace} (h : DataW.trod enc Yba.prog w 0 (fun _ => true) true n 35 [c] = some x) (hw : ∀ n ∈ x.1.weights Yba.prog 35, n ≤ reachBytes) :
    ∃ (zs : List Z) (b : Option Addr) (cap : Nat), c = .slice b zs.length cap ∧ zs.length ≤ 10000000000000 ∧ ∀ j, j < zs.length → ∃ z d, zs[j]? = some z ∧ b = some d ∧ d.block < w.heap.size ∧ z.Ok ∧ ∀ t v, z.cells[t]? = some v → w.cell? ((d.add (j * 7)).add t) = some v := by
  rcases open_slice Yba.underlying35 h with ⟨h1, _⟩ | ⟨a, len, cap, m, k, D, Pl, h1, _, hl, _, hm, rfl, hx⟩
  · simp at h1
    exact ⟨[], none, 0, h1, by simp, fun j hj => by simp at hj⟩
  · simp at h1 hm
    have hlen : (len + (m - len)) * 20 ≤ reachBytes := by
      have := hw ((len + (m - len)) * 20) (by simp [DataW.weights, Yba.underlying35, bytes40])
      exact this
    have hlen2 : len ≤ 10000000000000 := by unfold reachBytes at hlen; omega
    rw [cells40] at hx
    have hz : ∀ j, j < len → ∃ z : Z, z.Ok ∧ ∀ t v, z.cells[t]? = some v → w.cell? ((a.add (j * 7)).add t) = some v := by
      intro j hj
      obtain ⟨cs', h2, h3⟩ := hx j (by omega)
      obtain ⟨z, h4, h5⟩ := open_key h3
      obtain ⟨_, h6, h7⟩ := World.cells?_some h2
      refine ⟨z, h4, fun t v ht => ?_⟩
      have ht7 : t < 7 := (List.getElem?_eq_some_iff.1 ht).1
      rw [h7 t ht7]
      exact h5 t v ht
    haveI : Inhabited Z := ⟨⟨0, 0, 0, 0, 0, 0, 0⟩⟩
    obtain ⟨f, hf⟩ := choose_lt hz
    refine ⟨(List.range len).map f, some a, cap, by simpa using h1, by simpa using hlen2, fun j hj => ?_⟩
    have hj' : j < len := by simpa using hj
    obtain ⟨h4, h5⟩ := hf j hj'
    refine ⟨f j, a, by simp [hj'], rfl, ?_, h4, h5⟩
    have := World.block_lt_of_cell? w _ (h5 0 _ rfl)
    rw [add_block, add_block] at this
    exact this

theorem weightsAll_in {e : TypeId} : ∀ {l : List (DataW H)} {d : DataW H}, d ∈ l → ∀ n ∈ d.weights Yba.prog e, n ∈ DataW.weightsAll Yba.prog e l
  | d' :: r, d, hd, n, hn => by
    simp only [DataW.weightsAll, List.mem_append]
    rcases List.mem_cons.1 hd with rfl | h
    · exact Or.inl hn
    · exact Or.inr (weightsAll_in h n hn)

theorem open_in {n : Nat} {c : Value} {x : DataW H × List MemPlace} (h : DataW.trod enc Yba.prog w 0 (fun _ => true) true n 22 [c] = some x) (hw : ∀ n ∈ x.1.weights Yba.prog 22, n ≤ reachBytes) : ∃ I, InV w c I := by
  rcases open_slice Yba.underlying22 h with ⟨h1, _⟩ | ⟨a, len, cap, m, k, D, Pl, h1, _, hl, hmx, hm, rfl, hx⟩
  · simp at h1
    exact ⟨[], Or.inl ⟨h1, rfl⟩⟩
  · simp at h1 hm
    rw [cells37] at hx
    have hz : ∀ i, i < len → ∃ x : Int × List Z, InAt a i x w := by
      intro i hi
      obtain ⟨cs', h2, h3⟩ := hx i (by omega)
      obtain ⟨y0, y1, k', hy, hl2, h4, h5⟩ := trod_struct2 Yba.underlying37 h3
      rw [cells37] at hl2
      obtain ⟨_, h6, h7⟩ := World.cells?_some h2
      match cs', hl2 with
      | [c0, c1], _ =>
        simp only [cells23, cells35] at h4 h5
        obtain ⟨rc, e1, _, hwf⟩ := DataW.trod_int Yba.underlying23 h4
        simp at e1
        subst e1
        have hww : ∀ n ∈ y1.1.weights Yba.prog 35, n ≤ reachBytes := by
          intro n hn
          refine hw n ?_
          have hD : D i = .agg [y0.1, y1.1] := congrArg Prod.fst hy
          simp only [DataW.weights, Yba.underlying22, List.mem_cons, List.mem_append]
          refine Or.inr (Or.inl (weightsAll_in (List.mem_map.2 ⟨i, List.mem_range.2 hi, hD⟩) n ?_))
          simp only [DataW.weights, Yba.underlying37, List.map_cons, List.map_nil, DataW.weightsEach, List.mem_append]
          exact Or.inr (Or.inl hn)
        obtain ⟨zs, b, kc, e2, hzl, hzs⟩ := open_keys h5 hww
        subst e2
        have hwr := wf_u32 hwf
        refine ⟨(rc, zs), b, kc, ?_, ?_, hwr.1, hwr.2, hzl, hzs⟩
        · have := h7 0 (by omega)
          simpa [Addr.add] using this
        · exact h7 1 (by omega)
    obtain ⟨f, hf⟩ := choose_lt hz
    refine ⟨(List.range len).map f, Or.inr ⟨a, cap, by simpa using h1, by simp; unfold maxLen at hmx; omega, fun i hi => ?_⟩⟩
    have hi' : i < len := by simpa using hi
    exact ⟨f i, by simp [hi'], hf i hi'⟩
end
end Go.Proofs.Ybulkaily
