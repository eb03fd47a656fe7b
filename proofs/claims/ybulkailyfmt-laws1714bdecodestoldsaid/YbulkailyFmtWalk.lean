/-
  The law's walk, whole: every input.
-/
import Derived.Test.YbulkailyFmtGood
import Derived.ProofKit
import Derived.OpenShut
namespace Go.Proofs.YbulkailyFmt
open Go.ChangeShapes Go.WideShapes Go.ChangeAt Go.RowKit
open Go.Extern.Stop Go.Stop Go.Extern

/-- A slice of bytes that came in: nil; or a row of 'cap' cells, the numbers 'zs'. -/
def IsRow (k : IntKind) (w : World) (a : Option Addr) (len cap : Nat) (zs : List Int) : Prop :=
  (a = none ∧ len = 0 ∧ cap = 0 ∧ zs = []) ∨
  ∃ x, a = some x ∧ len ≤ cap ∧ cap ≤ maxLen ∧ zs.length = cap ∧ (∀ i, i < zs.length → w.cell? (x.add i) = some (.int k (zs.getD i 0))) ∧ ∀ n ∈ zs, (Lit.int k n).wf = true

theorem walk (F : Interp) (a0 : Option Addr) (len cap : Nat) (zs : List Int) (s fail : Int) (w : World) (hF : F.answers w.tape)
    (w0 : IsRow .u8 w a0 len cap zs) (ws : (Lit.int .u8 s).wf = true) (wf : (Lit.int .u16 fail).wf = true) :
    Calls Ybaf.prog 3 #[.slice a0 len cap, .int .u8 s, .int .u16 fail] w fun e w' => e = .returned (.bool true) ∧ Below w.heap.size w w' := by
  have bs := bounds_u8 ws
  have bf := bounds_u16 wf
  obtain ⟨size, hsize⟩ : ∃ size : Nat, (size : Int) = s % 8 + 1 := ⟨(s % 8 + 1).toNat, by omega⟩
  have hs1 : 1 ≤ size := by omega
  have hs8 : size ≤ 8 := by omega
  obtain ⟨n, hn⟩ : ∃ n : Nat, n = len / size := ⟨_, rfl⟩
  have hdiv : (len : Int) / (size : Int) = (n : Int) := by rw [hn]; exact (Int.natCast_ediv len size).symm
  have hm : len ≤ maxLen := by
    rcases w0 with ⟨_, h, _⟩ | ⟨_, _, h1, h2, _⟩ <;> unfold maxLen at * <;> omega
  by_cases hlong : 1024 < len
  · exact law_long a0 len cap s fail w hlong hm
  by_cases hbad : len = 0 ∨ len % size ≠ 0
  · exact law_bad F a0 len cap s fail size n w hF (by omega) hsize.symm hs1 hs8 bs.1 (by omega) bf.1 (by omega) hdiv hbad
  have hmod : len % size = 0 := by omega
  have hns : n * size = len := by
    have := Nat.div_add_mod len size
    rw [hn, Nat.mul_comm]; omega
  have hl0 : 1 ≤ len := by omega
  have hn1 : 1 ≤ n := by
    apply Classical.byContradiction
    intro h
    have : n = 0 := by omega
    rw [this] at hns; omega
  rcases w0 with ⟨rfl, rfl, rfl, rfl⟩ | ⟨x, rfl, hl, _, hz, hcell, hwz⟩
  · omega
  obtain ⟨b, off, spot⟩ := x
  have hc := hcell 0 (by omega)
  have hspot : spot = none := by simpa [Addr.add] using World.cell?_spot hc
  subst hspot
  have hbs : b < w.heap.size := by
    have h1 : w.cell? ⟨b, off + 0, none⟩ = some (.int .u8 (zs.getD 0 0)) := by simpa [Addr.add] using hc
    apply Classical.byContradiction
    intro h
    have h2 : w.heap[b]? = none := by simp; omega
    simp [World.cell?, h2] at h1
  have hcz : ∀ j, j < len → w.cell? ⟨b, off + j, none⟩ = some (.int .u8 ((zs.take len).getD j 0)) := by
    intro j hj
    have h1 : w.cell? ⟨b, off + j, none⟩ = some (.int .u8 (zs.getD j 0)) := by have := hcell j (by omega); rw [Addr.add_lit] at this; exact this
    rw [h1]
    simp [hj]
  have hlt : (zs.take len).length = len := by rw [List.length_take]; omega
  have hby : ∀ k : Nat, 0 ≤ (zs.take len)[k]?.getD 0 ∧ (zs.take len)[k]?.getD 0 ≤ 255 :=
    range_u8 (fun x hx => hwz x (List.mem_of_mem_take hx))
  have hob : (fail % 2 == 1) = true ∨ (fail % 2 == 1) = false := by cases (fail % 2 == 1) <;> simp
  rcases hob with hob | hob
  · refine law_odd b off len cap (zs.take len) s fail size n _ w (by omega) hsize.symm hs1 hs8 bs.1 (by omega) bf.1 (by omega) hdiv rfl ?_ hob hns hn1 hlt hl hbs hby hcz
    apply Int.tmod_nonneg
    rw [Int.tdiv_eq_ediv_of_nonneg bf.1, IntKind.wrap_u16]
    unfold wrap64
    omega
  · exact law_even b off len cap (zs.take len) s fail size n w (by omega) hsize.symm hs1 hs8 bs.1 (by omega) bf.1 (by omega) hdiv hob hns hn1 hlt hl hbs hby hcz
end Go.Proofs.YbulkailyFmt
