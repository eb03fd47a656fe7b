/-
  The closure 'item' (function 5) by its contract.
-/
import Derived.Test.YbulkailyFmtFold
import Derived.BigQuiet
import Derived.Deep.QuietTactic
import Derived.Deep.Draws
namespace Go.Proofs.YbulkailyFmt
open Go.RowKit

/-- The captured variables, as the closure finds them: blocks B .. B+6. 'k': the count of calls. -/
structure Env (B b off len cap : Nat) (l : List Int) (size : Nat) (failAt : Int) (k : Nat) (w : World) : Prop where
  cb : w.cell? ⟨B, 0, none⟩ = some (.slice (some ⟨b, off, none⟩) len cap)
  cs : w.cell? ⟨B + 1, 0, none⟩ = some (.int .i64 size)
  cf : w.cell? ⟨B + 2, 0, none⟩ = some (.int .i64 failAt)
  ce : w.cell? ⟨B + 4, 0, none⟩ = some (.iface 34 (.pointer (some ⟨B + 3, 0, none⟩)))
  cc : w.cell? ⟨B + 5, 0, none⟩ = some (.int .i64 k)
  fc : w.frozen? ⟨B + 5, 0, none⟩ = false
  cd : w.cell? ⟨B + 6, 0, none⟩ = some (.bool false)
  bytes : ∀ j, j < len → w.cell? ⟨b, off + j, none⟩ = some (.int .u8 (l.getD j 0))

/-- The chunk that begins at i. -/
def chunk (l : List Int) (i size : Nat) : List Int := (l.drop i).take size

theorem chunk_len (l : List Int) (i size : Nat) (h : i + size ≤ l.length) : (chunk l i size).length = size := by
  simp [chunk]; omega
theorem chunk_at (l : List Int) (i size j : Nat) (h : j < size) : (chunk l i size)[j]?.getD 0 = l[i + j]?.getD 0 := by
  simp [chunk, h, List.getElem?_drop]

/-- What the closure answers. -/
def itemOut (l : List Int) (size : Nat) (failAt : Int) (k : Nat) (B : Nat) : Value :=
  if (k : Int) = failAt then .tuple #[.int .u32 0, .iface 34 (.pointer (some ⟨B + 3, 0, none⟩))] else .tuple #[.int .u32 (foldL (chunk l (k * size) size)), .nilIface]

set_option maxHeartbeats 1600000 in
theorem item_any (B b off len cap : Nat) (l : List Int) (size : Nat) (failAt : Int) (k i cap' : Nat) (w : World)
    (hE : Env B b off len cap l size failAt k w) (hbB : b < B) (hl : l.length = len) (hlen : len ≤ 1024) (hs1 : 1 ≤ size) (hs8 : size ≤ 8)
    (hki : (k : Int) * (size : Int) = (i : Int)) (hil : i + size ≤ len) (hk : k ≤ 1024)
    (hby : ∀ k : Nat, 0 ≤ l[k]?.getD 0 ∧ l[k]?.getD 0 ≤ 255) :
    Calls Ybaf.prog 5 #[.slice (some ⟨b, off + i, none⟩) size cap', .pointer (some ⟨B + 5, 0, none⟩), .pointer (some ⟨B + 1, 0, none⟩), .pointer (some ⟨B, 0, none⟩), .pointer (some ⟨B + 6, 0, none⟩), .pointer (some ⟨B + 2, 0, none⟩), .pointer (some ⟨B + 4, 0, none⟩)] w
      fun e w' => e = .returned (itemOut l size failAt k B) ∧ ∃ n, w' = (w.setCell ⟨B + 5, 0, none⟩ (.int .i64 ((k : Int) + 1))).drewN n := by
  obtain ⟨cb, cs, cf, ce, cc, fc, cd, bytes⟩ := hE
  have hne : ((size : Int) != (size : Int)) = false := by simp
  have hle : ¬ ((i : Int) + (size : Int) > (len : Int)) := by omega
  go_enter Ybaf.func5, Ybaf.ntmps5
  go_wp2
  go_loopw [11] (fun j wr => ∃ m n : Nat, m ≤ size ∧ j = .int .i64 m ∧ wr = (w.setCell ⟨B + 5, 0, none⟩ (.int .i64 ((k : Int) + 1))).drewN n) (fun j _ => size - (intOf j).toNat)
  case atStart => exact ⟨0, 0, Nat.zero_le _, rfl, rfl⟩
  case round =>
    obtain ⟨m, n, hm, rfl, hwr⟩ := hrel
    have cb' : wr.cell? ⟨B, 0, none⟩ = some (.slice (some ⟨b, off, none⟩) len cap) := by rw [hwr]; simp [go_sem, cb]
    have cs' : wr.cell? ⟨B + 1, 0, none⟩ = some (.int .i64 size) := by rw [hwr]; simp [go_sem, cs]
    have cf' : wr.cell? ⟨B + 2, 0, none⟩ = some (.int .i64 failAt) := by rw [hwr]; simp [go_sem, cf]
    have ce' : wr.cell? ⟨B + 4, 0, none⟩ = some (.iface 34 (.pointer (some ⟨B + 3, 0, none⟩))) := by rw [hwr]; simp [go_sem, ce]
    have by' : ∀ j, j < len → wr.cell? ⟨b, off + j, none⟩ = some (.int .u8 (l.getD j 0)) := by
      intro j hj; rw [hwr]
      simp [go_sem, bytes j hj]
    have HW : Hid (wr = (w.setCell ⟨B + 5, 0, none⟩ (.int .i64 ((k : Int) + 1))).drewN n) := hwr
    clear hwr cb cs cf ce cc fc cd bytes
    by_cases hlt : m < size
    · have h1 : wr.cell? ⟨b, off + i + m, none⟩ = some (.int .u8 (l.getD (i + m) 0)) := by
        have := by' (i + m) (by omega)
        rw [← Nat.add_assoc] at this; exact this
      have h2 : wr.cell? ⟨b, off + (i + m), none⟩ = some (.int .u8 (l.getD (i + m) 0)) := by' (i + m) (by omega)
      have e1 : ((i : Int) + (m : Int)).toNat = i + m := by omega
      clear by' hby
      go_wp2
      go_quiet (fail)
      go_wp2
      go_roundw
      case rel => exact ⟨m + 1, _, by omega, by go_num, by rw [HW.out]; exact World.drewN_drewN _ _ _⟩
      case measure => simp [intOf]; omega
    · have hkk := chunk_len l i size (by omega)
      by_cases hf : (k : Int) = failAt
      · have hfb : ((k : Int) == failAt) = true := by simp [hf]
        have HF : Hid ((k : Int) = failAt) := hf
        clear hf
        go_wp2
        go_quiet (fail)
        go_wp2
        go_ret2
        refine ⟨?_, _, by rw [HW.out]; exact World.drewN_drewN _ _ _⟩
        unfold itemOut
        rw [if_pos HF.out]
        rfl
      · have hfb : ((k : Int) == failAt) = false := by simp [hf]
        have hch : ∀ t : Nat, t < size → wr.cell? ⟨b, off + i + t, none⟩ = some (.int .u8 ((chunk l i size).getD t 0)) := by
          intro t ht
          have := by' (i + t) (by omega)
          rw [← Nat.add_assoc] at this
          rw [this]
          have e2 := chunk_at l i size t ht
          simp only [List.getD_eq_getElem?_getD]
          rw [e2]
        have hcb : ∀ t : Nat, 0 ≤ (chunk l i size)[t]?.getD 0 ∧ (chunk l i size)[t]?.getD 0 ≤ 255 := by
          intro t
          by_cases ht : t < size
          · rw [chunk_at l i size t ht]; exact hby _
          · rw [List.getElem?_eq_none (by omega)]; simp
        have HC : Hid (∀ t : Nat, t < size → wr.cell? ⟨b, off + i + t, none⟩ = some (.int .u8 ((chunk l i size).getD t 0))) := hch
        have HB : Hid (∀ t : Nat, 0 ≤ (chunk l i size)[t]?.getD 0 ∧ (chunk l i size)[t]?.getD 0 ≤ 255) := hcb
        have HK : Hid ((chunk l i size).length = size) := hkk
        clear hch hcb hkk hby by'
        go_wp2_with (go_at_call 6; refine (fold_any b (off + i) size _ (chunk l i size) _ HK.out (by omega) HB.out HC.out).mono ?_; rintro e w' ⟨rfl, rfl⟩)
        go_ret2
        refine ⟨?_, _, HW.out⟩
        unfold itemOut
        rw [if_neg hf]
        have hn : k * size = i := by
          have : ((k * size : Nat) : Int) = (i : Int) := by rw [Int.natCast_mul]; exact hki
          omega
        rw [hn]
        rfl
end Go.Proofs.YbulkailyFmt
