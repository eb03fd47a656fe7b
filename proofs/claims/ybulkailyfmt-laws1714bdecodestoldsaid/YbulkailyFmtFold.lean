/-
  'zzs1714bfold' by its contract: a fold over the bytes of a slice. It only reads: the world stands.
-/
import Derived.Test.YbulkailyFmtRows
import Derived.WalkKit
import Derived.WalkSpells
import Derived.WalkLawsBesides
namespace Go.Proofs.YbulkailyFmt
open Go.RowKit

/-- One step of the fold, as a uint32. -/
def fstep (v c : Int) : Int := (v * 31 + c) % 4294967296
/-- The fold over a list of bytes. -/
def foldL (l : List Int) : Int := l.foldl fstep (l.length : Int)
/-- The fold after k rounds. -/
def foldK (l : List Int) (k : Nat) : Int := (l.take k).foldl fstep (l.length : Int)

theorem foldK_zero (l : List Int) : foldK l 0 = l.length := by simp [foldK]
theorem foldK_succ (l : List Int) (k : Nat) (h : k < l.length) : foldK l (k + 1) = fstep (foldK l k) (l.getD k 0) := by
  unfold foldK
  rw [List.take_succ_eq_append_getElem h, List.foldl_append]
  simp [h]
theorem foldK_all (l : List Int) (k : Nat) (h : l.length ≤ k) : foldK l k = foldL l := by
  unfold foldK foldL
  rw [List.take_of_length_le h]
theorem foldK_bd (l : List Int) (hl : l.length ≤ 1024) : ∀ k, k ≤ l.length → 0 ≤ foldK l k ∧ foldK l k < 4294967296 := by
  intro k
  induction k with
  | zero => intro _; rw [foldK_zero]; omega
  | succ k ih =>
    intro h
    rw [foldK_succ l k (by omega)]
    unfold fstep
    omega

theorem ret_int {k : IntKind} {a b : Int} (h : a = b) : Ending.returned (.int k a) = .returned (.int k b) := by rw [h]

set_option maxHeartbeats 400000 in
theorem fold_any (b off len cap : Nat) (l : List Int) (w : World) (hl : l.length = len) (hb : len ≤ 1024)
    (hby : ∀ k : Nat, 0 ≤ l[k]?.getD 0 ∧ l[k]?.getD 0 ≤ 255)
    (hc : ∀ k, k < len → w.cell? ⟨b, off + k, none⟩ = some (.int .u8 (l.getD k 0))) :
    Calls Ybaf.prog 6 #[.slice (some ⟨b, off, none⟩) len cap] w fun e w' => e = .returned (.int .u32 (foldL l)) ∧ w' = w := by
  go_enter Ybaf.func6, Ybaf.ntmps6
  go_wp2
  go_loop [3, 4] (fun v j => ∃ k : Nat, k ≤ len ∧ j = .int .i64 k ∧ v = .int .u32 (foldK l k)) (fun _ j => len - (intOf j).toNat)
  case atStart => exact ⟨0, Nat.zero_le _, rfl, by rw [foldK_zero, hl]⟩
  case round =>
    obtain ⟨k, hk, rfl, rfl⟩ := hrel
    have hcell := hc k
    have hbk := hby k
    have hfb := foldK_bd l (by omega) k (by omega)
    by_cases hlt : k < len
    · have hs := foldK_succ l k (by omega)
      have HS : Hid (foldK l (k + 1) = fstep (foldK l k) (l.getD k 0)) := hs
      clear hs
      have hcell' := hcell hlt
      clear hcell hc hby
      go_wp2
      go_round
      case rel =>
        refine ⟨k + 1, by omega, by go_num, ?_⟩
        rw [HS.out]
        have hg : l.getD k 0 = l[k]?.getD 0 := by simp
        have hg2 : l[k]?.getD 0 = l[k]'(by omega) := by simp [show k < l.length by omega]
        refine congrArg (Value.int .u32) ?_
        rw [hg, hg2] at *
        unfold fstep
        omega
      case measure => simp [intOf]; omega
    · clear hcell hc
      go_wp2
      go_ret
      exact ⟨ret_int (foldK_all l k (by omega)), rfl⟩
end Go.Proofs.YbulkailyFmt
