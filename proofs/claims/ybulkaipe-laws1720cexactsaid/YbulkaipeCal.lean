/-
  The calendar's methods by their contracts.
-/
import Derived.Test.YbulkaipeRows
import Derived.Test.YbulkaipePlain
import Derived.WalkKit
import Derived.WalkSpells
import Derived.WalkLawsBesides
import Derived.BigQuiet
import Derived.Deep.QuietTactic
import Derived.Deep.Draws
namespace Go.Proofs.Ybulkaipe
open Go.RowKit

/-- A slice of bools, as its cells hold it. -/
structure Row (a : Option Addr) (len : Nat) (bs : List Bool) (w : World) : Prop where
  eqn : bs.length = len
  cells : len = 0 ∨ ∃ b off, a = some ⟨b, off, none⟩ ∧ b < w.heap.size ∧ ∀ j, j < len → w.cell? ⟨b, off + j, none⟩ = some (.bool (bs.getD j false))

/-- A calendar at block c. -/
structure Cal (c : Nat) (first : Int) (a : Option Addr) (len cap : Nat) (bs : List Bool) (w : World) : Prop where
  f0 : w.cell? ⟨c, 0, none⟩ = some (.int .i32 first)
  f1 : w.cell? ⟨c, 1, none⟩ = some (.int .i32 (first + len - 1))
  f2 : w.cell? ⟨c, 2, none⟩ = some (.slice a len cap)
  row : Row a len bs w
  lo : -32768 ≤ first
  hi : first ≤ 32767
  small : len ≤ 1024

theorem Row.below {a : Option Addr} {len : Nat} {bs : List Bool} {w w' : World} (h : Row a len bs w) (hb : Below w.heap.size w w') : Row a len bs w' where
  eqn := h.eqn
  cells := by
    rcases h.cells with h0 | ⟨b, off, rfl, hlt, hc⟩
    · exact Or.inl h0
    · have := hb.size
      exact Or.inr ⟨b, off, rfl, by omega, fun j hj => by rw [hb.cell hlt]; exact hc j hj⟩

theorem Cal.below {c : Nat} {first : Int} {a : Option Addr} {len cap : Nat} {bs : List Bool} {w w' : World} (h : Cal c first a len cap bs w) (hc : c < w.heap.size) (hb : Below w.heap.size w w') : Cal c first a len cap bs w' where
  f0 := by rw [hb.cell hc]; exact h.f0
  f1 := by rw [hb.cell hc]; exact h.f1
  f2 := by rw [hb.cell hc]; exact h.f2
  row := h.row.below hb
  lo := h.lo
  hi := h.hi
  small := h.small

theorem Cal.drewN {c : Nat} {first : Int} {a : Option Addr} {len cap : Nat} {bs : List Bool} {w : World} (h : Cal c first a len cap bs w) (n : Nat) : Cal c first a len cap bs (w.drewN n) :=
  ⟨h.f0, h.f1, h.f2, ⟨h.row.eqn, h.row.cells⟩, h.lo, h.hi, h.small⟩

theorem covers_any (c : Nat) (first : Int) (a : Option Addr) (len cap : Nat) (bs : List Bool) (d : Int) (w : World) (h : Cal c first a len cap bs w) :
    Calls Yba.prog 12 #[.pointer (some ⟨c, 0, none⟩), .int .i32 d] w fun e w' => e = .returned (.bool (Plain.cov first bs d)) ∧ w' = w := by
  obtain ⟨f0, f1, f2, row, lo, hi, small⟩ := h
  have hl := row.eqn
  have hcov : Plain.cov first bs d = (decide (first ≤ d) && decide (d ≤ first + len - 1)) := by unfold Plain.cov; rw [hl]
  rw [hcov]
  clear hcov row f2 hl
  by_cases h1 : first ≤ d
  · by_cases h2 : d ≤ first + len - 1
    · go_enter Yba.func12, Yba.ntmps12
      go_wp2
      go_ret
      exact ⟨by simp [h1, h2], rfl⟩
    · go_enter Yba.func12, Yba.ntmps12
      go_wp2
      go_ret
      exact ⟨by simp [h2], rfl⟩
  · go_enter Yba.func12, Yba.ntmps12
    go_wp2
    go_ret
    exact ⟨by simp; omega, rfl⟩

theorem covers_yes (c : Nat) (first : Int) (a : Option Addr) (len cap : Nat) (bs : List Bool) (d : Int) (w : World) (h : Cal c first a len cap bs w) (hc : Plain.cov first bs d = true) :
    Calls Yba.prog 12 #[.pointer (some ⟨c, 0, none⟩), .int .i32 d] w fun e w' => e = .returned (.bool true) ∧ w' = w := by
  have := covers_any c first a len cap bs d w h
  rw [hc] at this
  exact this
theorem covers_no (c : Nat) (first : Int) (a : Option Addr) (len cap : Nat) (bs : List Bool) (d : Int) (w : World) (h : Cal c first a len cap bs w) (hc : Plain.cov first bs d = false) :
    Calls Yba.prog 12 #[.pointer (some ⟨c, 0, none⟩), .int .i32 d] w fun e w' => e = .returned (.bool false) ∧ w' = w := by
  have := covers_any c first a len cap bs d w h
  rw [hc] at this
  exact this

set_option maxHeartbeats 800000 in
theorem isOpen_any (c : Nat) (first : Int) (a : Option Addr) (len cap : Nat) (bs : List Bool) (d : Int) (w : World) (h : Cal c first a len cap bs w) :
    Calls Yba.prog 9 #[.pointer (some ⟨c, 0, none⟩), .int .i32 d] w fun e w' => e = .returned (.bool (Plain.opn first bs d)) ∧ ∃ n, w' = w.drewN n := by
  have h' := h
  obtain ⟨f0, f1, f2, row, lo, hi, small⟩ := h
  have hl := row.eqn
  by_cases hc : Plain.cov first bs d = true
  · have hcc := hc
    unfold Plain.cov at hcc
    rw [hl] at hcc
    simp only [Bool.and_eq_true, decide_eq_true_eq] at hcc
    obtain ⟨h1, h2⟩ := hcc
    have hop : Plain.opn first bs d = bs.getD (d - first).toNat false := by unfold Plain.opn; rw [hc]; simp
    rw [hop]
    rcases row.cells with h0 | ⟨b, off, rfl, _, hcell⟩
    · omega
    obtain ⟨j, hj⟩ : ∃ j : Nat, d - first = (j : Int) := ⟨(d - first).toNat, by omega⟩
    have hj2 : (d - first).toNat = j := by omega
    rw [hj2]
    have hce := hcell j (by omega)
    have HC : Hid (Plain.cov first bs d = true) := hc
    have hjl : (j : Int) < (len : Int) := by omega
    have HA : Hid (Cal c first (some ⟨b, off, none⟩) len cap bs w) := h'
    clear hcell row hc hop h' hj2
    go_enter Yba.func9, Yba.ntmps9
    go_wp2
    go_quiet ((go_at_call 12; refine Calls.quiet_of_same (covers_yes c first (some ⟨b, off, none⟩) len cap bs d _ (HA.out.drewN _) HC.out)))
    go_wp2
    go_ret
    exact ⟨rfl, _, rfl⟩
  · have hcf : Plain.cov first bs d = false := by simpa using hc
    have hop : Plain.opn first bs d = false := by unfold Plain.opn; rw [hcf]; simp
    rw [hop]
    have HC : Hid (Plain.cov first bs d = false) := hcf
    have HA : Hid (Cal c first a len cap bs w) := h'
    clear hcf hc hop h' f0 f1 f2 row hl
    go_enter Yba.func9, Yba.ntmps9
    go_wp2
    go_quiet ((go_at_call 12; refine Calls.quiet_of_same (covers_no c first a len cap bs d _ (HA.out.drewN _) HC.out)))
    go_wp2
    go_ret
    exact ⟨rfl, _, rfl⟩

/-- What nextOpen hands back. -/
def nextV : Option Int → Value
  | some d => .tuple #[.int .i32 d, .bool true]
  | none => .tuple #[.int .i32 0, .bool false]

set_option maxHeartbeats 1600000 in
theorem nextOpen_any (c : Nat) (first : Int) (a : Option Addr) (len cap : Nat) (bs : List Bool) (due : Int) (w : World) (h : Cal c first a len cap bs w) (hd0 : -2147483648 ≤ due) (hd1 : due ≤ 2147483647) :
    Calls Yba.prog 11 #[.pointer (some ⟨c, 0, none⟩), .int .i32 due] w fun e w' => e = .returned (nextV (Plain.nxt first bs due)) ∧ ∃ n, w' = w.drewN n := by
  obtain ⟨f0, f1, f2, row, lo, hi, small⟩ := h
  have hl := row.eqn
  by_cases hlt : due < first
  · have hn : Plain.nxt first bs due = none := by unfold Plain.nxt; rw [if_pos hlt]
    rw [hn]
    clear hn row f2 f1
    go_enter Yba.func11, Yba.ntmps11
    go_wp2
    go_ret2
    exact ⟨rfl, 0, rfl⟩
  · have hn : Plain.nxt first bs due = Plain.nx bs first due := by unfold Plain.nxt; rw [if_neg hlt]
    obtain ⟨k0, hk0⟩ : ∃ k0 : Nat, due = first + k0 := ⟨(due - first).toNat, by omega⟩
    have hsk := Plain.nx_skip bs first due k0 (by omega)
    rw [hn, hsk]
    have HK : Hid (due = first + k0) := hk0
    clear hn hsk hk0
    have hlt' : first ≤ due := by omega
    go_enter Yba.func11, Yba.ntmps11
    go_wp2
    go_loopw [6] (fun d wr => ∃ k n : Nat, k0 ≤ k ∧ Hid ((k : Int) ≤ max len k0) ∧ d = .int .i32 (first + k) ∧ wr = w.drewN n ∧ Hid (Plain.nx (bs.drop k0) (first + k0) due = Plain.nx (bs.drop k) (first + k) due)) (fun d _ => (first + len - intOf d).toNat)
    case atStart => exact ⟨k0, 0, Nat.le_refl _, by show (k0 : Int) ≤ _; omega, by rw [HK.out], rfl, rfl⟩
    case round =>
      obtain ⟨k, n, hk, HM, rfl, hwr, HX⟩ := hrel
      have g0 : wr.cell? ⟨c, 0, none⟩ = some (.int .i32 first) := by rw [hwr]; exact f0
      have g1 : wr.cell? ⟨c, 1, none⟩ = some (.int .i32 (first + len - 1)) := by rw [hwr]; exact f1
      have g2 : wr.cell? ⟨c, 2, none⟩ = some (.slice a len cap) := by rw [hwr]; exact f2
      have hkb : (k : Int) ≤ 2147483647 + 32768 := by have := HM.out; have := HK.out; omega
      by_cases hkl : k < len
      · rcases row.cells with h0 | ⟨b, off, rfl, _, hcell⟩
        · omega
        have hce : wr.cell? ⟨b, off + k, none⟩ = some (.bool (bs.getD k false)) := by rw [hwr]; exact hcell k hkl
        have HW : Hid (wr = w.drewN n) := hwr
        have HD := Plain.nx_drop bs first due k (by omega)
        have hle : first + (k : Int) ≤ first + len - 1 := by omega
        have hdk : due ≤ first + (k : Int) := by have := HK.out; omega
        have hwk : IntKind.i32.wrap (first + (k : Int) - first) = (k : Int) := by
          rw [show first + (k : Int) - first = (k : Int) from by omega, IntKind.wrap_i32]; omega
        clear hwr f0 f1 f2 row hcell
        have hcase : bs.getD k false = true ∨ bs.getD k false = false := by cases bs.getD k false <;> simp
        rcases hcase with hb | hb
        · have HE : Hid (Plain.nx (bs.drop k) (first + k) due = some (first + k)) := by show _ = _; rw [HD, if_pos ⟨hdk, hb⟩]
          rw [hb] at hce
          clear HD hb
          go_wp2
          go_quiet (fail)
          go_wp2
          go_ret2
          exact ⟨by rw [HX.out, HE.out]; rfl, _, by rw [HW.out]; exact World.drewN_drewN _ _ _⟩
        · have HE : Hid (Plain.nx (bs.drop k) (first + k) due = Plain.nx (bs.drop (k + 1)) (first + (k + 1 : Nat)) due) := by show _ = _; rw [HD, if_neg (by intro h; rw [hb] at h; exact Bool.false_ne_true h.2)]
          rw [hb] at hce
          clear HD hb
          go_wp2
          go_quiet (fail)
          go_wp2
          go_roundw
          case rel => exact ⟨k + 1, _, by omega, by show ((k + 1 : Nat) : Int) ≤ _; omega, by go_num, by rw [HW.out]; exact World.drewN_drewN _ _ _, by show _ = _; rw [HX.out, HE.out]⟩
          case measure => simp [intOf]; omega
      · have hgt : ¬ first + (k : Int) ≤ first + len - 1 := by omega
        have HE : Hid (Plain.nx (bs.drop k) (first + k) due = none) := Plain.nx_end bs first due k (by omega)
        go_wp2
        go_ret2
        exact ⟨by rw [HX.out, HE.out]; rfl, _, rfl⟩
end Go.Proofs.Ybulkaipe
