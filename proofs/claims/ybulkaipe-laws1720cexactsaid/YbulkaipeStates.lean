/-
  The walk of LawS1720CStates (function 4).
-/
import Derived.Test.YbulkaipePay
namespace Go.Proofs.Ybulkaipe
open Go.RowKit

theorem pay_any (bb tc wc : Nat) (roll due tF : Int) (ta : Option Addr) (tl tcap : Nat) (tB : List Bool) (wF : Int) (wa : Option Addr) (wl wcap : Nat) (wB : List Bool) (w : World)
    (hb : w.cell? ⟨bb, 11, none⟩ = some (.int .i64 roll)) (hbb : bb < w.heap.size) (hT : Cal tc tF ta tl tcap tB w) (htc : tc < w.heap.size) (hW : Cal wc wF wa wl wcap wB w) (hwc : wc < w.heap.size) (hd0 : -2147483648 ≤ due) (hd1 : due ≤ 2147483647) :
    Calls Yba.prog 7 #[.pointer (some ⟨bb, 0, none⟩), .int .i32 due, .pointer (some ⟨tc, 0, none⟩), .pointer (some ⟨wc, 0, none⟩)] w fun e w' =>
      e = .returned (dv (Plain.pay roll due tF tB wF wB)) ∧ Below w.heap.size w w' := by
  unfold Plain.pay
  by_cases h0 : roll = 0
  · rw [if_pos h0]; subst h0
    exact pay_working bb tc wc due wF wa wl wcap wB w hb hbb hW hwc hd0 hd1
  · rw [if_neg h0]
    by_cases h1 : roll = 1
    · rw [if_pos h1]; subst h1
      exact pay_trading bb tc wc due tF ta tl tcap tB w hb hbb hT htc hd0 hd1
    · rw [if_neg h1]
      have h := pay_third bb tc wc roll due tF ta tl tcap tB wF wa wl wcap wB w hb (by simp [h0]) (by simp [h1]) hbb hW hwc hT htc _ _ _ _ rfl rfl rfl rfl (by unfold Plain.opn; cases Plain.cov wF wB due <;> simp) (by unfold Plain.opn; cases Plain.cov tF tB due <;> simp)
      exact h

theorem roll_any (r : Int) (w : World) (h0 : 0 ≤ r) (h1 : r ≤ 255) : Calls Yba.prog 5 #[.int .u8 r] w fun e w' => e = .returned (.int .i64 (r % 5 - 1)) ∧ w = w' := by
  go_enter Yba.func5, Yba.ntmps5
  go_wp2
  go_ret
  exact ⟨rfl, rfl⟩

theorem cal_any (first : Int) (a : Option Addr) (len cap : Nat) (w : World) (h0 : -32768 ≤ first) (h1 : first ≤ 32767) (h2 : len ≤ 1024) :
    Calls Yba.prog 6 #[.int .i16 first, .slice a len cap] w fun e w' => e = .returned (.pointer (some ⟨w.heap.size, 0, none⟩)) ∧ w' = w.alloc (.cells #[.int .i32 first, .int .i32 (first + len - 1), .slice a len cap] 50) := by
  go_enter Yba.func6, Yba.ntmps6
  go_wp2
  go_ret
  exact ⟨rfl, rfl⟩

/-- The bond that the law makes: its 25 cells. -/
def bondO (roll : Int) : Obj := .cells #[.string ⟨#[]⟩, .string ⟨#[]⟩, .int .i64 0, .string ⟨#[]⟩, .pointer none, .pointer none, .pointer none, .int .i32 0, .int .i32 0, .slice none 0 0, .slice none 0 0, .int .i64 roll, .pointer none, .int .i32 0, .int .i32 0, .pointer none, .pointer none, .pointer none, .int .i64 0, .pointer none, .pointer none, .pointer none, .slice none 0 0, .int .i32 0, .slice none 0 0] 39

section
variable (roll due wF : Int) (wa : Option Addr) (wl wcap : Nat) (wB : List Bool) (tF : Int) (ta : Option Addr) (tl tcap : Nat) (tB : List Bool) (w : World)

/-- The world at the call of paymentDate. -/
def madeW : World := ((w.alloc (bondO roll)).alloc (.cells #[.int .i32 wF, .int .i32 (wF + wl - 1), .slice wa wl wcap] 50)).alloc (.cells #[.int .i32 tF, .int .i32 (tF + tl - 1), .slice ta tl tcap] 50)

theorem made_size : (madeW roll wF wa wl wcap tF ta tl tcap w).heap.size = w.heap.size + 3 := by simp [madeW]
theorem made_below : Below w.heap.size w (madeW roll wF wa wl wcap tF ta tl tcap w) := by
  unfold madeW
  exact ((((Below.refl _ _).alloc (Nat.le_refl _) _).alloc (by simp) _).alloc (by simp; omega) _)
theorem made_bond : (madeW roll wF wa wl wcap tF ta tl tcap w).cell? ⟨w.heap.size, 11, none⟩ = some (.int .i64 roll) := by
  unfold madeW bondO
  simp [go_sem]
theorem made_w (h0 : -32768 ≤ wF) (h1 : wF ≤ 32767) (h2 : wl ≤ 1024) (hW : Row wa wl wB w) : Cal (w.heap.size + 1) wF wa wl wcap wB (madeW roll wF wa wl wcap tF ta tl tcap w) where
  f0 := by unfold madeW; simp [go_sem]
  f1 := by unfold madeW; simp [go_sem]
  f2 := by unfold madeW; simp [go_sem]
  row := hW.below (made_below roll wF wa wl wcap tF ta tl tcap w)
  lo := h0
  hi := h1
  small := h2
theorem made_t (h0 : -32768 ≤ tF) (h1 : tF ≤ 32767) (h2 : tl ≤ 1024) (hT : Row ta tl tB w) : Cal (w.heap.size + 2) tF ta tl tcap tB (madeW roll wF wa wl wcap tF ta tl tcap w) where
  f0 := by unfold madeW; simp [go_sem]
  f1 := by unfold madeW; simp [go_sem]
  f2 := by unfold madeW; simp [go_sem]
  row := hT.below (made_below roll wF wa wl wcap tF ta tl tcap w)
  lo := h0
  hi := h1
  small := h2
end

set_option maxHeartbeats 1600000 in
theorem states_any (r due wF : Int) (wa : Option Addr) (wl wcap : Nat) (wB : List Bool) (tF : Int) (ta : Option Addr) (tl tcap : Nat) (tB : List Bool) (w : World)
    (hr0 : 0 ≤ r) (hr1 : r ≤ 255) (hd0 : -2147483648 ≤ due) (hd1 : due ≤ 2147483647) (hw0 : -32768 ≤ wF) (hw1 : wF ≤ 32767) (ht0 : -32768 ≤ tF) (ht1 : tF ≤ 32767) (hwl : wl ≤ 1024) (htl : tl ≤ 1024)
    (hW : Row wa wl wB w) (hT : Row ta tl tB w) :
    Calls Yba.prog 4 #[.int .u8 r, .int .i32 due, .int .i16 wF, .slice wa wl wcap, .int .i16 tF, .slice ta tl tcap] w fun e w' => e = .returned (.bool true) ∧ Below w.heap.size w w' := by
  have hdw : decide ((1024 : Int) < (wl : Int)) = false := by simp; omega
  have hdt : decide ((1024 : Int) < (tl : Int)) = false := by simp; omega
  have HW : Hid (Row wa wl wB w) := hW
  have HT : Hid (Row ta tl tB w) := hT
  clear hW hT
  obtain ⟨roll, hroll⟩ : ∃ roll, r % 5 - 1 = roll := ⟨_, rfl⟩
  go_enter Yba.func4, Yba.ntmps4
  go_wp2_with (first | (go_at_call 5; refine (roll_any _ _ hr0 hr1).mono ?_; rintro e w' ⟨rfl, rfl⟩))
  refine (cal_any wF wa wl wcap _ hw0 hw1 hwl).mono ?_
  rintro e w' ⟨rfl, rfl⟩
  go_wp2_with fail
  refine (cal_any tF ta tl tcap _ ht0 ht1 htl).mono ?_
  rintro e w' ⟨rfl, rfl⟩
  go_wp2_with fail
  refine (pay_any w.heap.size (w.heap.size + 2) (w.heap.size + 1) roll due tF ta tl tcap tB wF wa wl wcap wB _ (made_bond roll wF wa wl wcap tF ta tl tcap w) (by rw [made_size]; omega) (made_t roll wF wa wl wcap tF ta tl tcap tB w ht0 ht1 htl HT.out) (by rw [made_size]; omega) (made_w roll wF wa wl wcap wB tF ta tl tcap w hw0 hw1 hwl HW.out) (by rw [made_size]; omega) hd0 hd1).mono ?_
  rintro e w3 ⟨rfl, hb3⟩
  have hs3 : w.heap.size + 3 ≤ w3.heap.size := by have := hb3.size; rw [made_size] at this; exact this
  have hbond : w3.cell? ⟨w.heap.size, 11, none⟩ = some (.int .i64 roll) := by
    rw [hb3.cell (by rw [made_size]; show w.heap.size < w.heap.size + 3; omega)]; exact made_bond roll wF wa wl wcap tF ta tl tcap w
  have CW : Hid (Cal (w.heap.size + 1) wF wa wl wcap wB w3) := (made_w roll wF wa wl wcap wB tF ta tl tcap w hw0 hw1 hwl HW.out).below (by rw [made_size]; omega) hb3
  have CT : Hid (Cal (w.heap.size + 2) tF ta tl tcap tB w3) := (made_t roll wF wa wl wcap tF ta tl tcap tB w ht0 ht1 htl HT.out).below (by rw [made_size]; omega) hb3
  have hB : Below w.heap.size w w3 := (made_below roll wF wa wl wcap tF ta tl tcap w).trans (hb3.mono (by rw [made_size]; omega))
  have hbs : w.heap.size < w3.heap.size := by omega
  have W0 : Hid (∀ o, Cal (w.heap.size + 1) wF wa wl wcap wB (w3.alloc o)) := fun o => CW.out.below (by omega) ((Below.refl _ _).alloc (Nat.le_refl _) _)
  have T0 : Hid (∀ o, Cal (w.heap.size + 2) tF ta tl tcap tB (w3.alloc o)) := fun o => CT.out.below (by omega) ((Below.refl _ _).alloc (Nat.le_refl _) _)
  have Wn : Hid (∀ o n, Cal (w.heap.size + 1) wF wa wl wcap wB ((w3.alloc o).drewN n)) := fun o n => (W0.out o).drewN n
  have Tn : Hid (∀ o n, Cal (w.heap.size + 2) tF ta tl tcap tB ((w3.alloc o).drewN n)) := fun o n => (T0.out o).drewN n
  clear hb3
  rcases Plain.pay_ways roll due tF tB wF wB with ⟨d, hp, rfl, hdd, ho⟩ | ⟨d, hp, rfl, hdd, ho⟩ | ⟨hp, h0, h1, how, hot⟩ | hp | ⟨hp, h0, h1⟩
  · rw [hp]
    unfold dv
    have HO : Hid (Plain.opn wF wB d = true) := ho
    clear ho hp hroll
    go_wp2_with (first
      | (go_at_call 9; refine (isOpen_c (w.heap.size + 1) wF wa wl wcap wB d true _ (by exact W0.out _) HO.out).mono ?_; rintro e w' ⟨rfl, n, rfl⟩))
    go_ret
    refine ⟨rfl, ?_⟩
    (repeat (first | exact hB | refine Below.alloc ?_ (by first | omega | (simp <;> omega)) _ | refine Below.setCell ?_ (by simp) _ | refine below_drewN ?_ _))
  · rw [hp]
    unfold dv
    have HO : Hid (Plain.opn tF tB d = true) := ho
    clear ho hp hroll
    go_wp2_with (first
      | (go_at_call 9; refine (isOpen_c (w.heap.size + 2) tF ta tl tcap tB d true _ (by exact T0.out _) HO.out).mono ?_; rintro e w' ⟨rfl, n, rfl⟩))
    go_ret
    refine ⟨rfl, ?_⟩
    (repeat (first | exact hB | refine Below.alloc ?_ (by first | omega | (simp <;> omega)) _ | refine Below.setCell ?_ (by simp) _ | refine below_drewN ?_ _))
  · rw [hp]
    unfold dv
    have HO : Hid (Plain.opn wF wB due = true) := how
    have HO2 : Hid (Plain.opn tF tB due = true) := hot
    have g0 : (roll == 0) = false := by simp [h0]
    have g1 : (roll == 1) = false := by simp [h1]
    clear how hot hp hroll h0 h1
    go_wp2_with fail
    refine (isOpen_c (w.heap.size + 1) wF wa wl wcap wB due true _ (by exact W0.out _) HO.out).mono ?_
    rintro e w' ⟨rfl, n, rfl⟩
    go_wp2_with fail
    refine (isOpen_c (w.heap.size + 2) tF ta tl tcap tB due true _ (by exact Tn.out _ _) HO2.out).mono ?_
    rintro e w' ⟨rfl, n2, rfl⟩
    go_wp2
    go_ret
    refine ⟨rfl, ?_⟩
    (repeat (first | exact hB | refine Below.alloc ?_ (by first | omega | (simp <;> omega)) _ | refine Below.setCell ?_ (by simp) _ | refine below_drewN ?_ _))
  · rw [hp]
    unfold dv
    clear hp hroll
    go_wp2
    go_ret
    refine ⟨rfl, ?_⟩
    (repeat (first | exact hB | refine Below.alloc ?_ (by first | omega | (simp <;> omega)) _ | refine Below.setCell ?_ (by simp) _ | refine below_drewN ?_ _))
  · rw [hp]
    unfold dv
    have g0 : (roll != 0) = true := by simp [h0]
    have g1 : (roll != 1) = true := by simp [h1]
    clear hp hroll h0 h1
    go_wp2
    go_ret
    refine ⟨rfl, ?_⟩
    (repeat (first | exact hB | refine Below.alloc ?_ (by first | omega | (simp <;> omega)) _ | refine Below.setCell ?_ (by simp) _ | refine below_drewN ?_ _))
end Go.Proofs.Ybulkaipe
