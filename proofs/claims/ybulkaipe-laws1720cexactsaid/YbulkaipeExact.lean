/-
  The model whole, and the walk of LawS1720CExact (function 3).
-/
import Derived.Test.YbulkaipeModel
namespace Go.Proofs.Ybulkaipe
open Go.RowKit

section
variable (roll due wF : Int) (wa : Option Addr) (wl wcap : Nat) (wB : List Bool) (tF : Int) (ta : Option Addr) (tl tcap : Nat) (tB : List Bool) (w : World)

set_option maxHeartbeats 1600000 in
theorem model_working (hw0 : -32768 ≤ wF) (hw1 : wF ≤ 32767) (hwl : wl ≤ 1024) (hW : Row wa wl wB w) :
    Calls Yba.prog 8 #[.int .i64 0, .int .i32 due, .int .i32 wF, .slice wa wl wcap, .int .i32 tF, .slice ta tl tcap] w fun e w' => e = .returned (dv (Plain.known (Plain.nxt wF wB due))) ∧ Below w.heap.size w w' := by
  have W0 : Hid (∀ o, Row wa wl wB (w.alloc o)) := fun o => hW.below ((Below.refl _ _).alloc (Nat.le_refl _) _)
  clear hW
  obtain ⟨p, hp⟩ : ∃ p, Plain.known (Plain.nxt wF wB due) = p := ⟨_, rfl⟩
  have HP : Hid (Plain.known (Plain.nxt wF wB due) = p) := hp
  rw [hp]
  clear hp
  obtain ⟨d, st⟩ := p
  go_enter Yba.func8, Yba.ntmps8
  go_wp2_with fail
  refine (cnext_any wF due wa wl wcap wB _ (W0.out _) hw0 hw1 hwl).mono ?_
  rintro e w1 ⟨rfl, hb1⟩
  rw [HP.out]
  unfold dv
  have hs1 : w.heap.size + 1 ≤ w1.heap.size := by have := hb1.size; simpa using this
  have hB : Below w.heap.size w w1 := ((Below.refl _ _).alloc (Nat.le_refl _) _).trans (hb1.mono (by simp))
  have c0 : w1.cell? ⟨w.heap.size, 0, none⟩ = some (.int .i32 0) := by rw [hb1.cell (by simp)]; simp [go_sem]
  have c1 : w1.cell? ⟨w.heap.size, 1, none⟩ = some (.int .i64 0) := by rw [hb1.cell (by simp)]; simp [go_sem]
  have z0 : w1.frozen? ⟨w.heap.size, 0, none⟩ = false := by rw [hb1.frozen (by simp)]; simp [go_sem]
  have z1 : w1.frozen? ⟨w.heap.size, 1, none⟩ = false := by rw [hb1.frozen (by simp)]; simp [go_sem]
  have hlt : w.heap.size < w1.heap.size := by omega
  clear hb1
  go_wp2
  refine bodyPost_ret (v := .agg #[.int .i32 d, .int .i64 st]) (by simp [results, Yba.results8, go_sem, c0, c1]) rfl ⟨rfl, ?_⟩
  (repeat (first | exact hB | exact Below.refl _ _ | refine Below.alloc ?_ (by first | omega | (simp <;> omega)) _ | refine Below.setCell ?_ (by simp) _ | refine below_drewN ?_ _))

set_option maxHeartbeats 1600000 in
theorem model_trading (hw0 : -32768 ≤ tF) (hw1 : tF ≤ 32767) (hwl : tl ≤ 1024) (hW : Row ta tl tB w) :
    Calls Yba.prog 8 #[.int .i64 1, .int .i32 due, .int .i32 wF, .slice wa wl wcap, .int .i32 tF, .slice ta tl tcap] w fun e w' => e = .returned (dv (Plain.known (Plain.nxt tF tB due))) ∧ Below w.heap.size w w' := by
  have W0 : Hid (∀ o, Row ta tl tB (w.alloc o)) := fun o => hW.below ((Below.refl _ _).alloc (Nat.le_refl _) _)
  clear hW
  obtain ⟨p, hp⟩ : ∃ p, Plain.known (Plain.nxt tF tB due) = p := ⟨_, rfl⟩
  have HP : Hid (Plain.known (Plain.nxt tF tB due) = p) := hp
  rw [hp]
  clear hp
  obtain ⟨d, st⟩ := p
  go_enter Yba.func8, Yba.ntmps8
  go_wp2_with fail
  refine (cnext_any tF due ta tl tcap tB _ (W0.out _) hw0 hw1 hwl).mono ?_
  rintro e w1 ⟨rfl, hb1⟩
  rw [HP.out]
  unfold dv
  have hs1 : w.heap.size + 1 ≤ w1.heap.size := by have := hb1.size; simpa using this
  have hB : Below w.heap.size w w1 := ((Below.refl _ _).alloc (Nat.le_refl _) _).trans (hb1.mono (by simp))
  have c0 : w1.cell? ⟨w.heap.size, 0, none⟩ = some (.int .i32 0) := by rw [hb1.cell (by simp)]; simp [go_sem]
  have c1 : w1.cell? ⟨w.heap.size, 1, none⟩ = some (.int .i64 0) := by rw [hb1.cell (by simp)]; simp [go_sem]
  have z0 : w1.frozen? ⟨w.heap.size, 0, none⟩ = false := by rw [hb1.frozen (by simp)]; simp [go_sem]
  have z1 : w1.frozen? ⟨w.heap.size, 1, none⟩ = false := by rw [hb1.frozen (by simp)]; simp [go_sem]
  have hlt : w.heap.size < w1.heap.size := by omega
  clear hb1
  go_wp2
  refine bodyPost_ret (v := .agg #[.int .i32 d, .int .i64 st]) (by simp [results, Yba.results8, go_sem, c0, c1]) rfl ⟨rfl, ?_⟩
  (repeat (first | exact hB | exact Below.refl _ _ | refine Below.alloc ?_ (by first | omega | (simp <;> omega)) _ | refine Below.setCell ?_ (by simp) _ | refine below_drewN ?_ _))

theorem model_any (hd0 : -2147483648 ≤ due) (hd1 : due ≤ 2147483647) (hw0 : -32768 ≤ wF) (hw1 : wF ≤ 32767) (ht0 : -32768 ≤ tF) (ht1 : tF ≤ 32767) (hwl : wl ≤ 1024) (htl : tl ≤ 1024)
    (hW : Row wa wl wB w) (hT : Row ta tl tB w) :
    Calls Yba.prog 8 #[.int .i64 roll, .int .i32 due, .int .i32 wF, .slice wa wl wcap, .int .i32 tF, .slice ta tl tcap] w fun e w' => e = .returned (dv (Plain.pay roll due tF tB wF wB)) ∧ Below w.heap.size w w' := by
  unfold Plain.pay
  by_cases h0 : roll = 0
  · rw [if_pos h0]; subst h0
    exact model_working due wF wa wl wcap wB tF ta tl tcap w hw0 hw1 hwl hW
  · rw [if_neg h0]
    by_cases h1 : roll = 1
    · rw [if_pos h1]; subst h1
      exact model_trading due wF wa wl wcap tF ta tl tcap tB w ht0 ht1 htl hT
    · rw [if_neg h1]
      exact model_third roll due wF wa wl wcap wB tF ta tl tcap tB w (by simp [h0]) (by simp [h1]) hd0 hd1 hw0 hw1 ht0 ht1 hwl htl hW hT _ _ _ _ rfl rfl rfl rfl (by unfold Plain.opn; cases Plain.cov wF wB due <;> simp) (by unfold Plain.opn; cases Plain.cov tF tB due <;> simp)
end

set_option maxHeartbeats 1600000 in
theorem exact_any (r due wF : Int) (wa : Option Addr) (wl wcap : Nat) (wB : List Bool) (tF : Int) (ta : Option Addr) (tl tcap : Nat) (tB : List Bool) (w : World)
    (hr0 : 0 ≤ r) (hr1 : r ≤ 255) (hd0 : -2147483648 ≤ due) (hd1 : due ≤ 2147483647) (hw0 : -32768 ≤ wF) (hw1 : wF ≤ 32767) (ht0 : -32768 ≤ tF) (ht1 : tF ≤ 32767) (hwl : wl ≤ 1024) (htl : tl ≤ 1024)
    (hW : Row wa wl wB w) (hT : Row ta tl tB w) :
    Calls Yba.prog 3 #[.int .u8 r, .int .i32 due, .int .i16 wF, .slice wa wl wcap, .int .i16 tF, .slice ta tl tcap] w fun e w' => e = .returned (.bool true) ∧ Below w.heap.size w w' := by
  have hdw : decide ((1024 : Int) < (wl : Int)) = false := by simp; omega
  have hdt : decide ((1024 : Int) < (tl : Int)) = false := by simp; omega
  have HW : Hid (Row wa wl wB w) := hW
  have HT : Hid (Row ta tl tB w) := hT
  clear hW hT
  obtain ⟨roll, hroll⟩ : ∃ roll, r % 5 - 1 = roll := ⟨_, rfl⟩
  go_enter Yba.func3, Yba.ntmps3
  go_wp2_with (first | (go_at_call 5; refine (roll_any _ _ hr0 hr1).mono ?_; rintro e w' ⟨rfl, rfl⟩))
  refine (cal_any wF wa wl wcap _ hw0 hw1 hwl).mono ?_
  rintro e w' ⟨rfl, rfl⟩
  go_wp2_with fail
  refine (cal_any tF ta tl tcap _ ht0 ht1 htl).mono ?_
  rintro e w' ⟨rfl, rfl⟩
  go_wp2_with fail
  refine (pay_any w.heap.size (w.heap.size + 2) (w.heap.size + 1) roll due tF ta tl tcap tB wF wa wl wcap wB _ (made_bond roll wF wa wl wcap tF ta tl tcap w) (by rw [made_size]; omega) (made_t roll wF wa wl wcap tF ta tl tcap tB w ht0 ht1 htl HT.out) (by rw [made_size]; omega) (made_w roll wF wa wl wcap wB tF ta tl tcap w hw0 hw1 hwl HW.out) (by rw [made_size]; omega) hd0 hd1).mono ?_
  rintro e w3 ⟨rfl, hb3⟩
  have hs3 : w.heap.size + 3 ≤ w3.heap.size := by have := hb3.size; rw [made_size] at this; exact this
  have hbond : w3.cell? ⟨w.heap.size, 11, none⟩ = some (.int .i64 roll) := by
    rw [hb3.cell (by rw [made_size]; show w.heap.size < w.heap.size + 3; omega)]; exact made_bond roll wF wa wl wcap tF ta tl tcap w
  have hB3 : Below w.heap.size w w3 := (made_below roll wF wa wl wcap tF ta tl tcap w).trans (hb3.mono (by rw [made_size]; omega))
  have hbs : w.heap.size < w3.heap.size := by omega
  have RW : Hid (∀ o, Row wa wl wB (w3.alloc o)) := fun o => HW.out.below (hB3.alloc (by omega) _)
  have RT : Hid (∀ o, Row ta tl tB (w3.alloc o)) := fun o => HT.out.below (hB3.alloc (by omega) _)
  clear hb3
  obtain ⟨p, hp⟩ : ∃ p, Plain.pay roll due tF tB wF wB = p := ⟨_, rfl⟩
  have HP : Hid (Plain.pay roll due tF tB wF wB = p) := hp
  rw [hp]
  clear hp hroll
  obtain ⟨d, st⟩ := p
  unfold dv
  go_wp2_with fail
  refine (model_any roll due wF wa wl wcap wB tF ta tl tcap tB _ hd0 hd1 hw0 hw1 ht0 ht1 hwl htl (RW.out _) (RT.out _)).mono ?_
  rintro e w4 ⟨rfl, hb4⟩
  rw [HP.out]
  unfold dv
  have hs4 : w3.heap.size + 1 ≤ w4.heap.size := by have := hb4.size; simpa using this
  have hB : Below w.heap.size w w4 := (hB3.alloc (by omega) _).trans (hb4.mono (by simp; omega))
  have c0 : w4.cell? ⟨w3.heap.size, 0, none⟩ = some (.int .i32 d) := by rw [hb4.cell (by simp)]; simp [go_sem]
  have c1 : w4.cell? ⟨w3.heap.size, 1, none⟩ = some (.int .i64 st) := by rw [hb4.cell (by simp)]; simp [go_sem]
  have hlt : w3.heap.size < w4.heap.size := by omega
  clear hb4
  go_wp2
  go_ret
  refine ⟨rfl, ?_⟩
  (repeat (first | exact hB | exact Below.refl _ _ | refine Below.alloc ?_ (by first | omega | (simp <;> omega)) _ | refine Below.setCell ?_ (by simp) _ | refine below_drewN ?_ _))
end Go.Proofs.Ybulkaipe
