/-
  knownIf and paymentDate by their contracts.
-/
import Derived.Test.YbulkaipeCal
import Derived.Deep.RegionWith
namespace Go.Proofs.Ybulkaipe
open Go.RowKit

theorem known_yes (d : Int) (w : World) :
    Calls Yba.prog 10 #[.int .i32 d, .bool true] w fun e w' => e = .returned (.agg #[.int .i32 d, .int .i64 0]) ∧ w' = w.alloc (.cells #[.int .i32 d, .int .i64 0] 44) := by
  go_enter Yba.func10, Yba.ntmps10
  go_wp2
  exact bodyPost_ret (v := .agg #[.int .i32 d, .int .i64 0]) (by simp [results, Yba.results10, go_sem]) rfl ⟨rfl, rfl⟩

theorem known_no (d : Int) (w : World) :
    Calls Yba.prog 10 #[.int .i32 d, .bool false] w fun e w' => e = .returned (.agg #[.int .i32 0, .int .i64 2]) ∧ w' = w.alloc (.cells #[.int .i32 0, .int .i64 2] 44) := by
  go_enter Yba.func10, Yba.ntmps10
  go_wp2
  exact bodyPost_ret (v := .agg #[.int .i32 0, .int .i64 2]) (by simp [results, Yba.results10, go_sem]) rfl ⟨rfl, rfl⟩

theorem covers_c (c : Nat) (first : Int) (a : Option Addr) (len cap : Nat) (bs : List Bool) (d : Int) (b : Bool) (w : World) (h : Cal c first a len cap bs w) (hc : Plain.cov first bs d = b) :
    Calls Yba.prog 12 #[.pointer (some ⟨c, 0, none⟩), .int .i32 d] w fun e w' => e = .returned (.bool b) ∧ w' = w := by
  subst hc; exact covers_any c first a len cap bs d w h
theorem isOpen_c (c : Nat) (first : Int) (a : Option Addr) (len cap : Nat) (bs : List Bool) (d : Int) (b : Bool) (w : World) (h : Cal c first a len cap bs w) (hc : Plain.opn first bs d = b) :
    Calls Yba.prog 9 #[.pointer (some ⟨c, 0, none⟩), .int .i32 d] w fun e w' => e = .returned (.bool b) ∧ ∃ n, w' = w.drewN n := by
  subst hc; exact isOpen_any c first a len cap bs d w h
theorem nextOpen_c (c : Nat) (first : Int) (a : Option Addr) (len cap : Nat) (bs : List Bool) (due : Int) (o : Option Int) (w : World) (h : Cal c first a len cap bs w) (hd0 : -2147483648 ≤ due) (hd1 : due ≤ 2147483647) (ho : Plain.nxt first bs due = o) :
    Calls Yba.prog 11 #[.pointer (some ⟨c, 0, none⟩), .int .i32 due] w fun e w' => e = .returned (nextV o) ∧ ∃ n, w' = w.drewN n := by
  subst ho; exact nextOpen_any c first a len cap bs due w h hd0 hd1

/-- A date and its state, as a value. -/
def dv (p : Int × Int) : Value := .agg #[.int .i32 p.1, .int .i64 p.2]

section
variable (bb tc wc : Nat) (roll due tF : Int) (ta : Option Addr) (tl tcap : Nat) (tB : List Bool) (wF : Int) (wa : Option Addr) (wl wcap : Nat) (wB : List Bool) (w : World)

set_option maxHeartbeats 1600000 in
theorem pay_working (hb : w.cell? ⟨bb, 11, none⟩ = some (.int .i64 0)) (hbb : bb < w.heap.size) (hW : Cal wc wF wa wl wcap wB w) (hwc : wc < w.heap.size) (hd0 : -2147483648 ≤ due) (hd1 : due ≤ 2147483647) :
    Calls Yba.prog 7 #[.pointer (some ⟨bb, 0, none⟩), .int .i32 due, .pointer (some ⟨tc, 0, none⟩), .pointer (some ⟨wc, 0, none⟩)] w fun e w' =>
      e = .returned (dv (Plain.known (Plain.nxt wF wB due))) ∧ Below w.heap.size w w' := by
  have HW : Hid (Cal wc wF wa wl wcap wB w) := hW
  clear hW
  cases ho : Plain.nxt wF wB due with
  | none =>
    have HO : Hid (Plain.nxt wF wB due = none) := ho
    clear ho
    go_enter Yba.func7, Yba.ntmps7
    go_wp2_with fail
    refine (nextOpen_c wc wF wa wl wcap wB due none _ (HW.out.below hwc ((Below.refl _ _).alloc (Nat.le_refl _) _)) hd0 hd1 HO.out).mono ?_
    rintro e w' ⟨rfl, n, rfl⟩
    unfold nextV
    go_wp2_with (go_at_call 10; refine (known_no _ _).mono ?_; rintro e w' ⟨rfl, rfl⟩)
    refine bodyPost_ret (v := .agg #[.int .i32 0, .int .i64 2]) (by simp [results, Yba.results7, go_sem]) rfl ⟨rfl, ?_⟩
    (repeat (first | exact Below.refl _ _ | refine Below.alloc ?_ (by simp <;> omega) _ | refine Below.setCell ?_ (by simp) _ | refine below_drewN ?_ _))
  | some d =>
    have HO : Hid (Plain.nxt wF wB due = some d) := ho
    clear ho
    go_enter Yba.func7, Yba.ntmps7
    go_wp2_with fail
    refine (nextOpen_c wc wF wa wl wcap wB due (some d) _ (HW.out.below hwc ((Below.refl _ _).alloc (Nat.le_refl _) _)) hd0 hd1 HO.out).mono ?_
    rintro e w' ⟨rfl, n, rfl⟩
    unfold nextV
    go_wp2_with (go_at_call 10; refine (known_yes _ _).mono ?_; rintro e w' ⟨rfl, rfl⟩)
    refine bodyPost_ret (v := .agg #[.int .i32 d, .int .i64 0]) (by simp [results, Yba.results7, go_sem]) rfl ⟨rfl, ?_⟩
    (repeat (first | exact Below.refl _ _ | refine Below.alloc ?_ (by simp <;> omega) _ | refine Below.setCell ?_ (by simp) _ | refine below_drewN ?_ _))

set_option maxHeartbeats 1600000 in
theorem pay_trading (hb : w.cell? ⟨bb, 11, none⟩ = some (.int .i64 1)) (hbb : bb < w.heap.size) (hW : Cal tc tF ta tl tcap tB w) (hwc : tc < w.heap.size) (hd0 : -2147483648 ≤ due) (hd1 : due ≤ 2147483647) :
    Calls Yba.prog 7 #[.pointer (some ⟨bb, 0, none⟩), .int .i32 due, .pointer (some ⟨tc, 0, none⟩), .pointer (some ⟨wc, 0, none⟩)] w fun e w' =>
      e = .returned (dv (Plain.known (Plain.nxt tF tB due))) ∧ Below w.heap.size w w' := by
  have HW : Hid (Cal tc tF ta tl tcap tB w) := hW
  clear hW
  cases ho : Plain.nxt tF tB due with
  | none =>
    have HO : Hid (Plain.nxt tF tB due = none) := ho
    clear ho
    go_enter Yba.func7, Yba.ntmps7
    go_wp2_with fail
    refine (nextOpen_c tc tF ta tl tcap tB due none _ (HW.out.below hwc ((Below.refl _ _).alloc (Nat.le_refl _) _)) hd0 hd1 HO.out).mono ?_
    rintro e w' ⟨rfl, n, rfl⟩
    unfold nextV
    go_wp2_with (go_at_call 10; refine (known_no _ _).mono ?_; rintro e w' ⟨rfl, rfl⟩)
    refine bodyPost_ret (v := .agg #[.int .i32 0, .int .i64 2]) (by simp [results, Yba.results7, go_sem]) rfl ⟨rfl, ?_⟩
    (repeat (first | exact Below.refl _ _ | refine Below.alloc ?_ (by simp <;> omega) _ | refine Below.setCell ?_ (by simp) _ | refine below_drewN ?_ _))
  | some d =>
    have HO : Hid (Plain.nxt tF tB due = some d) := ho
    clear ho
    go_enter Yba.func7, Yba.ntmps7
    go_wp2_with fail
    refine (nextOpen_c tc tF ta tl tcap tB due (some d) _ (HW.out.below hwc ((Below.refl _ _).alloc (Nat.le_refl _) _)) hd0 hd1 HO.out).mono ?_
    rintro e w' ⟨rfl, n, rfl⟩
    unfold nextV
    go_wp2_with (go_at_call 10; refine (known_yes _ _).mono ?_; rintro e w' ⟨rfl, rfl⟩)
    refine bodyPost_ret (v := .agg #[.int .i32 d, .int .i64 0]) (by simp [results, Yba.results7, go_sem]) rfl ⟨rfl, ?_⟩
    (repeat (first | exact Below.refl _ _ | refine Below.alloc ?_ (by simp <;> omega) _ | refine Below.setCell ?_ (by simp) _ | refine below_drewN ?_ _))

/-- The ways of the third arm. -/
def third (cw ow ct ot : Bool) (due : Int) : Int × Int :=
  if (cw && !ow) || (ct && !ot) then (0, 3) else if !cw || !ct then (0, 2) else (due, 0)

set_option maxHeartbeats 6400000 in
theorem pay_third (hb : w.cell? ⟨bb, 11, none⟩ = some (.int .i64 roll)) (hr0 : (roll == 0) = false) (hr1 : (roll == 1) = false) (hbb : bb < w.heap.size) (hW : Cal wc wF wa wl wcap wB w) (hwc : wc < w.heap.size) (hT : Cal tc tF ta tl tcap tB w) (htc : tc < w.heap.size)
    (cw ow ct ot : Bool) (hcw : Plain.cov wF wB due = cw) (how : Plain.opn wF wB due = ow) (hct : Plain.cov tF tB due = ct) (hot : Plain.opn tF tB due = ot) (hwo : ow = true → cw = true) (hto : ot = true → ct = true) :
    Calls Yba.prog 7 #[.pointer (some ⟨bb, 0, none⟩), .int .i32 due, .pointer (some ⟨tc, 0, none⟩), .pointer (some ⟨wc, 0, none⟩)] w fun e w' =>
      e = .returned (dv (third cw ow ct ot due)) ∧ Below w.heap.size w w' := by
  have W0 : Hid (∀ o, Cal wc wF wa wl wcap wB (w.alloc o)) := fun o => hW.below hwc ((Below.refl _ _).alloc (Nat.le_refl _) _)
  have T0 : Hid (∀ o, Cal tc tF ta tl tcap tB (w.alloc o)) := fun o => hT.below htc ((Below.refl _ _).alloc (Nat.le_refl _) _)
  have Wn : Hid (∀ o n, Cal wc wF wa wl wcap wB ((w.alloc o).drewN n)) := fun o n => (W0.out o).drewN n
  have Tn : Hid (∀ o n, Cal tc tF ta tl tcap tB ((w.alloc o).drewN n)) := fun o n => (T0.out o).drewN n
  have HCW : Hid (Plain.cov wF wB due = cw) := hcw
  have HOW : Hid (Plain.opn wF wB due = ow) := how
  have HCT : Hid (Plain.cov tF tB due = ct) := hct
  have HOT : Hid (Plain.opn tF tB due = ot) := hot
  clear hW hT hcw how hct hot
  cases cw <;> cases ow <;> (try (exact absurd (hwo rfl) Bool.false_ne_true)) <;> cases ct <;> cases ot <;> (try (exact absurd (hto rfl) Bool.false_ne_true))
  all_goals
    clear hwo hto
    go_enter Yba.func7, Yba.ntmps7
    go_wp2_with (first
      | (go_at_call_of 12 (Value.pointer (some ⟨wc, 0, none⟩)); refine (covers_c wc wF wa wl wcap wB due _ _ (by first | exact W0.out _ | exact Wn.out _ _) HCW.out).mono ?_; rintro e w' ⟨rfl, rfl⟩)
      | (go_at_call_of 12 (Value.pointer (some ⟨tc, 0, none⟩)); refine (covers_c tc tF ta tl tcap tB due _ _ (by first | exact T0.out _ | exact Tn.out _ _) HCT.out).mono ?_; rintro e w' ⟨rfl, rfl⟩)
      | (go_at_call_of 9 (Value.pointer (some ⟨wc, 0, none⟩)); refine (isOpen_c wc wF wa wl wcap wB due _ _ (by first | exact W0.out _ | exact Wn.out _ _) HOW.out).mono ?_; rintro e w' ⟨rfl, n, rfl⟩)
      | (go_at_call_of 9 (Value.pointer (some ⟨tc, 0, none⟩)); refine (isOpen_c tc tF ta tl tcap tB due _ _ (by first | exact T0.out _ | exact Tn.out _ _) HOT.out).mono ?_; rintro e w' ⟨rfl, n, rfl⟩))
    first
      | (refine bodyPost_ret (v := .agg #[.int .i32 0, .int .i64 3]) (by simp [results, Yba.results7, go_sem]) rfl ⟨rfl, ?_⟩; (repeat (first | exact Below.refl _ _ | refine Below.alloc ?_ (by simp <;> omega) _ | refine Below.setCell ?_ (by simp) _ | refine below_drewN ?_ _)); done)
      | (refine bodyPost_ret (v := .agg #[.int .i32 0, .int .i64 2]) (by simp [results, Yba.results7, go_sem]) rfl ⟨rfl, ?_⟩; (repeat (first | exact Below.refl _ _ | refine Below.alloc ?_ (by simp <;> omega) _ | refine Below.setCell ?_ (by simp) _ | refine below_drewN ?_ _)); done)
      | (refine bodyPost_ret (v := .agg #[.int .i32 due, .int .i64 0]) (by simp [results, Yba.results7, go_sem]) rfl ⟨rfl, ?_⟩; (repeat (first | exact Below.refl _ _ | refine Below.alloc ?_ (by simp <;> omega) _ | refine Below.setCell ?_ (by simp) _ | refine below_drewN ?_ _)); done)
end
end Go.Proofs.Ybulkaipe
