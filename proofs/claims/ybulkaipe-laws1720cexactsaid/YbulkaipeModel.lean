/-
  The law's own model (zzs1720cnext, zzs1720cat, zzs1720cmodel) by contracts.
-/
import Derived.Test.YbulkaipeFrame
namespace Go.Proofs.Ybulkaipe
open Go.RowKit

theorem Row.drewN {a : Option Addr} {len : Nat} {bs : List Bool} {w : World} (h : Row a len bs w) (n : Nat) : Row a len bs (w.drewN n) := ⟨h.eqn, h.cells⟩

set_option maxHeartbeats 1600000 in
theorem cnext_any (first due : Int) (a : Option Addr) (len cap : Nat) (bs : List Bool) (w : World) (h : Row a len bs w) (lo : -32768 ≤ first) (hi : first ≤ 32767) (small : len ≤ 1024) :
    Calls Yba.prog 13 #[.int .i32 first, .slice a len cap, .int .i32 due] w fun e w' => e = .returned (dv (Plain.known (Plain.nxt first bs due))) ∧ Below w.heap.size w w' := by
  have hl := h.eqn
  by_cases hlt : due < first
  · have hn : Plain.nxt first bs due = none := by unfold Plain.nxt; rw [if_pos hlt]
    rw [hn]
    clear hn h hl
    go_enter Yba.func13, Yba.ntmps13
    go_wp2
    exact bodyPost_ret (v := .agg #[.int .i32 0, .int .i64 2]) (by simp [results, Yba.results13, go_sem]) rfl ⟨rfl, (Below.refl _ _).alloc (Nat.le_refl _) _⟩
  · have hn : Plain.nxt first bs due = Plain.nx bs first due := by unfold Plain.nxt; rw [if_neg hlt]
    rw [hn]
    have HR : Hid (Row a len bs w) := h
    clear hn h
    have hlt' : first ≤ due := by omega
    go_enter Yba.func13, Yba.ntmps13
    go_wp2
    go_loop [7] (fun i => ∃ k : Nat, k ≤ len ∧ i = .int .i64 k ∧ Hid (Plain.nx bs first due = Plain.nx (bs.drop k) (first + k) due)) (fun i => len - (intOf i).toNat)
    case atStart => exact ⟨0, Nat.zero_le _, rfl, by show _ = _; simp⟩
    case round =>
      obtain ⟨k, hk, rfl, HX⟩ := hrel
      by_cases hkl : k < len
      · rcases HR.out.cells with h0 | ⟨b, off, rfl, hbs, hcell⟩
        · omega
        have hce := hcell k hkl
        have HD : Hid _ := Plain.nx_drop bs first due k (by omega)
        clear hcell
        by_cases hd : due ≤ first + (k : Int)
        · have hcase : bs.getD k false = true ∨ bs.getD k false = false := by cases bs.getD k false <;> simp
          rcases hcase with hb | hb
          · have HE : Hid (Plain.nx (bs.drop k) (first + k) due = some (first + k)) := by show _ = _; rw [HD.out, if_pos ⟨hd, hb⟩]
            rw [hb] at hce
            clear hb
            go_wp2
            refine bodyPost_ret (v := .agg #[.int .i32 (first + k), .int .i64 0]) (by simp [results, Yba.results13, go_sem]) rfl ⟨by rw [HX.out, HE.out]; rfl, ?_⟩
            (repeat (first | exact Below.refl _ _ | refine Below.alloc ?_ (by first | omega | (simp <;> omega)) _ | refine Below.setCell ?_ (by simp) _ | refine below_drewN ?_ _))
          · have HE : Hid (Plain.nx (bs.drop k) (first + k) due = Plain.nx (bs.drop (k + 1)) (first + (k + 1 : Nat)) due) := by show _ = _; rw [HD.out, if_neg (by intro h; rw [hb] at h; exact Bool.false_ne_true h.2)]
            rw [hb] at hce
            clear hb
            go_wp2
            go_round
            case rel => exact ⟨k + 1, by omega, by go_num, by show _ = _; rw [HX.out, HE.out]⟩
            case measure => simp [intOf]; omega
        · have HE : Hid (Plain.nx (bs.drop k) (first + k) due = Plain.nx (bs.drop (k + 1)) (first + (k + 1 : Nat)) due) := by show _ = _; rw [HD.out, if_neg (by intro h; exact hd h.1)]
          go_wp2
          go_round
          case rel => exact ⟨k + 1, by omega, by go_num, by show _ = _; rw [HX.out, HE.out]⟩
          case measure => simp [intOf]; omega
      · have HE : Hid (Plain.nx (bs.drop k) (first + k) due = none) := Plain.nx_end bs first due k (by omega)
        go_wp2
        refine bodyPost_ret (v := .agg #[.int .i32 0, .int .i64 2]) (by simp [results, Yba.results13, go_sem]) rfl ⟨by rw [HX.out, HE.out]; rfl, ?_⟩
        (repeat (first | exact Below.refl _ _ | refine Below.alloc ?_ (by first | omega | (simp <;> omega)) _ | refine Below.setCell ?_ (by simp) _ | refine below_drewN ?_ _))

/-- cat: is the day covered; is it open. -/
theorem cat_any (first due : Int) (a : Option Addr) (len cap : Nat) (bs : List Bool) (w : World) (h : Row a len bs w) (lo : -32768 ≤ first) (hi : first ≤ 32767) (small : len ≤ 1024) (hd0 : -2147483648 ≤ due) (hd1 : due ≤ 2147483647) :
    Calls Yba.prog 14 #[.int .i32 first, .slice a len cap, .int .i32 due] w fun e w' => e = .returned (.tuple #[.bool (Plain.cov first bs due), .bool (Plain.opn first bs due)]) ∧ ∃ n, w' = w.drewN n := by
  have hl := h.eqn
  by_cases hlt : due < first
  · have hc : Plain.cov first bs due = false := by unfold Plain.cov; simp; omega
    have ho : Plain.opn first bs due = false := by unfold Plain.opn; rw [hc]; rfl
    rw [hc, ho]
    clear hc ho h hl
    go_enter Yba.func14, Yba.ntmps14
    go_wp2
    go_ret2
    exact ⟨rfl, 0, rfl⟩
  · by_cases hgt : (len : Int) ≤ due - first
    · have hc : Plain.cov first bs due = false := by unfold Plain.cov; rw [hl]; simp; omega
      have ho : Plain.opn first bs due = false := by unfold Plain.opn; rw [hc]; rfl
      rw [hc, ho]
      clear hc ho h hl
      go_enter Yba.func14, Yba.ntmps14
      go_wp2
      go_ret2
      exact ⟨rfl, 0, rfl⟩
    · have hc : Plain.cov first bs due = true := by unfold Plain.cov; rw [hl]; simp; omega
      have ho : Plain.opn first bs due = bs.getD (due - first).toNat false := by unfold Plain.opn; rw [hc]; simp
      rw [hc, ho]
      rcases h.cells with h0 | ⟨b, off, rfl, hbs, hcell⟩
      · omega
      obtain ⟨j, hj⟩ : ∃ j : Nat, due - first = (j : Int) := ⟨(due - first).toNat, by omega⟩
      have hj2 : (due - first).toNat = j := by omega
      rw [hj2]
      have hce := hcell j (by omega)
      have hjl : (j : Int) < (len : Int) := by omega
      clear hcell hc ho h hj2 hl
      go_enter Yba.func14, Yba.ntmps14
      go_wp2
      go_quiet (fail)
      go_wp2
      go_ret2
      exact ⟨rfl, _, rfl⟩

theorem cat_c (first due : Int) (a : Option Addr) (len cap : Nat) (bs : List Bool) (c o : Bool) (w : World) (h : Row a len bs w) (lo : -32768 ≤ first) (hi : first ≤ 32767) (small : len ≤ 1024) (hd0 : -2147483648 ≤ due) (hd1 : due ≤ 2147483647)
    (hc : Plain.cov first bs due = c) (ho : Plain.opn first bs due = o) :
    Calls Yba.prog 14 #[.int .i32 first, .slice a len cap, .int .i32 due] w fun e w' => e = .returned (.tuple #[.bool c, .bool o]) ∧ ∃ n, w' = w.drewN n := by
  subst hc; subst ho; exact cat_any first due a len cap bs w h lo hi small hd0 hd1

section
variable (roll due wF : Int) (wa : Option Addr) (wl wcap : Nat) (wB : List Bool) (tF : Int) (ta : Option Addr) (tl tcap : Nat) (tB : List Bool) (w : World)
  
set_option maxHeartbeats 6400000 in
theorem model_third (hr0 : (roll == 0) = false) (hr1 : (roll == 1) = false) (hd0 : -2147483648 ≤ due) (hd1 : due ≤ 2147483647) (hw0 : -32768 ≤ wF) (hw1 : wF ≤ 32767) (ht0 : -32768 ≤ tF) (ht1 : tF ≤ 32767) (hwl : wl ≤ 1024) (htl : tl ≤ 1024)
    (hW : Row wa wl wB w) (hT : Row ta tl tB w) (cw ow ct ot : Bool) (hcw : Plain.cov wF wB due = cw) (how : Plain.opn wF wB due = ow) (hct : Plain.cov tF tB due = ct) (hot : Plain.opn tF tB due = ot) (hwo : ow = true → cw = true) (hto : ot = true → ct = true) :
    Calls Yba.prog 8 #[.int .i64 roll, .int .i32 due, .int .i32 wF, .slice wa wl wcap, .int .i32 tF, .slice ta tl tcap] w fun e w' => e = .returned (dv (third cw ow ct ot due)) ∧ Below w.heap.size w w' := by
  have W0 : Hid (∀ o, Row wa wl wB (w.alloc o)) := fun o => hW.below ((Below.refl _ _).alloc (Nat.le_refl _) _)
  have Tn : Hid (∀ o n, Row ta tl tB ((w.alloc o).drewN n)) := fun o n => (hT.below ((Below.refl _ _).alloc (Nat.le_refl _) _)).drewN n
  have HCW : Hid (Plain.cov wF wB due = cw) := hcw
  have HOW : Hid (Plain.opn wF wB due = ow) := how
  have HCT : Hid (Plain.cov tF tB due = ct) := hct
  have HOT : Hid (Plain.opn tF tB due = ot) := hot
  clear hW hT hcw how hct hot
  cases cw <;> cases ow <;> (try (exact absurd (hwo rfl) Bool.false_ne_true)) <;> cases ct <;> cases ot <;> (try (exact absurd (hto rfl) Bool.false_ne_true))
  all_goals
    clear hwo hto
    go_enter Yba.func8, Yba.ntmps8
    go_wp2_with fail
    refine (cat_c wF due wa wl wcap wB _ _ _ (W0.out _) hw0 hw1 hwl hd0 hd1 HCW.out HOW.out).mono ?_
    rintro e w' ⟨rfl, n, rfl⟩
    go_wp2_with fail
    refine (cat_c tF due ta tl tcap tB _ _ _ (Tn.out _ _) ht0 ht1 htl hd0 hd1 HCT.out HOT.out).mono ?_
    rintro e w' ⟨rfl, n2, rfl⟩
    go_wp2
    first
      | (refine bodyPost_ret (v := .agg #[.int .i32 0, .int .i64 3]) (by simp [results, Yba.results8, go_sem]) rfl ⟨rfl, ?_⟩; (repeat (first | exact Below.refl _ _ | refine Below.alloc ?_ (by first | omega | (simp <;> omega)) _ | refine Below.setCell ?_ (by simp) _ | refine below_drewN ?_ _)); done)
      | (refine bodyPost_ret (v := .agg #[.int .i32 0, .int .i64 2]) (by simp [results, Yba.results8, go_sem]) rfl ⟨rfl, ?_⟩; (repeat (first | exact Below.refl _ _ | refine Below.alloc ?_ (by first | omega | (simp <;> omega)) _ | refine Below.setCell ?_ (by simp) _ | refine below_drewN ?_ _)); done)
      | (refine bodyPost_ret (v := .agg #[.int .i32 due, .int .i64 0]) (by simp [results, Yba.results8, go_sem]) rfl ⟨rfl, ?_⟩; (repeat (first | exact Below.refl _ _ | refine Below.alloc ?_ (by first | omega | (simp <;> omega)) _ | refine Below.setCell ?_ (by simp) _ | refine below_drewN ?_ _)); done)
end
end Go.Proofs.Ybulkaipe
