/-
  The plain law: the table's search answers as the model's does.
-/
import Derived.Test.YbulkailyNew
import Derived.Test.YbulkailyModel
namespace Go.Proofs.Ybulkaily

theorem mAll_flat (D O C : Int) (L : List (Int × List K)) : mAll D O C L = (flat L).foldl (mstep D O C) (none, 0) := by
  have h : ∀ (L : List (Int × List K)) a, L.foldl (fun a x => mkeys D O C x.1 a x.2) a = (flat L).foldl (mstep D O C) a := by
    intro L
    induction L with
    | nil => intro a; rfl
    | cons x L ih =>
      intro a
      have e : flat (x :: L) = (x.2.map fun k => (k, x.1)) ++ flat L := by simp [flat]
      rw [e, List.foldl_append, List.foldl_cons, ih, List.foldl_map]
      rfl
  exact h L _

theorem match_dpc {k : K} {D O C : Int} (h : ¬ k.dpc = D) : matchB k D O C = false := by
  unfold matchB
  have : (D != k.dpc) = true := by simp; exact fun e => h e.symm
  simp [this]

theorem fold_filter (D O C : Int) : ∀ (l : List (K × Int)) (a : Option Int × Int), l.foldl (mstep D O C) a = (l.filter fun r => r.1.dpc == D).foldl (mstep D O C) a
  | [], a => rfl
  | r :: l, a => by
    by_cases h : r.1.dpc = D
    · rw [List.filter_cons_of_pos (by simpa using h), List.foldl_cons, List.foldl_cons]
      exact fold_filter D O C l _
    · rw [List.filter_cons_of_neg (by simpa using h), List.foldl_cons]
      have e : mstep D O C a r = a := by unfold mstep; rw [match_dpc h]; simp
      rw [e]
      exact fold_filter D O C l a

theorem near_filter (l : List (K × Int)) (D : Int) (hD : D ≤ 16383) : ((near l).filter fun r => r.1.dpc == D) = l.filter fun r => r.1.dpc == D := by
  unfold near
  rw [List.filter_filter]
  refine List.filter_congr fun r _ => ?_
  by_cases h : r.1.dpc = D
  · simp [h, hD]
  · simp [h]

theorem rcs_sel (FF : List R3) (D : Nat) : ((rcs FF).filter fun r => r.1.dpc == (D : Int)) = rcs (sel FF D) := by
  unfold rcs sel
  rw [List.filter_map]
  rfl

/-- The two searches side by side. -/
theorem side (D O C : Int) (rcOf : Nat → Int) : ∀ (l : List R3) (a : Option Nat × K) (b : Option Int × Int), (∀ r ∈ l, rcOf r.2.1 = r.2.2) → a.1.map rcOf = b.1 → (a.1.isSome = true → named a.2 = b.2) →
    ((l.map pr).foldl (lstep D O C) a).1.map rcOf = ((rcs l).foldl (mstep D O C) b).1
  | [], a, b, _, h1, _ => h1
  | r :: l, a, b, hr, h1, h2 => by
    show ((l.map pr).foldl (lstep D O C) (lstep D O C a (pr r))).1.map rcOf = ((rcs l).foldl (mstep D O C) (mstep D O C b (r.1, r.2.2))).1
    have hs : a.1.isSome = b.1.isSome := by rw [← h1]; simp
    have hc : (matchB r.1 D O C && (!a.1.isSome || decide (named a.2 < named r.1))) = (matchB r.1 D O C && (!b.1.isSome || decide (b.2 < named r.1))) := by
      rw [← hs]
      generalize matchB r.1 D O C = m
      generalize named r.1 = y
      cases ha : a.1.isSome with
      | false => cases m <;> rfl
      | true =>
        have e := h2 ha
        generalize named a.2 = x at e
        subst e
        rfl
    have hr1 := hr r List.mem_cons_self
    have hrl : ∀ x ∈ l, rcOf x.2.1 = x.2.2 := fun x hx => hr x (List.mem_cons_of_mem _ hx)
    by_cases hcond : (matchB r.1 D O C && (!a.1.isSome || decide (named a.2 < named r.1))) = true
    · have hl : lstep D O C a (pr r) = (some r.2.1, r.1) := by unfold lstep; exact if_pos hcond
      have hm : mstep D O C b (r.1, r.2.2) = (some r.2.2, named r.1) := by unfold mstep; exact if_pos (hc ▸ hcond)
      rw [hl, hm]
      exact side D O C rcOf l _ _ hrl (congrArg some hr1) (fun _ => rfl)
    · have hl : lstep D O C a (pr r) = a := by unfold lstep; exact if_neg hcond
      have hm : mstep D O C b (r.1, r.2.2) = b := by unfold mstep; exact if_neg (hc ▸ hcond)
      rw [hl, hm]
      exact side D O C rcOf l _ _ hrl h1 h2

theorem served_eq (FF : List R3) (L : List (Int × List K)) (rcOf : Nat → Int) (hF : rcs FF = near (flat L)) (hr : ∀ r ∈ FF, rcOf r.2.1 = r.2.2) (D : Nat) (O C rc : Int) :
    servedT (fun p => (sel FF p).map pr) rcOf D O C rc = modelB L D O C rc := by
  unfold servedT lookF modelB
  by_cases hD : 16383 < D
  · rw [if_pos hD, if_pos (by omega)]
  · rw [if_neg hD, if_neg (by omega)]
    have e1 : lookK ((sel FF D).map pr) D O C ((sel FF D).map pr).length = ((sel FF D).map pr).foldl (lstep D O C) (none, K0) := by unfold lookK; rw [List.take_length]
    have e2 : mAll D O C L = (rcs (sel FF D)).foldl (mstep D O C) (none, 0) := by
      rw [mAll_flat, fold_filter, ← near_filter _ _ (by omega), ← hF, rcs_sel]
    have e3 := side D O C rcOf (sel FF D) (none, K0) (none, 0) (fun r h => hr r (List.mem_filter.1 h).1) rfl (fun h => by cases h)
    dsimp only
    rw [e1, e2, ← e3]
    cases (((sel FF D).map pr).foldl (lstep D O C) (none, K0)).1 with
    | none => rfl
    | some b => rfl
end Go.Proofs.Ybulkaily
