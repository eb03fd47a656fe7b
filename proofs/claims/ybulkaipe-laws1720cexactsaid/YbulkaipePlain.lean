/-
  The plain functions behind the two laws: no Go in sight.
-/
namespace Go.Proofs.Ybulkaipe.Plain

/-- The first open day on or after 'due', of a list of days whose head is 'day'. -/
def nx : List Bool → Int → Int → Option Int
  | [], _, _ => none
  | b :: bs, day, due => if due ≤ day ∧ b = true then some day else nx bs (day + 1) due

theorem nx_drop (bs : List Bool) (first due : Int) (i : Nat) (h : i < bs.length) :
    nx (bs.drop i) (first + i) due = if due ≤ first + i ∧ bs.getD i false = true then some (first + i) else nx (bs.drop (i + 1)) (first + (i + 1 : Nat)) due := by
  rw [List.drop_eq_getElem_cons h]
  have e : first + (i : Int) + 1 = first + (i + 1 : Nat) := by omega
  simp only [nx, e]
  simp [h]

theorem nx_end (bs : List Bool) (first due : Int) (i : Nat) (h : bs.length ≤ i) : nx (bs.drop i) (first + i) due = none := by
  rw [List.drop_eq_nil_of_le h]; rfl

theorem nx_skip (bs : List Bool) (first due : Int) : ∀ i : Nat, first + i ≤ due → nx bs first due = nx (bs.drop i) (first + i) due := by
  intro i
  induction i with
  | zero => intro _; simp
  | succ i ih =>
    intro h
    rw [ih (by omega)]
    by_cases hl : i < bs.length
    · rw [nx_drop bs first due i hl, if_neg (by intro hh; omega)]
    · rw [nx_end _ _ _ _ (by omega), nx_end _ _ _ _ (by omega)]

/-- What the search answers: none before the first day. -/
def nxt (first : Int) (bs : List Bool) (due : Int) : Option Int := if due < first then none else nx bs first due

/-- Does the calendar cover the day? -/
def cov (first : Int) (bs : List Bool) (d : Int) : Bool := decide (first ≤ d) && decide (d ≤ first + bs.length - 1)
/-- Is the day open? -/
def opn (first : Int) (bs : List Bool) (d : Int) : Bool := cov first bs d && bs.getD (d - first).toNat false

theorem nx_spec (bs : List Bool) : ∀ (first due d : Int), nx bs first due = some d → due ≤ d ∧ opn first bs d = true := by
  induction bs with
  | nil => intro first due d h; cases h
  | cons b bs ih =>
    intro first due d h
    unfold nx at h
    by_cases hc : due ≤ first ∧ b = true
    · rw [if_pos hc] at h
      have hd : first = d := Option.some.inj h
      subst hd
      refine ⟨hc.1, ?_⟩
      have e : (first - first).toNat = 0 := by omega
      unfold opn cov
      simp [hc.2]
      omega
    · rw [if_neg hc] at h
      obtain ⟨h1, h2⟩ := ih (first + 1) due d h
      refine ⟨h1, ?_⟩
      unfold opn cov at *
      simp only [Bool.and_eq_true, decide_eq_true_eq, List.length_cons] at *
      obtain ⟨⟨h3, h4⟩, h5⟩ := h2
      refine ⟨⟨by omega, by omega⟩, ?_⟩
      have e : (d - first).toNat = (d - (first + 1)).toNat + 1 := by omega
      rw [e]
      simpa using h5

theorem nxt_spec (first : Int) (bs : List Bool) (due d : Int) (h : nxt first bs due = some d) : due ≤ d ∧ opn first bs d = true := by
  unfold nxt at h
  by_cases hc : due < first
  · rw [if_pos hc] at h; cases h
  · rw [if_neg hc] at h; exact nx_spec bs first due d h

/-- A known day, or unknown (2). -/
def known : Option Int → Int × Int
  | some d => (d, 0)
  | none => (0, 2)

/-- What a coupon due on 'due' is paid: the day and its state. -/
def pay (roll due tF : Int) (tB : List Bool) (wF : Int) (wB : List Bool) : Int × Int :=
  if roll = 0 then known (nxt wF wB due)
  else if roll = 1 then known (nxt tF tB due)
  else if (cov wF wB due && !opn wF wB due) || (cov tF tB due && !opn tF tB due) then (0, 3)
  else if !cov wF wB due || !cov tF tB due then (0, 2)
  else (due, 0)

/-- The five ways in which 'pay' ends. -/
theorem pay_ways (roll due tF : Int) (tB : List Bool) (wF : Int) (wB : List Bool) :
    (∃ d, pay roll due tF tB wF wB = (d, 0) ∧ roll = 0 ∧ due ≤ d ∧ opn wF wB d = true) ∨
    (∃ d, pay roll due tF tB wF wB = (d, 0) ∧ roll = 1 ∧ due ≤ d ∧ opn tF tB d = true) ∨
    (pay roll due tF tB wF wB = (due, 0) ∧ roll ≠ 0 ∧ roll ≠ 1 ∧ opn wF wB due = true ∧ opn tF tB due = true) ∨
    (pay roll due tF tB wF wB = (0, 2)) ∨
    (pay roll due tF tB wF wB = (0, 3) ∧ roll ≠ 0 ∧ roll ≠ 1) := by
  unfold pay
  by_cases h0 : roll = 0
  · rw [if_pos h0]
    cases h : nxt wF wB due with
    | none => exact Or.inr (Or.inr (Or.inr (Or.inl rfl)))
    | some d => exact Or.inl ⟨d, rfl, h0, (nxt_spec _ _ _ _ h).1, (nxt_spec _ _ _ _ h).2⟩
  · rw [if_neg h0]
    by_cases h1 : roll = 1
    · rw [if_pos h1]
      cases h : nxt tF tB due with
      | none => exact Or.inr (Or.inr (Or.inr (Or.inl rfl)))
      | some d => exact Or.inr (Or.inl ⟨d, rfl, h1, (nxt_spec _ _ _ _ h).1, (nxt_spec _ _ _ _ h).2⟩)
    · rw [if_neg h1]
      cases hcw : cov wF wB due <;> cases hct : cov tF tB due <;> cases how : opn wF wB due <;> cases hot : opn tF tB due <;> simp [h0, h1]
      all_goals simp [opn, hcw, hct] at how hot

end Go.Proofs.Ybulkaipe.Plain
