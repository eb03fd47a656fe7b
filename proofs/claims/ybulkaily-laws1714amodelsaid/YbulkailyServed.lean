/-
  The table as memory holds it; servedBy by its contract.
-/
import Derived.Test.YbulkailyLookup
import Derived.Deep.QuietTactic
namespace Go.Proofs.Ybulkaily
open Go.RowKit

/-- The table at block T: at each DPC its routes 'f p'; 'rcOf b': the routing context of the server at block b. -/
structure Tab (T : Nat) (f : Nat → List (K × Nat)) (rcOf : Nat → Int) (w : World) : Prop where
  lt : T < w.heap.size
  none_ : ∀ p, p ≤ 16383 → f p = [] → w.cell? ⟨T, p, none⟩ = some (.pointer none)
  some_ : ∀ p, p ≤ 16383 → f p ≠ [] → ∃ db rb cap s, db < w.heap.size ∧ rb < w.heap.size ∧ w.cell? ⟨T, p, none⟩ = some (.pointer (some ⟨db, 0, none⟩)) ∧
    w.heap[db]? = some (.cells #[.slice (some ⟨rb, 0, none⟩) (f p).length cap, .int .u16 s] 81 (0, 0)) ∧ ∀ i, i < (f p).length → ∃ r, (f p)[i]? = some r ∧ r.1.Ok ∧ RouteAt rb i r w
  srv : ∀ p r, r ∈ f p → r.2 < w.heap.size ∧ w.cell? ⟨r.2, 1, none⟩ = some (.int .u32 (rcOf r.2))
  small : ∀ p, (f p).length ≤ 1000000

theorem Tab.below {T : Nat} {f : Nat → List (K × Nat)} {rcOf : Nat → Int} {w w' : World} (h : Tab T f rcOf w) (hb : Below w.heap.size w w') : Tab T f rcOf w' where
  lt := Nat.lt_of_lt_of_le h.lt hb.size
  none_ := fun p hp h0 => by rw [hb.cell h.lt]; exact h.none_ p hp h0
  some_ := fun p hp h0 => by
    obtain ⟨db, rb, cap, s, h1, h2, h3, h4, h5⟩ := h.some_ p hp h0
    have hs := hb.size
    refine ⟨db, rb, cap, s, by omega, by omega, by rw [hb.cell h.lt]; exact h3, by rw [hb.block _ h1]; exact h4, fun i hi => ?_⟩
    obtain ⟨r, hr, hk, ha⟩ := h5 i hi
    exact ⟨r, hr, hk, fun j v hj => by rw [hb.cell h2]; exact ha j v hj⟩
  srv := fun p r hr => by
    obtain ⟨h1, h2⟩ := h.srv p r hr
    exact ⟨Nat.lt_of_lt_of_le h1 hb.size, by rw [hb.cell h1]; exact h2⟩
  small := h.small

/-- Which server the table sends the message to. -/
def lookF (f : Nat → List (K × Nat)) (D : Nat) (O C : Int) : Option Nat := if 16383 < D then none else (lookK (f D) D O C (f D).length).1

theorem lookK_mem (rs : List (K × Nat)) (D O C : Int) (k : Nat) (b : Nat) (h : (lookK rs D O C k).1 = some b) : ∃ r ∈ rs, r.2 = b := by
  have hg : ∀ (l : List (K × Nat)) (a : Option Nat × K), (l.foldl (lstep D O C) a).1 = some b → a.1 = some b ∨ ∃ r ∈ l, r.2 = b := by
    intro l
    induction l with
    | nil => intro a ha; exact Or.inl ha
    | cons r l ih =>
      intro a ha
      rw [List.foldl_cons] at ha
      rcases ih _ ha with h1 | ⟨x, hx, he⟩
      · unfold lstep at h1
        split at h1
        · exact Or.inr ⟨r, List.mem_cons_self, Option.some.inj h1⟩
        · exact Or.inl h1
      · exact Or.inr ⟨x, List.mem_cons_of_mem _ hx, he⟩
  rcases hg _ _ h with h1 | ⟨r, hr, he⟩
  · cases h1
  · exact ⟨r, List.mem_of_mem_take hr, he⟩

/-- Lookup over the table. -/
theorem lookup_any (T : Nat) (f : Nat → List (K × Nat)) (rcOf : Nat → Int) (D : Nat) (O C : Int) (w : World) (h : Tab T f rcOf w) :
    Calls Yba.prog 13 #[.pointer (some ⟨T, 0, none⟩), msgVal D O C] w fun e w' => (∃ k : K, e = .returned (.tuple #[asV (lookF f D O C), k.val, .bool (lookF f D O C).isSome])) ∧ Below w.heap.size w w' := by
  unfold lookF
  by_cases hp : 16383 < D
  · rw [if_pos hp]
    refine (lookup_far T D O C w (by omega)).mono ?_
    rintro e w' ⟨rfl, hb⟩
    exact ⟨⟨_, rfl⟩, hb⟩
  · rw [if_neg hp]
    by_cases h0 : f D = []
    · refine (lookup_nil T D O C w (by omega) h.lt (h.none_ D (by omega) h0)).mono ?_
      rintro e w' ⟨rfl, hb⟩
      rw [h0]
      exact ⟨⟨_, rfl⟩, hb⟩
    · obtain ⟨db, rb, cap, s, h1, h2, h3, h4, h5⟩ := h.some_ D (by omega) h0
      refine (lookup_some T db rb (f D).length cap s D O C D rfl (f D) w rfl (h.small D) (by omega) h2 h1 h.lt h5 h3 h4).mono ?_
      rintro e w' ⟨rfl, hb⟩
      exact ⟨⟨_, rfl⟩, hb⟩

/-- Does the table send the message to a server of context rc? -/
def servedT (f : Nat → List (K × Nat)) (rcOf : Nat → Int) (D : Nat) (O C rc : Int) : Bool :=
  match lookF f D O C with
  | none => false
  | some b => rcOf b == rc

set_option maxHeartbeats 800000 in
theorem servedBy_any (T : Nat) (f : Nat → List (K × Nat)) (rcOf : Nat → Int) (D : Nat) (O C rc pc : Int) (w : World) (h : Tab T f rcOf w) :
    Calls Yba.prog 10 #[.pointer (some ⟨T, 0, none⟩), msgVal D O C, .agg #[.int .u32 rc, .int .u32 pc]] w fun e w' => e = .returned (.bool (servedT f rcOf D O C rc)) ∧ Below w.heap.size w w' := by
  have HT : Hid (∀ w', Below w.heap.size w w' → Tab T f rcOf w') := fun w' hb => h.below hb
  have hmem : ∀ b, lookF f D O C = some b → b < w.heap.size ∧ w.cell? ⟨b, 1, none⟩ = some (.int .u32 (rcOf b)) := by
    intro b hb
    unfold lookF at hb
    split at hb
    · cases hb
    · obtain ⟨r, hr, rfl⟩ := lookK_mem _ _ _ _ _ _ hb
      exact h.srv D r hr
  clear h
  unfold msgVal
  go_enter Yba.func10, Yba.ntmps10
  go_wp2_with fail
  refine (lookup_any T f rcOf D O C _ (HT.out _ (((Below.refl _ _).alloc (Nat.le_refl _) _).alloc (by simp) _))).mono ?_
  rintro e w1 ⟨⟨⟨kd, ko, ks, kl, kh, kp⟩, rfl⟩, hb1⟩
  have hs1 : w.heap.size + 1 + 1 ≤ w1.heap.size := by have := hb1.size; simpa using this
  have c0 : w1.cell? ⟨w.heap.size + 1, 0, none⟩ = some (.int .u32 rc) := by rw [hb1.cell (by simp)]; simp [go_sem]
  have hB : Below w.heap.size w w1 := (((Below.refl _ _).alloc (Nat.le_refl _) _).alloc (by simp) _).trans (hb1.mono (by simp; omega))
  have hl1 : w.heap.size + 1 < w1.heap.size := by omega
  unfold K.val
  clear hb1
  cases hlk : lookF f D O C with
  | none =>
    have HR : Hid (servedT f rcOf D O C rc = false) := by show _ = _; unfold servedT; rw [hlk]
    clear hmem hlk
    unfold asV
    go_wp2
    go_quiet (fail)
    go_wp2
    refine bodyPost_ret (v := .bool false) (by simp [results, Yba.results10, go_sem]) rfl ⟨by rw [HR.out], ?_⟩
    exact below_drewN (hB.alloc hB.size _) _
  | some b =>
    obtain ⟨hb1, hb2⟩ := hmem b hlk
    have hb3 : w1.cell? ⟨b, 1, none⟩ = some (.int .u32 (rcOf b)) := by rw [hB.cell hb1]; exact hb2
    have hb4 : b < w1.heap.size := Nat.lt_of_lt_of_le hb1 hB.size
    have HR : Hid (servedT f rcOf D O C rc = (rcOf b == rc)) := by show _ = _; unfold servedT; rw [hlk]
    clear hmem hlk hb2
    unfold asV
    go_wp2
    go_quiet (fail)
    go_wp2
    refine bodyPost_ret (v := .bool (rcOf b == rc)) (by simp [results, Yba.results10, go_sem]) rfl ⟨by rw [HR.out], ?_⟩
    exact below_drewN (hB.alloc hB.size _) _
end Go.Proofs.Ybulkaily
