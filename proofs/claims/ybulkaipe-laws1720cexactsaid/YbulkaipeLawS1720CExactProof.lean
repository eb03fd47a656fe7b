/-
  THE PROOF OF 'Rows.LawS1720CExactSaid': the frame after the guide's shell, the walk ours.
-/
import Derived.Test.YbulkaipeExact
namespace Go.Proofs.Ybulkaipe.lawS1720CExact
open Go.ChangeShapes Go.WideShapes Go.ChangeAt Go.RowKit

theorem walk (r due wF : Int) (wa : Option Addr) (wl wcap : Nat) (tF : Int) (ta : Option Addr) (tl tcap : Nat) (w : World)
    (h0 : (Lit.int .u8 r).wf = true) (h1 : (Lit.int .i32 due).wf = true) (h2 : (Lit.int .i16 wF).wf = true) (h3 : ∃ bs, Row wa wl bs w ∧ wl ≤ maxLen) (h4 : (Lit.int .i16 tF).wf = true) (h5 : ∃ bs, Row ta tl bs w ∧ tl ≤ maxLen) :
    Calls Yba.prog 3 #[.int .u8 r, .int .i32 due, .int .i16 wF, .slice wa wl wcap, .int .i16 tF, .slice ta tl tcap] w fun e w' => e = .returned (.bool true) ∧ Below w.heap.size w w' := by
  have b0 := bounds_u8 h0
  have b1 := bounds_i32 h1
  have b2 := bounds_i16 h2
  have b4 := bounds_i16 h4
  obtain ⟨wB, hW, hwm⟩ := h3
  obtain ⟨tB, hT, htm⟩ := h5
  by_cases hl : 1024 < wl ∨ 1024 < tl
  · exact exact_long r due wF wa wl wcap tF ta tl tcap w hwm htm hl
  · exact exact_any r due wF wa wl wcap wB tF ta tl tcap tB w b0.1 b0.2 b1.1 b1.2 b2.1 b2.2 b4.1 b4.2 (by omega) (by omega) hW hT

set_option maxRecDepth 100000 in
theorem lifted (os : Os) (started : os.Started) (H : Type) (enc : TypeId × Value → H) :
    ReturnsInHanded {} Yba.checked os 3 .any (Rows.lawS1720CExactSpec.pre6 enc Yba.prog Yba.f3 Rows.lawS1720CExactRow.domain false) (Rows.lawS1720CExactSpec.post enc Yba.prog Yba.f3 false true false false) := by
  refine returnsInHanded_of_change (C := Yba.checked) own started (by kernel_rfl) Yba.func3
    (ChangeSpec.witness6 (enc := enc) (C := Yba.checked) false ⟨#[], #[.int .u8 0, .int .i32 0, .int .i16 0, .slice none 0 0, .int .i16 0, .slice none 0 0], []⟩ 8 (by kernel_rfl) (by kernel_rfl) (by kernel_rfl) (by kernel_rfl)) ?_
  intro W base args ds gs before hval0 hW hcnd _
  have hval : ∀ (j : Nat) t v, Yba.f3.params[j]? = some t → args[j]? = some v → Value.okWide Yba.prog W .any base t v := hval0
  have hW' := hW
  obtain ⟨p, q, hA0, hV, rfl, hfz, hnd⟩ := hW
  have hA : DataW.TrodAll enc Yba.prog W 0 (fun _ => true) true Yba.f3.params.toList args.toList ds p := hA0
  rw [Yba.params3] at hA hval
  obtain ⟨v0, vs0, d0, ds0, p0, q0, hargs, rfl, rfl, h0, r0⟩ := trodAll_cons hA
  obtain ⟨v1, vs1, d1, ds1, p1, q1, rfl, rfl, rfl, h1, r1⟩ := trodAll_cons r0
  obtain ⟨v2, vs2, d2, ds2, p2, q2, rfl, rfl, rfl, h2, r2⟩ := trodAll_cons r1
  obtain ⟨v3, vs3, d3, ds3, p3, q3, rfl, rfl, rfl, h3, r3⟩ := trodAll_cons r2
  obtain ⟨v4, vs4, d4, ds4, p4, q4, rfl, rfl, rfl, h4, r4⟩ := trodAll_cons r3
  obtain ⟨v5, vs5, d5, ds5, p5, q5, rfl, rfl, rfl, h5, r5⟩ := trodAll_cons r4
  obtain ⟨rfl, rfl, rfl⟩ := trodAll_nil r5
  obtain rfl : args = #[v0, v1, v2, v3, v4, v5] := by cases args; simp_all
  obtain ⟨rfl, rfl⟩ := trodVars_none hV
  obtain ⟨a0, rfl, rfl, rfl, w0⟩ := open_int Yba.underlying5 (hval 0 5 v0 rfl rfl) h0
  obtain ⟨a1, rfl, rfl, rfl, w1⟩ := open_int Yba.underlying21 (hval 1 21 v1 rfl rfl) h1
  obtain ⟨a2, rfl, rfl, rfl, w2⟩ := open_int Yba.underlying22 (hval 2 22 v2 rfl rfl) h2
  obtain ⟨a3, len3, cap3, rfl⟩ := okWide_slice Yba.underlying23 (hval 3 23 v3 rfl rfl)
  have k3 := h3
  have lt3 : ∀ x ∈ p3, x.block < W.heap.size := by obtain ⟨m, hm⟩ := k3; exact DataW.trod_lt m _ _ _ hm
  obtain ⟨a4, rfl, rfl, rfl, w4⟩ := open_int Yba.underlying22 (hval 4 22 v4 rfl rfl) h4
  obtain ⟨a5, len5, cap5, rfl⟩ := okWide_slice Yba.underlying23 (hval 5 23 v5 rfl rfl)
  have k5 := h5
  have lt5 : ∀ x ∈ p5, x.block < W.heap.size := by obtain ⟨m, hm⟩ := k5; exact DataW.trod_lt m _ _ _ hm
  clear hA0 hval0
  refine (walk a0 a1 a2 a3 len3 cap3 a4 a5 len5 cap5 W w0 w1 w2 (open_row h3) w4 (open_row h5)).mono fun e W' ⟨he, bel⟩ => ?_
  subst he
  exact ⟨_, rfl, _, _, _, [], _, [], hW', trodAll_mk1 (shut_bool Yba.underlying4 _), (trodAll_cons_mk (shut_int Yba.underlying5 w0) (trodAll_cons_mk (shut_int Yba.underlying21 w1) (trodAll_cons_mk (shut_int Yba.underlying22 w2) (trodAll_cons_mk (Below.trod laidOut (by kernel_rfl) (of_decide_eq_true (by kernel_rfl)) k3 bel lt3) (trodAll_cons_mk (shut_int Yba.underlying22 w4) (trodAll_cons_mk (Below.trod laidOut (by kernel_rfl) (of_decide_eq_true (by kernel_rfl)) k5 bel lt5) trodAll_mk0)))))), rfl, bel.frame _, fun h => by cases h⟩

theorem over : Rows.lawS1720CExactRow.holds Yba.pinned (OpenSpec.ofChange Rows.lawS1720CExactSpec) :=
  OpenClaim.holds_of_wide 3 Yba.f3 rfl rfl rfl rfl rfl rfl rfl ⟨rfl, rfl, rfl, rfl, rfl⟩ rfl rfl rfl rfl rfl (by kernel_rfl) Yba.func3 (by kernel_rfl)
    (of_decide_eq_true (by kernel_rfl)) (by unfold Func.isWrapper; first | (rw [if_pos (by decide +kernel)]; kernel_rfl) | (rw [if_neg (by decide +kernel)]; exact ⟨rfl, rfl⟩))
    (fun os started H enc _ => lifted os started H enc)

/-- ████ THE STATEMENT ████ -/
theorem proved : Rows.LawS1720CExactSaid := over
#print axioms proved
end Go.Proofs.Ybulkaipe.lawS1720CExact
