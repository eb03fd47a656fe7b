/-
  THE PROOF OF 'Rows.LawS1728BExactSaid'. The frame: the guide's shell; the walk: ours.
-/
import Derived.Test.YbulkaitmRows
import Derived.WalkKit
import Derived.ProofKit
import Derived.OpenShut
import Derived.ShutString
import Derived.Test.YbulkaitmPlain
namespace Go.Proofs.Ybulkaitm.lawS1728BExact
open Go.ChangeShapes Go.WideShapes Go.ChangeAt Go.RowKit
open Go.ChangeMaps (open_string shut_string)
set_option linter.unusedVariables false      -- a walk need not use every 'w<i>' (that an integer argument fits its kind)

theorem own : ownKnob Yba.prog.godebug = none := by kernel_rfl

/-! ### THE WALK -/
set_option maxHeartbeats 400000 in
/-- isPrime at 2 ≤ n ≤ 65536: true just where n has two divisors. -/
theorem prime_any (n : Nat) (w : World) (h2 : 2 ≤ n) (hn : n ≤ 65536) :
    Calls Yba.prog 5 #[.int .i64 n] w fun e w' => e = .returned (.bool (Plain.cnt n n == 2)) ∧ w' = w := by
  go_enter Yba.func5, Yba.ntmps5
  go_wp2
  go_loop [3] (fun d => ∃ k : Nat, 2 ≤ k ∧ k ≤ 257 ∧ d = .int .i64 k ∧ Hid (∀ j : Nat, 2 ≤ j → j < k → ¬ n % j = 0)) (fun d => 300 - (intOf d).toNat)
  case atStart => exact ⟨2, by omega, by omega, rfl, fun j h1 h2 => by omega⟩
  case round =>
    obtain ⟨k, hk2, hk, rfl, HJ⟩ := hrel
    have hkk : (k : Int) * (k : Int) ≤ 257 * 257 := Int.mul_le_mul (by omega) (by omega) (by omega) (by omega)
    have hk0 : 0 ≤ (k : Int) * (k : Int) := Int.mul_nonneg (by omega) (by omega)
    by_cases hs : k * k ≤ n
    · have hs' : (k : Int) * (k : Int) ≤ (n : Int) := by have : ((k * k : Nat) : Int) ≤ (n : Int) := by omega
                                                         rwa [Int.natCast_mul] at this
      have hk1 : k ≤ 256 := by
        apply Classical.byContradiction; intro h
        have : 257 * 257 ≤ k * k := Nat.mul_le_mul (by omega) (by omega)
        omega
      by_cases hd : n % k = 0
      · have hdi : ((n : Int) % (k : Int) == 0) = true := by rw [beq_iff_eq]; omega
        have HC : Hid (Plain.cnt n n ≠ 2) := Plain.law_no n k hk2 hs hd
        clear hd
        go_wp2
        go_ret
        exact ⟨by simp [HC.out], rfl⟩
      · have hdi : ((n : Int) % (k : Int) == 0) = false := by rw [beq_eq_false_iff_ne]; omega
        go_wp2
        go_round
        case rel =>
          refine ⟨k + 1, by omega, by omega, by go_num, ?_⟩
          intro j h1 h3
          by_cases e : j = k
          · subst e; exact hd
          · exact HJ.out j h1 (by omega)
        case measure => simp [intOf]; omega
    · have hs' : ¬ (k : Int) * (k : Int) ≤ (n : Int) := by
        intro h
        have : ((k * k : Nat) : Int) ≤ (n : Int) := by rw [Int.natCast_mul]; exact h
        omega
      have HC : Hid (Plain.cnt n n = 2) := Plain.law_yes n h2 (fun d h1 h3 => HJ.out d h1 (by
        apply Classical.byContradiction; intro h
        have : k * k ≤ d * d := Nat.mul_le_mul (by omega) (by omega)
        omega))
      go_wp2
      go_ret
      exact ⟨by simp [HC.out], rfl⟩

theorem two_two (c : Nat) : ((c == 2) == ((c : Int) == 2)) = true := by
  have e : ((c : Int) == 2) = (c == 2) := by rw [Bool.eq_iff_iff]; simp; omega
  rw [e]; simp

set_option maxHeartbeats 400000 in
theorem walk (a0 : Int) (w0 : (Lit.int .i64 a0).wf = true) (w : World) :
    Calls Yba.prog 3 #[.int .i64 a0] w fun e w' => e = .returned (.bool true) ∧ Grown w w' := by
  by_cases hbig : 65536 < a0
  · go_enter Yba.func3, Yba.ntmps3
    go_wp2
    go_ret
    exact ⟨rfl, Grown.refl _⟩
  by_cases hsm : a0 < 2
  · have hge : ¬ 2 ≤ a0 := by omega
    have b0 := bounds_i64 w0
    go_enter Yba.func3, Yba.ntmps3
    go_wp2
    go_ret
    exact ⟨rfl, Grown.refl _⟩
  obtain ⟨n, rfl⟩ := Int.eq_ofNat_of_zero_le (show 0 ≤ a0 by omega)
  have h2 : 2 ≤ n := by omega
  have hn : n ≤ 65536 := by omega
  go_enter Yba.func3, Yba.ntmps3
  go_wp2
  go_loop [4, 5] (fun c d => ∃ k : Nat, k ≤ n ∧ c = .int .i64 (Plain.cnt n k) ∧ d = .int .i64 ((k : Int) + 1)) (fun _ d => n + 1 - (intOf d).toNat)
  case atStart => exact ⟨0, Nat.zero_le _, rfl, rfl⟩
  case round =>
    obtain ⟨k, hk, rfl, rfl⟩ := hrel
    have hcl := Plain.cnt_le n k
    by_cases hlt : k < n
    · have HS : Hid (Plain.cnt n (k + 1) = Plain.cnt n k + if n % (k + 1) = 0 then 1 else 0) := rfl
      have em : (n : Int) % ((k : Int) + 1) = ((n % (k + 1) : Nat) : Int) := by rw [Int.natCast_emod]; rfl
      by_cases hd : n % (k + 1) = 0
      · have hdi : ((n : Int) % ((k : Int) + 1) == 0) = true := by rw [beq_iff_eq, em]; omega
        have HD : Hid (n % (k + 1) = 0) := hd
        clear hd em
        go_wp2
        go_round
        case rel => exact ⟨k + 1, by omega, by rw [HS.out, if_pos HD.out]; go_num, by go_num⟩
        case measure => simp [intOf]; omega
      · have hdi : ((n : Int) % ((k : Int) + 1) == 0) = false := by rw [beq_eq_false_iff_ne, em]; omega
        have HD : Hid (¬ n % (k + 1) = 0) := hd
        clear hd em
        go_wp2
        go_round
        case rel => exact ⟨k + 1, by omega, by rw [HS.out, if_neg HD.out]; go_num, by go_num⟩
        case measure => simp [intOf]; omega
    · obtain rfl : k = n := by omega
      go_wp2_with (go_at_call 5; refine (prime_any _ _ h2 hn).mono ?_; rintro e w' ⟨rfl, rfl⟩)
      go_ret
      exact ⟨congrArg (fun b => Ending.returned (.bool b)) (two_two _), Grown.refl _⟩

/-! ### THE ROW's STEP: WRITTEN OUT: LEAVE IT -/
set_option maxRecDepth 100000 in
theorem lifted (os : Os) (started : os.Started) (H : Type) (enc : TypeId × Value → H) :
    ReturnsInHanded {} Yba.checked os 3 .any (Rows.lawS1728BExactSpec.pre6 enc Yba.prog Yba.f3 Rows.lawS1728BExactRow.domain false) (Rows.lawS1728BExactSpec.post enc Yba.prog Yba.f3 false true false false) := by
  refine returnsInHanded_of_change (C := Yba.checked) own started (by kernel_rfl) Yba.func3
    (ChangeSpec.witness6 (enc := enc) (C := Yba.checked) false ⟨#[], #[.int .i64 0], []⟩ 8 (by kernel_rfl) (by kernel_rfl) (by kernel_rfl) (by kernel_rfl)) ?_
  intro W base args ds gs before hval0 hW hcnd _
  have hval : ∀ (j : Nat) t v, Yba.f3.params[j]? = some t → args[j]? = some v → Value.okWide Yba.prog W .any base t v := hval0
  have hW' := hW
  obtain ⟨p, q, hA0, hV, rfl, hfz, hnd⟩ := hW
  have hA : DataW.TrodAll enc Yba.prog W 0 (fun _ => true) true Yba.f3.params.toList args.toList ds p := hA0
  rw [Yba.params3] at hA hval
  obtain ⟨v0, vs0, d0, ds0, p0, q0, hargs, rfl, rfl, h0, r0⟩ := trodAll_cons hA
  obtain ⟨rfl, rfl, rfl⟩ := trodAll_nil r0
  obtain rfl : args = #[v0] := by cases args; simp_all
  obtain ⟨rfl, rfl⟩ := trodVars_none hV
  obtain ⟨a0, rfl, rfl, rfl, w0⟩ := open_int Yba.underlying3 (hval 0 3 v0 rfl rfl) h0
  clear hA0 hval0
  simp only [List.append_nil] at hW'
  refine (walk a0 w0 W).mono fun e W' ⟨he, hg⟩ => ?_
  subst he
  exact ⟨_, rfl, post_of_same (pa := []) (pv := []) hW' (fun _ _ _ => (trodAll_cons_mk (shut_bool Yba.underlying4 _) trodAll_mk0)) (fun sp _ => (trodAll_cons_mk (shut_int Yba.underlying3 w0) trodAll_mk0)) (fun _ _ => rfl) rfl
    (hg.frame _) hg.2.1 (ok_one (by kernel_rfl) rfl (okWide_bool_mk Yba.underlying4 _))⟩

theorem over : Rows.lawS1728BExactRow.holds Yba.pinned (OpenSpec.ofChange Rows.lawS1728BExactSpec) :=
  OpenClaim.holds_of_wide 3 Yba.f3 rfl rfl rfl rfl rfl rfl rfl ⟨rfl, rfl, rfl, rfl, rfl⟩ rfl rfl rfl rfl rfl (by kernel_rfl) Yba.func3 (by kernel_rfl)
    (of_decide_eq_true (by kernel_rfl)) (by unfold Func.isWrapper; first | (rw [if_pos (by decide +kernel)]; kernel_rfl) | (rw [if_neg (by decide +kernel)]; exact ⟨rfl, rfl⟩))
    (fun os started H enc _ => lifted os started H enc)

/-- ████ THE STATEMENT ████ -/
theorem proved : Rows.LawS1728BExactSaid :=
  over
#print axioms proved
end Go.Proofs.Ybulkaitm.lawS1728BExact
