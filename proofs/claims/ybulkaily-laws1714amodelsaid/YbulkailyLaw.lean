/-
  The law's own function by its contract.
-/
import Derived.Test.YbulkailyCircuits
import Derived.Test.YbulkailyBuild
import Derived.Test.YbulkailyOpen
namespace Go.Proofs.Ybulkaily
open Go.RowKit
attribute [local go_sem ↓] Go.wp_at_zero Go.wp_at_succ

theorem build_any (v : Value) (I : List (Int × List Z)) (ex ag : Int) (w : World) (hv : InV w v I) (hb : 0 ≤ ex ∧ ex ≤ 4294967295 ∧ 0 ≤ ag ∧ ag ≤ 4294967295) :
    Calls Yba.prog 5 #[v, .int .u32 ex, .int .u32 ag] w fun e w' => Below w.heap.size w w' ∧ (e = .returned (.tuple #[.slice none 0 0, .bool false]) ∨ ∃ ob oc, e = .returned (.tuple #[.slice (some ⟨ob, 0, none⟩) (I.map (conv ex ag)).length oc, .bool true]) ∧ Ases ob (I.map (conv ex ag)) w') := by
  rcases hv with ⟨rfl, rfl⟩ | ⟨a, cap, rfl, hl, hin⟩
  · refine (build_nil ex ag w).mono ?_
    rintro e w' ⟨h1, ob, oc, rfl, h2⟩
    exact ⟨h1, Or.inr ⟨ob, oc, rfl, h2⟩⟩
  · by_cases hN : 256 < I.length
    · refine (build_big _ I.length (some a) cap ex ag w rfl hN hl).mono ?_
      rintro e w' ⟨rfl, rfl⟩
      exact ⟨Below.refl _ _, Or.inl rfl⟩
    · refine (build_some a I.length cap I ex ag w rfl (by omega) (fun h0 => ?_) hb hin).mono ?_
      · obtain ⟨x, _, b, kc, hc, _⟩ := hin 0 h0
        have := World.block_lt_of_cell? w _ hc
        rw [add_block] at this
        exact this
      · rintro e w' ⟨h1, h2⟩
        rw [List.length_map]
        exact ⟨h1, h2⟩

theorem inv_rc {w : World} {v : Value} {I : List (Int × List Z)} (h : InV w v I) (ex ag : Int) : ∀ x ∈ I.map (conv ex ag), 0 ≤ x.1 ∧ x.1 ≤ 4294967295 := by
  intro x hx
  obtain ⟨y, hy, rfl⟩ := List.mem_map.1 hx
  rcases h with ⟨_, rfl⟩ | ⟨a, cap, _, _, hin⟩
  · cases hy
  · obtain ⟨i, hi, rfl⟩ := List.getElem_of_mem hy
    obtain ⟨x, h1, b, c, _, _, h2, h3, _⟩ := hin i hi
    rw [List.getElem?_eq_getElem hi] at h1
    cases h1
    exact ⟨h2, h3⟩

theorem model_any (ob cap : Nat) (L : List (Int × List K)) (D O C rc : Int) (b : Bool) (w : World) (h : Ases ob L w) (hm : modelB L D O C rc = b) :
    Calls Yba.prog 7 #[.slice (some ⟨ob, 0, none⟩) L.length cap, .int .u32 D, .int .u32 O, .int .u16 C, .int .u32 rc] w fun e w' => e = .returned (.bool b) ∧ Below w.heap.size w w' := by
  subst hm
  by_cases hD : 16383 < D
  · refine (model_far _ D O C rc w hD).mono ?_
    rintro e w' ⟨rfl, rfl⟩
    exact ⟨by unfold modelB; rw [if_pos hD], Below.refl _ _⟩
  · exact model_near ob cap L D O C rc w hD h L.length rfl

theorem circ_get {L : List (Int × List K)} {xp xr ap ar : Int} {k : Nat} (hk : k < 4096) (h : (modelB L ap xp k ar && modelB L xp ap k xr) = true) : (circ L xp xr ap ar 4096)[(circ L xp xr ap ar k).length]? = some k := by
  have hp : circ L xp xr ap ar (k + 1) <+: circ L xp xr ap ar 4096 := by
    unfold circ
    refine List.IsPrefix.filter _ ?_
    have e : List.range 4096 = List.range (k + 1) ++ (List.range (4095 - k)).map (fun x => k + 1 + x) := by rw [← List.range_add, show k + 1 + (4095 - k) = 4096 by omega]
    rw [e]
    exact List.prefix_append _ _
  obtain ⟨t, ht⟩ := hp
  rw [← ht, circ_succ, if_pos h]
  simp

/-- A slice that owns its numbers, as the law reads it. -/
theorem own_form {w : World} {base n : Nat} {v : Value} {xs : List Value} (h : w.ownsRow base 32 1 v n xs) : ∃ o cap, v = .slice o n cap ∧ ∀ i u, xs[i]? = some u → ∃ g, o = some ⟨g, 0, none⟩ ∧ g < w.heap.size ∧ w.cell? ⟨g, i, none⟩ = some u := by
  rcases h.2 with ⟨rfl, rfl⟩ | ⟨g, cap, cur, rfl, h1, h2, h3⟩
  · refine ⟨none, 0, rfl, fun i u hu => ?_⟩
    have := h.1
    have := (List.getElem?_eq_some_iff.1 hu).1
    omega
  · exact ⟨some ⟨g, 0, none⟩, cap, rfl, fun i u hu => ⟨g, rfl, lt_of_block h2, own_cell h hu⟩⟩

set_option maxRecDepth 20000 in
set_option maxHeartbeats 3200000 in
theorem law_any (v : Value) (I : List (Int × List Z)) (xp ap : Nat) (xr ar : Int) (w : World) (hv : InV w v I) (hx : xp ≤ 4294967295) (ha : ap ≤ 4294967295) :
    Calls Yba.prog 3 #[v, .int .u32 xp, .int .u32 xr, .int .u32 ap, .int .u32 ar] w fun e w' => e = .returned (.bool true) ∧ Below w.heap.size w w' := by
  have HV : Hid (InV w v I) := hv
  clear hv
  go_enter Yba.func3, Yba.ntmps3
  go_wp2_with fail
  refine (build_any v I xp ap w HV.out (by omega)).mono ?_
  rintro e w1 ⟨hb1, rfl | ⟨ob, oc, rfl, hA⟩⟩
  · go_wp2
    refine bodyPost_ret (v := .bool true) (by simp [results, Yba.results3, go_sem]) rfl ⟨rfl, hb1⟩
  have HRC : Hid (∀ x ∈ I.map (conv xp ap), 0 ≤ x.1 ∧ x.1 ≤ 4294967295) := inv_rc HV.out xp ap
  generalize hL : I.map (conv xp ap) = L at *
  clear hL
  have HA : Hid (∀ W, Below w1.heap.size w1 W → Ases ob L W) := fun W hW => hA.below hW
  have HB1 : Hid (Below w.heap.size w w1) := hb1
  clear hA hb1
  go_wp2_with fail
  refine (circuits_any ob oc L.length L _ rfl (HA.out _ (Below.refl _ _)) HRC xp ap xr ar).mono ?_
  rintro e w2 ⟨gv, rfl, hown, hb2⟩
  obtain ⟨o, gcap, rfl, hget⟩ := own_form hown
  have HG : Hid (∀ i u, (u16s (circ L xp xr ap ar 4096))[i]? = some u → ∃ g, o = some ⟨g, 0, none⟩ ∧ g < w2.heap.size ∧ w2.cell? ⟨g, i, none⟩ = some u) := hget
  have HB2 : Hid (Below w1.heap.size w1 w2) := hb2
  have hlen := circ_len L xp xr ap ar 4096
  clear hown hb2 hget
  go_wp2
  go_loopw [14, 15] (fun n c wr => ∃ k : Nat, k ≤ 4096 ∧ c = .int .i64 k ∧ n = .int .i64 (circ L xp xr ap ar k).length ∧ Below w2.heap.size w2 wr) (fun _ c _ => 4096 - (intOf c).toNat)
  case atStart => exact ⟨0, Nat.zero_le _, rfl, rfl, Below.refl _ _⟩
  case round =>
    obtain ⟨k, hk, rfl, rfl, hbr⟩ := hrel
    have hln := circ_len L xp xr ap ar k
    by_cases hlt : k < 4096
    · have HB : Hid (Below w2.heap.size w2 wr) := hbr
      have HBw : Hid (Below w1.heap.size w1 wr) := HB2.out.trans (hbr.mono HB2.out.size)
      have HS : Hid _ := circ_succ L xp xr ap ar k
      clear hbr
      have hbool : ∀ b : Bool, b = true ∨ b = false := fun b => by cases b <;> simp
      rcases hbool (modelB L ap xp k ar) with h1 | h1
      · have HH1 : Hid (modelB L ap xp k ar = true) := h1
        clear h1
        go_wp2_with fail
        refine (model_any ob oc L ap xp k ar true _ (HA.out _ HBw.out) HH1.out).mono ?_
        rintro e wa ⟨rfl, hba⟩
        have HBa : Hid (Below w2.heap.size w2 wa) := HB.out.trans (hba.mono HB.out.size)
        have HBaw : Hid (Below w1.heap.size w1 wa) := HB2.out.trans (HBa.out.mono HB2.out.size)
        clear hba
        rcases hbool (modelB L xp ap k xr) with h2 | h2
        · have HH2 : Hid (modelB L xp ap k xr = true) := h2
          clear h2 hbool
          go_wp2_with fail
          refine (model_any ob oc L xp ap k xr true _ (HA.out _ HBaw.out) HH2.out).mono ?_
          rintro e wb ⟨rfl, hbb⟩
          have hcg := circ_get (xp := xp) (xr := xr) (ap := ap) (ar := ar) hlt (by rw [HH1.out, HH2.out]; rfl)
          have hil : (circ L xp xr ap ar k).length < (circ L xp xr ap ar 4096).length := (List.getElem?_eq_some_iff.1 hcg).1
          have HBb : Hid (Below w2.heap.size w2 wb) := HBa.out.trans (hbb.mono HBa.out.size)
          obtain ⟨g, ho, hgl, hgc⟩ := HG.out (circ L xp xr ap ar k).length (.int .u16 k) (by unfold u16s; rw [List.getElem?_map, hcg]; rfl)
          have hgc2 : wb.cell? ⟨g, (circ L xp xr ap ar k).length, none⟩ = some (.int .u16 k) := by rw [HBb.out.cell (by exact hgl)]; exact hgc
          have HSL : Hid ((circ L xp xr ap ar (k + 1)).length = (circ L xp xr ap ar k).length + 1) := by show _ = _; rw [HS.out, if_pos (by rw [HH1.out, HH2.out]; rfl)]; simp
          subst ho
          clear hcg hbb hgc
          go_wp2
          go_roundw
          case rel => exact ⟨k + 1, by omega, by go_num, by rw [HSL.out]; go_num, HBb.out⟩
          case measure => simp [intOf]; omega
        · have HH2 : Hid (modelB L xp ap k xr = false) := h2
          clear h2 hbool
          go_wp2_with fail
          refine (model_any ob oc L xp ap k xr false _ (HA.out _ HBaw.out) HH2.out).mono ?_
          rintro e wb ⟨rfl, hbb⟩
          have HBb : Hid (Below w2.heap.size w2 wb) := HBa.out.trans (hbb.mono HBa.out.size)
          have HSL : Hid ((circ L xp xr ap ar (k + 1)).length = (circ L xp xr ap ar k).length) := by show _ = _; rw [HS.out, if_neg (by rw [HH2.out]; simp)]; simp
          clear hbb
          go_wp2
          go_roundw
          case rel => exact ⟨k + 1, by omega, by go_num, by rw [HSL.out], HBb.out⟩
          case measure => simp [intOf]; omega
      · have HH1 : Hid (modelB L ap xp k ar = false) := h1
        clear h1 hbool
        go_wp2_with fail
        refine (model_any ob oc L ap xp k ar false _ (HA.out _ HBw.out) HH1.out).mono ?_
        rintro e wa ⟨rfl, hba⟩
        have HBa : Hid (Below w2.heap.size w2 wa) := HB.out.trans (hba.mono HB.out.size)
        have HSL : Hid ((circ L xp xr ap ar (k + 1)).length = (circ L xp xr ap ar k).length) := by show _ = _; rw [HS.out, if_neg (by rw [HH1.out]; simp)]; simp
        clear hba
        go_wp2
        go_roundw
        case rel => exact ⟨k + 1, by omega, by go_num, by rw [HSL.out], HBa.out⟩
        case measure => simp [intOf]; omega
    · obtain rfl : k = 4096 := by omega
      go_wp2
      refine bodyPost_ret (v := .bool true) (by simp [results, Yba.results3, go_sem]) rfl ⟨rfl, HB1.out.trans ((HB2.out.trans (hbr.mono HB2.out.size)).mono HB1.out.size)⟩
end Go.Proofs.Ybulkaily
