/-
  The law's model of the search (zzs1714aserved) by its contract.
-/
import Derived.Test.YbulkailyAses
namespace Go.Proofs.Ybulkaily
open Go.RowKit
attribute [local go_sem ↓] Go.wp_at_zero Go.wp_at_succ

/-- One step of the model: the best so far (its server's context), and how many parts its key names. -/
def mstep (D O C : Int) (a : Option Int × Int) (r : K × Int) : Option Int × Int :=
  if matchB r.1 D O C && (!a.1.isSome || decide (a.2 < named r.1)) then (some r.2, named r.1) else a
/-- .. over a server's keys. -/
def mkeys (D O C : Int) (rc : Int) (a : Option Int × Int) (ks : List K) : Option Int × Int := ks.foldl (fun a k => mstep D O C a (k, rc)) a
/-- .. over the servers. -/
def mAll (D O C : Int) (L : List (Int × List K)) : Option Int × Int := L.foldl (fun a x => mkeys D O C x.1 a x.2) (none, 0)

def modelB (L : List (Int × List K)) (D O C rc : Int) : Bool :=
  if 16383 < D then false else match (mAll D O C L).1 with
  | none => false
  | some r => r == rc

theorem mAll_succ {D O C : Int} {L : List (Int × List K)} {i : Nat} {x : Int × List K} (h : L[i]? = some x) : mAll D O C (L.take (i + 1)) = mkeys D O C x.1 (mAll D O C (L.take i)) x.2 := by
  obtain ⟨hlt, he⟩ := List.getElem?_eq_some_iff.1 h
  unfold mAll
  rw [List.take_succ_eq_append_getElem hlt, List.foldl_append, he]
  rfl
theorem mkeys_succ {D O C rc : Int} {a : Option Int × Int} {ks : List K} {j : Nat} {k : K} (h : ks[j]? = some k) : mkeys D O C rc a (ks.take (j + 1)) = mstep D O C (mkeys D O C rc a (ks.take j)) (k, rc) := by
  obtain ⟨hlt, he⟩ := List.getElem?_eq_some_iff.1 h
  unfold mkeys
  rw [List.take_succ_eq_append_getElem hlt, List.foldl_append, he]
  rfl

theorem model_far (v : Value) (D O C rc : Int) (w : World) (hD : 16383 < D) :
    Calls Yba.prog 7 #[v, .int .u32 D, .int .u32 O, .int .u16 C, .int .u32 rc] w fun e w' => e = .returned (.bool false) ∧ w' = w := by
  go_enter Yba.func7, Yba.ntmps7
  go_wp2
  go_ret
  exact ⟨rfl, rfl⟩

set_option maxRecDepth 20000 in
set_option maxHeartbeats 3200000 in
theorem model_near (ob cap : Nat) (L : List (Int × List K)) (D O C rc : Int) (w : World) (hD : ¬ 16383 < D) (h : Ases ob L w) (N : Nat) (hN : L.length = N) :
    Calls Yba.prog 7 #[.slice (some ⟨ob, 0, none⟩) N cap, .int .u32 D, .int .u32 O, .int .u16 C, .int .u32 rc] w fun e w' => e = .returned (.bool (modelB L D O C rc)) ∧ Below w.heap.size w w' := by
  have hsm := h.small
  have hob := h.lt
  have HA : Hid (∀ i, i < L.length → ∃ x, L[i]? = some x ∧ x.2.length ≤ 256 ∧ AsAt ob i x w) := h.at_
  clear h
  go_enter Yba.func7, Yba.ntmps7
  go_wp2
  go_loopw [11, 12, 13, 22] (fun fo be br ii wr => ∃ i : Nat, i ≤ N ∧ ii = .int .i64 i ∧ fo = .bool (mAll D O C (L.take i)).1.isSome ∧ be = .int .i64 (mAll D O C (L.take i)).2 ∧ br = .int .u32 ((mAll D O C (L.take i)).1.getD 0) ∧ Below w.heap.size w wr) (fun _ _ _ ii _ => N - (intOf ii).toNat)
  case atStart => exact ⟨0, Nat.zero_le _, rfl, rfl, rfl, rfl, Below.refl _ _⟩
  case round =>
    obtain ⟨i, hi, rfl, rfl, rfl, rfl, hB⟩ := hrel
    by_cases hlt : i < N
    · obtain ⟨⟨xr, ks⟩, hx, hl, kb, kcap, hkb, c0, c1, c2, c3, hks⟩ := HA.out i (by omega)
      dsimp only at hl c1 c3 hks
      have e1 : wr.cell? ⟨ob, i * 4 + 1, none⟩ = some (.int .u32 xr) := by rw [hB.cell hob]; exact c1
      have e3 : wr.cell? ⟨ob, i * 4 + 3, none⟩ = some (.slice (some ⟨kb, 0, none⟩) ks.length kcap) := by rw [hB.cell hob]; exact c3
      have HE1 : Hid (w.cell? ⟨ob, i * 4 + 1, none⟩ = some (.int .u32 xr)) := c1
      have HE3 : Hid (w.cell? ⟨ob, i * 4 + 3, none⟩ = some (.slice (some ⟨kb, 0, none⟩) ks.length kcap)) := c3
      have HKS : Hid (∀ j, j < ks.length → ∃ k, ks[j]? = some k ∧ k.Ok ∧ KeyAt kb j k w) := hks
      have HSu : Hid _ := mAll_succ (D := D) (O := O) (C := C) hx
      clear c0 c1 c2 c3 hks
      generalize hst : mAll D O C (L.take i) = st at *
      clear hst
      go_wp2
      go_loopw [11, 12, 13, 31] (fun fo be br jj wq => ∃ j : Nat, j ≤ ks.length ∧ jj = .int .i64 j ∧ fo = .bool (mkeys D O C xr st (ks.take j)).1.isSome ∧ be = .int .i64 (mkeys D O C xr st (ks.take j)).2 ∧ br = .int .u32 ((mkeys D O C xr st (ks.take j)).1.getD 0) ∧ Below w.heap.size w wq) (fun _ _ _ jj _ => ks.length - (intOf jj).toNat)
      case atStart => exact ⟨0, Nat.zero_le _, rfl, rfl, rfl, rfl, hB⟩
      case round =>
        clear e1 e3 hB
        obtain ⟨j, hj, rfl, rfl, rfl, rfl, hB⟩ := hrel
        by_cases hjl : j < ks.length
        · obtain ⟨⟨d, o, si, l, h, pp⟩, hk, hok, hat⟩ := HKS.out j hjl
          have e1 : wr.cell? ⟨ob, i * 4 + 1, none⟩ = some (.int .u32 xr) := by rw [hB.cell hob]; exact HE1.out
          have e3 : wr.cell? ⟨ob, i * 4 + 3, none⟩ = some (.slice (some ⟨kb, 0, none⟩) ks.length kcap) := by rw [hB.cell hob]; exact HE3.out
          have q : ∀ t v, (K.cells ⟨d, o, si, l, h, pp⟩)[t]? = some v → wr.cell? ⟨kb, j * 6 + t, none⟩ = some v := fun t v ht => by rw [hB.cell hkb]; exact hat t v ht
          have q0 := q 0 _ rfl
          have q1 := q 1 _ rfl
          have q2 := q 2 _ rfl
          have q3 := q 3 _ rfl
          have q4 := q 4 _ rfl
          have q5 := q 5 _ rfl
          dsimp only at q0 q1 q2 q3 q4 q5
          rw [Nat.add_zero] at q0
          have hp0 := hok.p0
          have hp1 := hok.p1
          have HOK : Hid (K.Ok ⟨d, o, si, l, h, pp⟩) := hok
          dsimp only at hp0 hp1
          have hon := ones_le pp hp0 hp1
          have hobq : ob < wr.heap.size := Nat.lt_of_lt_of_le hob hB.size
          have HB : Hid (Below w.heap.size w (wr.alloc (K.obj ⟨d, o, si, l, h, pp⟩))) := hB.alloc hB.size _
          have HS : Hid _ := mkeys_succ (D := D) (O := O) (C := C) (rc := xr) (a := st) hk
          clear q hat hok hB hk
          generalize hst2 : mkeys D O C xr st (ks.take j) = st2 at *
          obtain ⟨a, be⟩ := st2
          have hbool : ∀ b : Bool, b = true ∨ b = false := fun b => by cases b <;> simp
          have ts : ∀ x y : Int, (x != y) = (y != x) := fun x y => by rw [Bool.eq_iff_iff]; simp; exact ⟨fun h e => h e.symm, fun h e => h e.symm⟩
          rcases hbool (d != D) with h1 | h1
          · have HL : Hid (mkeys D O C xr st (ks.take (j + 1)) = (a, be)) := by show _ = _; rw [HS.out]; simp [mstep, matchB, ts D d, h1]
            clear hbool ts
            go_wp2
            go_roundw
            case rel => exact ⟨j + 1, by omega, by go_num, by rw [HL.out] <;> rfl, by rw [HL.out] <;> rfl, by rw [HL.out] <;> rfl, HB.out⟩
            case measure => simp [intOf]; omega
          have h23 : ((bits .and .u8 pp 1 != 0) = true ∧ (o != O) = true) ∨ ((bits .and .u8 pp 1 != 0) = true ∧ (o != O) = false) ∨ (bits .and .u8 pp 1 != 0) = false := by
            rcases hbool (bits .and .u8 pp 1 != 0) with a | a <;> rcases hbool (o != O) with b | b <;> simp [a, b]
          have h45 : ((bits .and .u8 pp 2 != 0) = true ∧ (si != 5) = true) ∨ ((bits .and .u8 pp 2 != 0) = true ∧ (si != 5) = false) ∨ (bits .and .u8 pp 2 != 0) = false := by
            rcases hbool (bits .and .u8 pp 2 != 0) with a | a <;> rcases hbool (si != 5) with b | b <;> simp [a, b]
          have h678 : ((bits .and .u8 pp 4 != 0) = false) ∨ ((bits .and .u8 pp 4 != 0) = true ∧ decide (C < l) = true) ∨ ((bits .and .u8 pp 4 != 0) = true ∧ decide (C < l) = false ∧ decide (h < C) = true) ∨ ((bits .and .u8 pp 4 != 0) = true ∧ decide (C < l) = false ∧ decide (h < C) = false) := by
            rcases hbool (bits .and .u8 pp 4 != 0) with a | a <;> rcases hbool (decide (C < l)) with b | b <;> rcases hbool (decide (h < C)) with c | c <;> rw [a, b, c] <;> simp
          have HMt : Hid (matchB ⟨d, o, si, l, h, pp⟩ D O C = (!(bits .and .u8 pp 1 != 0 && (o != O)) && !(bits .and .u8 pp 2 != 0 && (si != 5)) && !(bits .and .u8 pp 4 != 0 && (decide (C < l) || decide (h < C))))) := by
            show _ = _
            unfold matchB bitB
            dsimp only
            rw [ts D d, ts O o, ts 5 si, h1]
            simp
          have hcmp : a = none ∨ (∃ r, a = some r ∧ decide (be < 1 + (Lib.onesCount pp.toNat : Int)) = true) ∨ (∃ r, a = some r ∧ decide (be < 1 + (Lib.onesCount pp.toNat : Int)) = false) := by
            cases a with
            | none => exact Or.inl rfl
            | some r => rcases hbool (decide (be < 1 + (Lib.onesCount pp.toNat : Int))) with hh | hh
                        · exact Or.inr (Or.inl ⟨r, rfl, hh⟩)
                        · exact Or.inr (Or.inr ⟨r, rfl, hh⟩)
          clear hbool ts
          rcases h23 with ⟨h2, h3⟩ | ⟨h2, h3⟩ | h2
          · have HL : Hid (mkeys D O C xr st (ks.take (j + 1)) = (a, be)) := by show _ = _; rw [HS.out]; simp [mstep, HMt.out, h2, h3]
            clear h45 h678 hcmp
            go_wp2
            go_roundw
            case rel => exact ⟨j + 1, by omega, by go_num, by rw [HL.out] <;> rfl, by rw [HL.out] <;> rfl, by rw [HL.out] <;> rfl, HB.out⟩
            case measure => simp [intOf]; omega
          all_goals
            rcases h45 with ⟨h4, h5⟩ | ⟨h4, h5⟩ | h4
            · have HL : Hid (mkeys D O C xr st (ks.take (j + 1)) = (a, be)) := by show _ = _; rw [HS.out]; first | simp [mstep, HMt.out, h2, h3, h4, h5] | simp [mstep, HMt.out, h2, h4, h5]
              clear h678 hcmp
              go_wp2
              go_roundw
              case rel => exact ⟨j + 1, by omega, by go_num, by rw [HL.out] <;> rfl, by rw [HL.out] <;> rfl, by rw [HL.out] <;> rfl, HB.out⟩
              case measure => simp [intOf]; omega
            all_goals
              rcases h678 with h6 | ⟨h6, h7⟩ | ⟨h6, h7, h8⟩ | ⟨h6, h7, h8⟩
              rotate_left
              · have HL : Hid (mkeys D O C xr st (ks.take (j + 1)) = (a, be)) := by
                  have HF : matchB ⟨d, o, si, l, h, pp⟩ D O C = false := by rw [HMt.out]; rw [h6, h7]; simp
                  show _ = _; rw [HS.out]; simp [mstep, HF]
                clear hcmp
                go_wp2
                go_roundw
                case rel => exact ⟨j + 1, by omega, by go_num, by rw [HL.out] <;> rfl, by rw [HL.out] <;> rfl, by rw [HL.out] <;> rfl, HB.out⟩
                case measure => simp [intOf]; omega
              · have HL : Hid (mkeys D O C xr st (ks.take (j + 1)) = (a, be)) := by
                  have HF : matchB ⟨d, o, si, l, h, pp⟩ D O C = false := by rw [HMt.out]; rw [h6, h7, h8]; simp
                  show _ = _; rw [HS.out]; simp [mstep, HF]
                clear hcmp
                go_wp2
                go_roundw
                case rel => exact ⟨j + 1, by omega, by go_num, by rw [HL.out] <;> rfl, by rw [HL.out] <;> rfl, by rw [HL.out] <;> rfl, HB.out⟩
                case measure => simp [intOf]; omega
              all_goals
                have HT : Hid (matchB ⟨d, o, si, l, h, pp⟩ D O C = true) := by
                  show _ = _
                  rw [HMt.out]
                  try rw [h3]
                  rw [h2]
                  try rw [h5]
                  rw [h4]
                  try rw [h8]
                  try rw [h7]
                  rw [h6]
                  rfl
                clear HMt
                rcases hcmp with rfl | ⟨r, rfl, hg⟩ | ⟨r, rfl, hg⟩
                · have HL : Hid (mkeys D O C xr st (ks.take (j + 1)) = (some xr, 1 + (Lib.onesCount pp.toNat : Int))) := by show _ = _; rw [HS.out]; simp [mstep, HT.out, named]
                  go_wp2_with (go_at_call 11; refine (pop_any pp _ hp0 hp1).mono ?_; rintro e w' ⟨rfl, rfl⟩)
                  go_roundw
                  case rel => exact ⟨j + 1, by omega, by go_num, by rw [HL.out] <;> rfl, by rw [HL.out] <;> rfl, by rw [HL.out] <;> rfl, HB.out⟩
                  case measure => simp [intOf]; omega
                · have HL : Hid (mkeys D O C xr st (ks.take (j + 1)) = (some xr, 1 + (Lib.onesCount pp.toNat : Int))) := by show _ = _; rw [HS.out]; unfold mstep named; simp only [HT.out, hg]; rfl
                  go_wp2_with (go_at_call 11; refine (pop_any pp _ hp0 hp1).mono ?_; rintro e w' ⟨rfl, rfl⟩)
                  go_roundw
                  case rel => exact ⟨j + 1, by omega, by go_num, by rw [HL.out] <;> rfl, by rw [HL.out] <;> rfl, by rw [HL.out] <;> rfl, HB.out⟩
                  case measure => simp [intOf]; omega
                · have HL : Hid (mkeys D O C xr st (ks.take (j + 1)) = (some r, be)) := by show _ = _; rw [HS.out]; unfold mstep named; simp only [HT.out, hg]; rfl
                  go_wp2_with (go_at_call 11; refine (pop_any pp _ hp0 hp1).mono ?_; rintro e w' ⟨rfl, rfl⟩)
                  go_roundw
                  case rel => exact ⟨j + 1, by omega, by go_num, by rw [HL.out] <;> rfl, by rw [HL.out] <;> rfl, by rw [HL.out] <;> rfl, HB.out⟩
                  case measure => simp [intOf]; omega
        · obtain rfl : j = ks.length := by omega
          rw [List.take_length]
          have HB : Hid (Below w.heap.size w wr) := hB
          clear hB hjl
          generalize hst2 : mkeys D O C xr st ks = st2 at *
          clear hst2
          go_wp2
          go_roundw
          case rel => exact ⟨i + 1, by omega, by go_num, by rw [HSu.out], by rw [HSu.out], by rw [HSu.out], HB.out⟩
          case measure => simp [intOf]; omega
    · obtain rfl : i = N := by omega
      rw [List.take_of_length_le (by omega)]
      have HM : Hid (modelB L D O C rc = match (mAll D O C L).1 with | none => false | some r => r == rc) := by show _ = _; unfold modelB; rw [if_neg (by omega)]
      generalize hst : mAll D O C L = st at *
      obtain ⟨a, be⟩ := st
      cases a with
      | none =>
        go_wp2
        refine bodyPost_ret (v := .bool false) (by simp [results, Yba.results7, go_sem]) rfl ⟨by rw [HM.out], hB⟩
      | some r =>
        go_wp2
        refine bodyPost_ret (v := .bool (r == rc)) (by simp [results, Yba.results7, go_sem]) rfl ⟨by rw [HM.out], hB⟩
end Go.Proofs.Ybulkaily
