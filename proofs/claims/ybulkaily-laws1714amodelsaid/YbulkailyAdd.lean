/-
  Table.add by its contract.
-/
import Derived.Test.YbulkailyRange
import Derived.Deep.RegionHeld3
namespace Go.Proofs.Ybulkaily
open Go.RowKit
attribute [local go_sem ↓] Go.wp_at_zero Go.wp_at_succ

theorem orel_zero {w0 : World} {T sb : Nat} {L : List (Int × List K)} (hs : Sm w0 sb 0) : ORel w0 T sb w0.heap.size L 0 [] (w0.alloc (.map #[] 0)) where
  st := {
    os := rfl
    tape := rfl
    output := rfl
    size := by simp
    old := fun b hb _ => Below.heap_alloc _ _ _ hb
    map0 := hs.blk
    gbl := Nat.le_refl _
    sm := (hs.kept (World.grownBy_alloc w0 _ none) (by simp)).mono (by omega)
    gm := ⟨fun _ => none, (gm_made w0).mono (by omega), ⟨fun _ _ _ => rfl, fun p _ h => absurd rfl h, fun p q v u _ h => (by cases h), fun _ _ => rfl⟩⟩
    srv := fun r hr => by cases hr }
  rc := rfl
  len := Nat.le_refl _

set_option maxRecDepth 20000 in
set_option maxHeartbeats 3200000 in
theorem add_any (T sb ob cap N : Nat) (L : List (Int × List K)) (w0 : World) (hN : L.length = N) (hA : Ases ob L w0) (hrc : Hid (∀ x ∈ L, 0 ≤ x.1 ∧ x.1 ≤ 4294967295)) (cs : Array Value) (HTb : Hid (w0.heap[T]? = some (.cells cs 69 (0, 0)) ∧ cs.size = 16387 ∧ cs[16386]? = some (.map (some sb)) ∧ ∀ p, p ≤ 16383 → cs[p]? = some (.pointer none)))
    (hsm : Sm w0 sb 0) :
    Calls Yba.prog 12 #[.pointer (some ⟨T, 0, none⟩), .slice (some ⟨ob, 0, none⟩) N cap] w0 fun e w' => e = .returned (.tuple #[]) ∧ ∃ FF : List R3, rcs FF = near (flat L) ∧ Tab T (fun p => (sel FF p).map pr) (rcAt w') w' ∧ (∀ r ∈ FF, rcAt w' r.2.1 = r.2.2) ∧
      w'.os = w0.os ∧ w'.tape = w0.tape ∧ w'.output = w0.output ∧ w0.heap.size ≤ w'.heap.size ∧ ∀ b, b < w0.heap.size → b ≠ sb → b ≠ T → w'.heap[b]? = w0.heap[b]? := by
  have hT : w0.cell? ⟨T, 16386, none⟩ = some (.map (some sb)) := by obtain ⟨h1, _, h2, _⟩ := HTb.out; simp [World.cell?, h1, h2]
  have hnil : Hid (∀ p, p ≤ 16383 → w0.cell? ⟨T, p, none⟩ = some (.pointer none)) := fun p hp => by obtain ⟨h1, _, _, h2⟩ := HTb.out; simp [World.cell?, h1, h2 p hp]
  have hsml := hA.small
  have HA : Hid (∀ i, i < L.length → ∃ x, L[i]? = some x ∧ x.2.length ≤ 256 ∧ AsAt ob i x w0) := hA.at_
  have HT : Hid (w0.cell? ⟨T, 16386, none⟩ = some (.map (some sb))) := hT
  have h0 : ORel w0 T sb w0.heap.size L 0 [] (w0.alloc (.map #[] 0)) := orel_zero hsm
  clear hA hT hsm
  go_enter Yba.func12, Yba.ntmps12
  have hmm := run_makeMap (P := Yba.prog) 75 w0
  go_wp2
  clear hmm
  go_loopw [18] (fun ii wr => ∃ (i : Nat) (FF : List R3), i ≤ N ∧ ii = .int .i64 i ∧ ORel w0 T sb w0.heap.size L i FF wr) (fun ii _ => N - (intOf ii).toNat)
  case atStart => exact ⟨0, [], Nat.zero_le _, rfl, h0⟩
  case round =>
    clear h0
    obtain ⟨i, FF, hi, rfl, hO⟩ := hrel
    obtain ⟨wo, hwo⟩ : ∃ wo, wo = wr := ⟨_, rfl⟩
    subst hwo
    by_cases hlt : i < N
    · obtain ⟨⟨rc, ks⟩, hx, hl, kb, kcap, hkb, c0, c1, c2, c3, hks⟩ := HA.out i (by omega)
      dsimp only at hl c1 c3 hks
      obtain ⟨r0, r1⟩ := hrc.out _ (List.mem_of_getElem? hx)
      dsimp only at r0 r1
      have hOs := hO.st
      have e0 := hOs.cell c0
      have e1 := hOs.cell c1
      have e2 := hOs.cell c2
      have e3 := hOs.cell c3
      obtain ⟨o, kc, w1, w2, hr, hr2, hI, hb1, hT1, hT2, hb2⟩ := hO.step (by omega) (n := ks.length) rfl hl r0 r1 (kb := kb) (cap := kcap) (fun j hj => by obtain ⟨k, a, _, b⟩ := hks j hj; exact ⟨k, a, b⟩) HT.out
      have HI0 : Hid (IRel w0 T sb w0.heap.size L i rc ks o w1.heap.size 0 FF w2) := hI
      have HKS : Hid (∀ j, j < ks.length → ∃ k, ks[j]? = some k ∧ k.Ok ∧ KeyAt kb j k w0) := hks
      have HX : Hid (L[i]? = some (rc, ks)) := hx
      have s0 : w1.cell? ⟨wo.heap.size, 0, none⟩ = some (.string ⟨#[]⟩) := by simp [World.cell?, hb1]
      have s1 : w1.cell? ⟨wo.heap.size, 1, none⟩ = some (.int .u32 rc) := by simp [World.cell?, hb1]
      have s2 : w1.cell? ⟨wo.heap.size, 2, none⟩ = some (.int .u32 0) := by simp [World.cell?, hb1]
      have s3 : w1.cell? ⟨wo.heap.size, 3, none⟩ = some (.slice (some ⟨kb, 0, none⟩) ks.length kcap) := by simp [World.cell?, hb1]
      have t1 : w2.cell? ⟨w1.heap.size, 1, none⟩ = some (.int .u32 rc) := by simp [World.cell?, hb2]
      have t3 : w2.cell? ⟨w1.heap.size, 3, none⟩ = some (.slice o ks.length kc) := by simp [World.cell?, hb2]
      have hTlt : T < w1.heap.size := World.block_lt_of_cell? w1 _ hT1
      have hwlt : wo.heap.size < w1.heap.size := lt_of_block hb1
      clear hI hks hx hO hOs c0 c1 c2 c3 hb1 hb2
      go_wp2
      go_region_held3 (fun W => W.cell? ⟨wo.heap.size, 0, none⟩ = some (.string ⟨#[]⟩) ∧ W.cell? ⟨wo.heap.size, 1, none⟩ = some (.int .u32 rc) ∧ W.cell? ⟨wo.heap.size, 2, none⟩ = some (.int .u32 0) ∧ W.cell? ⟨wo.heap.size, 3, none⟩ = some (.slice (some ⟨kb, 0, none⟩) ks.length kcap)) (go_keep) (first | (refine step_run rfl (.const (.slice none 0 0)) (.tmp 29) 38 rfl (v := .slice none 0 0) (u := .slice (some ⟨kb, 0, none⟩) ks.length kcap) (by rfl) (by rfl) hr ?_))
      clear hr s0 s1 s2 s3
      go_wp2
      go_region_held3 (fun W => W.cell? ⟨T, 16386, none⟩ = some (.map (some sb)) ∧ W.cell? ⟨w1.heap.size, 1, none⟩ = some (.int .u32 rc)) (go_keep) (fail)
      clear hr2 t1
      go_wp2
      go_loopw [47] (fun jj wq => ∃ (j : Nat) (F2 : List R3), j ≤ ks.length ∧ jj = .int .i64 j ∧ IRel w0 T sb w0.heap.size L i rc ks o w1.heap.size j F2 wq) (fun jj _ => ks.length - (intOf jj).toNat)
      case atStart => exact ⟨0, FF, Nat.zero_le _, rfl, HI0.out⟩
      case round =>
        clear HI0 e0 e1 e2 e3 hT1 hT2 t3 hTlt hwlt
        obtain ⟨j, F2, hj, rfl, hI⟩ := hrel
        by_cases hjl : j < ks.length
        · obtain ⟨⟨d, oo, si, l, hh, pp⟩, hk, hok, _⟩ := HKS.out j hjl
          obtain ⟨p, rfl⟩ : ∃ p : Nat, d = p := ⟨d.toNat, by have := hok.d0; dsimp only at this; omega⟩
          obtain ⟨g, rfl, hglt, hcell⟩ := hI.kb.cell hk
          have q0 := hcell 0 _ rfl
          have q1 := hcell 1 _ rfl
          have q2 := hcell 2 _ rfl
          have q3 := hcell 3 _ rfl
          have q4 := hcell 4 _ rfl
          have q5 := hcell 5 _ rfl
          dsimp only at q0 q1 q2 q3 q4 q5
          rw [Nat.add_zero] at q0
          clear hcell
          by_cases hf : 16383 < (p : Int)
          · have HIs : Hid (IRel w0 T sb w0.heap.size L i rc ks (some ⟨g, 0, none⟩) w1.heap.size (j + 1) F2 (wr.alloc (.cells #[.int .u32 p, .int .u32 oo, .int .u8 si, .int .u16 l, .int .u16 hh, .int .u8 pp] 44))) := hI.skip hk hf _
            clear hI hk hok
            go_wp2
            go_roundw
            case rel => exact ⟨j + 1, F2, by omega, by go_num, HIs.out⟩
            case measure => simp [intOf]; omega
          · obtain ⟨v, b, hlk, v', wA, wB, hap, hmu, hIs, hbA, hbB⟩ := hI.step (by omega) (by omega) hk hok (by omega)
            have HIs : Hid (IRel w0 T sb w0.heap.size L i rc ks (some ⟨g, 0, none⟩) w1.heap.size (j + 1) (F2 ++ [(⟨p, oo, si, l, hh, pp⟩, w1.heap.size, rc)]) wB) := hIs
            have hcT0 := hI.st.cell (hnil.out p (by omega))
            have hcT : (wr.alloc (.cells #[.int .u32 p, .int .u32 oo, .int .u8 si, .int .u16 l, .int .u16 hh, .int .u8 pp] 44)).cell? ⟨T, p, none⟩ = some (.pointer none) := by rw [World.cell?_alloc_past _ _ _ (World.block_lt_of_cell? wr _ hcT0)]; exact hcT0
            have x0 : wA.cell? ⟨wr.heap.size, 0, none⟩ = some (.int .u32 p) := by simp [World.cell?, hbA]
            have y0 : wB.cell? ⟨wr.heap.size, 0, none⟩ = some (.int .u32 p) := by simp [World.cell?, hbB]
            have x1 : wA.cell? ⟨wr.heap.size, 1, none⟩ = some (.int .u32 oo) := by simp [World.cell?, hbA]
            have y1 : wB.cell? ⟨wr.heap.size, 1, none⟩ = some (.int .u32 oo) := by simp [World.cell?, hbB]
            have x2 : wA.cell? ⟨wr.heap.size, 2, none⟩ = some (.int .u8 si) := by simp [World.cell?, hbA]
            have y2 : wB.cell? ⟨wr.heap.size, 2, none⟩ = some (.int .u8 si) := by simp [World.cell?, hbB]
            have x3 : wA.cell? ⟨wr.heap.size, 3, none⟩ = some (.int .u16 l) := by simp [World.cell?, hbA]
            have y3 : wB.cell? ⟨wr.heap.size, 3, none⟩ = some (.int .u16 l) := by simp [World.cell?, hbB]
            have x4 : wA.cell? ⟨wr.heap.size, 4, none⟩ = some (.int .u16 hh) := by simp [World.cell?, hbA]
            have y4 : wB.cell? ⟨wr.heap.size, 4, none⟩ = some (.int .u16 hh) := by simp [World.cell?, hbB]
            have x5 : wA.cell? ⟨wr.heap.size, 5, none⟩ = some (.int .u8 pp) := by simp [World.cell?, hbA]
            have y5 : wB.cell? ⟨wr.heap.size, 5, none⟩ = some (.int .u8 pp) := by simp [World.cell?, hbB]
            clear hI hk hok hIs hbA hbB hcT0
            cases b
            all_goals
              go_wp2_with (go_at_call 14; refine (dest_nil (by omega) hcT).mono ?_; rintro e w' ⟨rfl, rfl⟩)
              clear hlk hcT
              go_region_held3 (fun W => W.cell? ⟨wr.heap.size, 0, none⟩ = some (.int .u32 p) ∧ W.cell? ⟨wr.heap.size, 1, none⟩ = some (.int .u32 oo) ∧ W.cell? ⟨wr.heap.size, 2, none⟩ = some (.int .u8 si) ∧ W.cell? ⟨wr.heap.size, 3, none⟩ = some (.int .u16 l) ∧ W.cell? ⟨wr.heap.size, 4, none⟩ = some (.int .u16 hh) ∧ W.cell? ⟨wr.heap.size, 5, none⟩ = some (.int .u8 pp)) (go_keep) (first | (refine step_run rfl (.tmp 92) (.tmp 96) 76 rfl (v := v) (u := .slice (some ⟨wr.heap.size + 1, 0, none⟩) 1 1) (by rfl) (by rfl) hap ?_))
              go_wp2
              go_roundw
              case rel => exact ⟨j + 1, _, by omega, by go_num, HIs.out⟩
              case measure => simp [intOf]; omega
        · obtain rfl : j = ks.length := by omega
          have HOs : Hid (ORel w0 T sb w0.heap.size L (i + 1) F2 wr) := hI.out HX.out hl
          clear hI
          go_wp2
          go_roundw
          case rel => exact ⟨i + 1, F2, by omega, by go_num, HOs.out⟩
          case measure => simp [intOf]; omega
    · obtain rfl : N = i := by omega
      have hlen : FF.length ≤ 100000 := by have := hO.len; omega
      have HRC : Hid (rcs FF = near (flat L)) := by show _ = _; rw [hO.rc, List.take_of_length_le (by omega)]
      obtain ⟨g, ⟨D, hown, hrd⟩, hrows⟩ := hO.st.gm
      obtain ⟨w2, hrun, hrg, hgr, hsz⟩ := hown.range keyed29 (t := 75) Yba.underlying75
      have HT0 : Hid (TRel w0 T sb w0.heap.size wo.heap.size FF g D (N * 300 + 1) (Maps.has D) (Maps.size D) w2) := trel_start hO.st hrows hrd rfl hrg hgr HTb.out.1 HTb.out.2.1 HTb.out.2.2.2
      clear hO hown hrd hrows hrg hgr hsz
      go_wp2
      clear hrun
      go_loopw [13] (fun _ wq => ∃ left cnt, TRel w0 T sb w0.heap.size wo.heap.size FF g D (N * 300 + 1) left cnt wq) (fun _ wq => wq.rangeLeft w0.heap.size wo.heap.size)
      case atStart => exact ⟨_, _, HT0.out⟩
      case round =>
        clear HT0
        obtain ⟨left, cnt, hR⟩ := hrel
        have HM : Hid (wr.rangeLeft w0.heap.size wo.heap.size = cnt) := hR.rng.left_eq
        rcases hR.rng.next keyed29 0 with ⟨h0, hl, hrun⟩ | ⟨key, v, kl, y, w', cnt', hkey, hlk, hv, hat, hrun, hrg, hlt', hgr, hsz, hen⟩
        · have HF : Hid (TRel w0 T sb w0.heap.size wo.heap.size FF g D (N * 300 + 1) left cnt wr) := hR
          have HL : Hid (∀ kl, left kl = false) := hl
          clear hR hl
          go_wp2
          go_end0
          exact ⟨rfl, FF, HRC.out, HF.out.tab hlen HL.out, fun r hr => rcAt_srv (HF.out.srv r hr).2, HF.out.os, HF.out.tape, HF.out.output, HF.out.size, HF.out.old⟩
        · obtain ⟨p, rb, n, cap', rs, rfl, hp, rfl, n1, n2, hrb, hrs, hTl, hTc, hTf, hnext⟩ := hR.step hlen hkey hlk hv hat hrg hgr hsz
          have HNX : Hid (∀ w1 s, Below w'.heap.size w' w1 → w1.heap[w'.heap.size]? = some (.cells #[.slice (some ⟨rb, 0, none⟩) n cap', .int .u16 s] 81 (0, 0)) →
            TRel w0 T sb w0.heap.size wo.heap.size FF g D (N * 300 + 1) (fun x => left x && !x.sameKey kl) cnt' (w1.setCell ⟨T, p, none⟩ (.pointer (some ⟨w'.heap.size, 0, none⟩)))) := hnext
          have HRS : Hid (∀ i, i < n → ∃ r, rs[i]? = some r ∧ r.1.Ok ∧ RouteAt rb i r w') := hrs
          clear hR hkey hlk hv hat hrg hgr hsz hrs hnext
          go_wp2_with (go_at_call 15; refine (store_any T p rb n cap' rs _ n1 n2 hp hrb HRS.out hTl hTc hTf).mono ?_; rintro e w3 ⟨rfl, w1, s, hB, hD, rfl⟩)
          go_roundw
          case rel => exact ⟨_, cnt', HNX.out w1 s hB hD⟩
          case measure => rw [(HNX.out w1 s hB hD).rng.left_eq, HM.out]; exact hlt'
end Go.Proofs.Ybulkaily
