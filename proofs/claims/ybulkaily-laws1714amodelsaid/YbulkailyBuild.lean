/-
  The law's builder of the servers (zzs1714abuild) by its contract.
-/
import Derived.Test.YbulkailyBuildParts
namespace Go.Proofs.Ybulkaily
open Go.RowKit
attribute [local go_sem ↓] Go.wp_at_zero Go.wp_at_succ

set_option maxRecDepth 20000 in
set_option maxHeartbeats 3200000 in
theorem build_some (a : Addr) (N cap : Nat) (I : List (Int × List Z)) (ex ag : Int) (w : World) (hN : I.length = N) (hN1 : N ≤ 256) (ha : 0 < N → a.block < w.heap.size) (hb : Hid (0 ≤ ex ∧ ex ≤ 4294967295 ∧ 0 ≤ ag ∧ ag ≤ 4294967295)) (hin : ∀ i, i < N → ∃ x, I[i]? = some x ∧ InAt a i x w) :
    Calls Yba.prog 5 #[.slice (some a) N cap, .int .u32 ex, .int .u32 ag] w fun e w' => Below w.heap.size w w' ∧ (e = .returned (.tuple #[.slice none 0 0, .bool false]) ∨ ∃ ob oc, e = .returned (.tuple #[.slice (some ⟨ob, 0, none⟩) N oc, .bool true]) ∧ Ases ob (I.map (conv ex ag)) w') := by
  have HI : Hid (∀ i, i < N → ∃ x, I[i]? = some x ∧ InAt a i x w) := hin
  clear hin
  go_enter Yba.func5, Yba.ntmps5
  go_wp2
  go_loop [8, 21] (fun t ii => ∃ i : Nat, i ≤ N ∧ ii = .int .i64 i ∧ t = .int .i64 (tot I i) ∧ tot I i ≤ 256) (fun _ ii => N - (intOf ii).toNat)
  case atStart => exact ⟨0, Nat.zero_le _, rfl, rfl, Nat.zero_le _⟩
  case round =>
    obtain ⟨i, hi, rfl, rfl, ht⟩ := hrel
    by_cases hlt : i < N
    · obtain ⟨⟨xr, zs⟩, hx, b, kc, c0, c1, r0, r1, hl, _⟩ := HI.out i hlt
      have HT : Hid (tot I (i + 1) = tot I i + zs.length) := tot_succ hx
      dsimp only at c0 c1 r0 r1 hl
      have c1 := cell_add c1
      by_cases hbig : 256 < tot I i + zs.length
      · go_wp2
        refine bodyPost_ret (v := .tuple #[.slice none 0 0, .bool false]) (by simp [results, Yba.results5, go_sem]) rfl ⟨Below.refl _ _, Or.inl rfl⟩
      · go_wp2
        go_round
        case rel => exact ⟨i + 1, by omega, by go_num, by rw [HT.out]; go_num, by rw [HT.out]; omega⟩
        case measure => simp [intOf]; omega
    · obtain rfl : N = i := by omega
      have HT : Hid (tot I N ≤ 256) := ht
      clear ht
      obtain ⟨w1, hmk, hown, hgr⟩ := run_make_own (P := Yba.prog) w w.heap.size 24 47 Yba.t47 _ 4 Yba.underlying24 (by kernel_rfl) rfl rfl .i64 .i64 N (by show 48 * N ≤ _; omega) (by unfold maxLen; omega) (Nat.le_refl _)
      have hB0 : BRel w (I.map (conv ex ag)) 0 _ w1 := brel_zero hown hgr
      clear hown hgr
      go_wp2
      clear hmk
      go_loopw [10, 40] (fun v ii wr => ∃ i : Nat, i ≤ N ∧ ii = .int .i64 i ∧ BRel w (I.map (conv ex ag)) i v wr) (fun _ ii _ => N - (intOf ii).toNat)
      case atStart => exact ⟨0, Nat.zero_le _, rfl, hB0⟩
      case round =>
        clear hB0
        obtain ⟨i, hi, rfl, hB⟩ := hrel
        obtain ⟨wo, hwo⟩ : ∃ wo, wo = wr := ⟨_, rfl⟩
        subst hwo
        by_cases hlt : i < N
        · obtain ⟨⟨xr, zs⟩, hx, b, kc0, c0, c1, r0, r1, hl, hzs⟩ := HI.out i hlt
          dsimp only at c0 c1 r0 r1 hl hzs
          have c1 := cell_add c1
          have hz : zs.length ≤ 256 := by
            have h1 := tot_succ hx
            have h2 : tot I (i + 1) ≤ tot I N := tot_le (by omega)
            have h3 := HT.out
            dsimp only at h1
            omega
          have hab : (a.add (i * 2)).block < w.heap.size := by rw [add_block]; exact ha (by omega)
          have HC0 : Hid (w.cell? (a.add (i * 2)) = some (.int .u32 xr)) := c0
          have HC1 : Hid (w.cell? ⟨(a.add (i * 2)).block, (a.add (i * 2)).off + 1, none⟩ = some (.slice b zs.length kc0)) := c1
          have HZ : Hid (∀ j, j < zs.length → ∃ z c, zs[j]? = some z ∧ b = some c ∧ c.block < w.heap.size ∧ z.Ok ∧ ∀ t v, z.cells[t]? = some v → w.cell? ((c.add (j * 7)).add t) = some v) := hzs
          have HBR : Hid (BRel w (I.map (conv ex ag)) i _ wo) := hB
          have hbl : Below w.heap.size w wo := by obtain ⟨_, _, _, _, _, h, _⟩ := hB; exact h
          obtain ⟨w2, hmk2, hown2, hgr2⟩ := run_make_own (P := Yba.prog) wo wo.heap.size 38 44 Yba.t44 _ 6 Yba.underlying38 z44 rfl rfl .i64 .i64 zs.length (by show 16 * zs.length ≤ _; omega) (by unfold maxLen; omega) (Nat.le_refl _)
          have hK0 : Hid (KRel wo zs ex ag 0 _ w2) := krel_zero hown2 hgr2
          have hbl2 : Below w.heap.size w w2 := hbl.trans ⟨hgr2.os, hgr2.tape, hgr2.output, hgr2.size, fun i hi => hgr2.block i (Nat.lt_of_lt_of_le hi hbl.size) (by simp)⟩
          have e1 : wo.cell? ⟨(a.add (i * 2)).block, (a.add (i * 2)).off + 1, none⟩ = some (.slice b zs.length kc0) := (hbl.cell (p := ⟨(a.add (i * 2)).block, (a.add (i * 2)).off + 1, none⟩) hab).trans c1
          have e3 : w2.cell? ⟨(a.add (i * 2)).block, (a.add (i * 2)).off + 1, none⟩ = some (.slice b zs.length kc0) := (hbl2.cell (p := ⟨(a.add (i * 2)).block, (a.add (i * 2)).off + 1, none⟩) hab).trans c1
          clear hzs hB hown2 hgr2 c0 c1
          go_wp2
          clear hmk2 e1 e3 hbl2
          go_loopw [12, 56] (fun v jj wq => ∃ j : Nat, j ≤ zs.length ∧ jj = .int .i64 j ∧ KRel wo zs ex ag j v wq) (fun _ jj _ => zs.length - (intOf jj).toNat)
          case atStart => exact ⟨0, Nat.zero_le _, rfl, hK0.out⟩
          case round =>
            clear hK0
            obtain ⟨j, hj, rfl, hK⟩ := hrel
            obtain ⟨kb, kc, rfl, hown, hbq⟩ := hK
            have hblq : Below w.heap.size w wr := hbl.trans (hbq.mono hbl.size)
            have e0 : wr.cell? (a.add (i * 2)) = some (.int .u32 xr) := by rw [hblq.cell hab]; exact HC0.out
            have e1 : wr.cell? ⟨(a.add (i * 2)).block, (a.add (i * 2)).off + 1, none⟩ = some (.slice b zs.length kc0) := (hblq.cell (p := ⟨(a.add (i * 2)).block, (a.add (i * 2)).off + 1, none⟩) hab).trans HC1.out
            by_cases hjl : j < zs.length
            · obtain ⟨⟨sel, dp, op, si, lo, hi', pp⟩, c, hz1, rfl, hcb, hzok, hq⟩ := HZ.out j hjl
              have hcb' : (c.add (j * 7)).block < w.heap.size := by rw [add_block]; exact hcb
              have q : ∀ t v, (Z.cells ⟨sel, dp, op, si, lo, hi', pp⟩)[t]? = some v → wr.cell? ⟨(c.add (j * 7)).block, (c.add (j * 7)).off + t, none⟩ = some v := fun t v ht => (hblq.cell (p := ⟨(c.add (j * 7)).block, (c.add (j * 7)).off + t, none⟩) hcb').trans (cell_add (hq t v ht))
              have q0 : wr.cell? (c.add (j * 7)) = some (.int .u8 sel) := by rw [hblq.cell hcb']; exact hq 0 _ rfl
              have q1 := q 1 _ rfl
              have q2 := q 2 _ rfl
              have q3 := q 3 _ rfl
              have q4 := q 4 _ rfl
              have q5 := q 5 _ rfl
              have q6 := q 6 _ rfl
              dsimp only at q0 q1 q2 q3 q4 q5 q6
              clear q hq
              have HZ1 : Hid (zs[j]? = some ⟨sel, dp, op, si, lo, hi', pp⟩) := hz1
              clear hz1
              have se0 := hzok.e0
              have se1 := hzok.e1
              have ss0 := hzok.s0
              have ss1 := hzok.s1
              dsimp only at se0 se1 ss0 ss1
              have hpar : (si % 2 == 0) = true ∨ (si % 2 == 0) = false := by cases (si % 2 == 0) <;> simp
              rcases hpar with hpa | hpa
              · obtain ⟨g, gc, w', hr, ho, hgr, hga, hgl⟩ := append_key (wr.alloc (.cells #[.int .u8 sel, .int .u32 dp, .int .u32 op, .int .u8 si, .int .u16 lo, .int .u16 hi', .int .u8 pp] 40)) wo.heap.size j _ _ (hown.alloc _) (by simp; have := hbq.size; omega) (by omega) (pickV sel ex ag dp) (pickV (sel / 3) ex ag op) 5 lo hi' pp
                have hkb := hown.lt kb rfl
                have hne : ∀ t : Nat, some (⟨wr.heap.size, t, none⟩ : Addr).block ≠ Value.ownBlock (.slice (some ⟨kb, 0, none⟩) j kc) := fun t e => by simp [Value.ownBlock] at e; omega
                have HKey : Hid (Z.key ex ag ⟨sel, dp, op, si, lo, hi', pp⟩ = ⟨pickV sel ex ag dp, pickV (sel / 3) ex ag op, 5, lo, hi', pp⟩) := by show _ = _; unfold Z.key; simp at hpa; simp [hpa]
                have HBq : Hid (Below wo.heap.size wo w') := below_grown (((hbq.alloc hbq.size _).drew).alloc (by simp; have := hbq.size; omega) _) hgr (by simp; have := hbq.size; omega) (fun k e => by simp [Value.ownBlock] at e; omega)
                have HOwn : Hid (w'.ownsRow wo.heap.size 44 6 (.slice (some ⟨g, 0, none⟩) (j + 1) gc) (j + 1) _) := ho
                have s0 : w'.cell? ⟨wr.heap.size, 0, none⟩ = some (.int .u8 sel) := hgr.cell (by simp [go_sem]) (hne 0)
                have s1 : w'.cell? ⟨wr.heap.size, 1, none⟩ = some (.int .u32 dp) := hgr.cell (by simp [go_sem]) (hne 1)
                have s2 : w'.cell? ⟨wr.heap.size, 2, none⟩ = some (.int .u32 op) := hgr.cell (by simp [go_sem]) (hne 2)
                have s3 : w'.cell? ⟨wr.heap.size, 3, none⟩ = some (.int .u8 si) := hgr.cell (by simp [go_sem]) (hne 3)
                have s4 : w'.cell? ⟨wr.heap.size, 4, none⟩ = some (.int .u16 lo) := hgr.cell (by simp [go_sem]) (hne 4)
                have s5 : w'.cell? ⟨wr.heap.size, 5, none⟩ = some (.int .u16 hi') := hgr.cell (by simp [go_sem]) (hne 5)
                have s6 : w'.cell? ⟨wr.heap.size, 6, none⟩ = some (.int .u8 pp) := hgr.cell (by simp [go_sem]) (hne 6)
                clear ho hgr hga hgl hne hblq hbq hown
                simp only [World.size_alloc] at hr
                go_wp2
                go_region_held3 (fun W => W.cell? ⟨wr.heap.size, 0, none⟩ = some (.int .u8 sel) ∧ W.cell? ⟨wr.heap.size, 1, none⟩ = some (.int .u32 dp) ∧ W.cell? ⟨wr.heap.size, 2, none⟩ = some (.int .u32 op) ∧ W.cell? ⟨wr.heap.size, 4, none⟩ = some (.int .u16 lo) ∧ W.cell? ⟨wr.heap.size, 5, none⟩ = some (.int .u16 hi') ∧ W.cell? ⟨wr.heap.size, 6, none⟩ = some (.int .u8 pp)) (go_keep) (first | (go_at_call_of 8 (Value.int IntKind.u32 op); refine (pick_third sel ex ag op _ se0 se1).mono ?_; rintro e w' ⟨rfl, rfl⟩) | (go_at_call_of 8 (Value.int IntKind.u32 dp); refine (pick_any sel ex ag dp _ se0 se1).mono ?_; rintro e w' ⟨rfl, rfl⟩) | (refine step_run rfl (.tmp 72) (.tmp 96) 38 rfl (v := .slice (some ⟨kb, 0, none⟩) j kc) (u := .slice (some ⟨wr.heap.size + 1, 0, none⟩) 1 1) (by rfl) (by rfl) hr ?_))
                go_wp2
                go_roundw
                case rel => exact ⟨j + 1, by omega, by go_num, g, gc, rfl, by rw [cells_succ ex ag HZ1.out, HKey.out]; exact HOwn.out, HBq.out⟩
                case measure => simp [intOf]; omega
              · obtain ⟨g, gc, w', hr, ho, hgr, hga, hgl⟩ := append_key (wr.alloc (.cells #[.int .u8 sel, .int .u32 dp, .int .u32 op, .int .u8 si, .int .u16 lo, .int .u16 hi', .int .u8 pp] 40)) wo.heap.size j _ _ (hown.alloc _) (by simp; have := hbq.size; omega) (by omega) (pickV sel ex ag dp) (pickV (sel / 3) ex ag op) si lo hi' pp
                have hkb := hown.lt kb rfl
                have hne : ∀ t : Nat, some (⟨wr.heap.size, t, none⟩ : Addr).block ≠ Value.ownBlock (.slice (some ⟨kb, 0, none⟩) j kc) := fun t e => by simp [Value.ownBlock] at e; omega
                have HKey : Hid (Z.key ex ag ⟨sel, dp, op, si, lo, hi', pp⟩ = ⟨pickV sel ex ag dp, pickV (sel / 3) ex ag op, si, lo, hi', pp⟩) := by show _ = _; unfold Z.key; simp at hpa; simp [hpa]
                have HBq : Hid (Below wo.heap.size wo w') := below_grown (((hbq.alloc hbq.size _).drew).alloc (by simp; have := hbq.size; omega) _) hgr (by simp; have := hbq.size; omega) (fun k e => by simp [Value.ownBlock] at e; omega)
                have HOwn : Hid (w'.ownsRow wo.heap.size 44 6 (.slice (some ⟨g, 0, none⟩) (j + 1) gc) (j + 1) _) := ho
                have s0 : w'.cell? ⟨wr.heap.size, 0, none⟩ = some (.int .u8 sel) := hgr.cell (by simp [go_sem]) (hne 0)
                have s1 : w'.cell? ⟨wr.heap.size, 1, none⟩ = some (.int .u32 dp) := hgr.cell (by simp [go_sem]) (hne 1)
                have s2 : w'.cell? ⟨wr.heap.size, 2, none⟩ = some (.int .u32 op) := hgr.cell (by simp [go_sem]) (hne 2)
                have s3 : w'.cell? ⟨wr.heap.size, 3, none⟩ = some (.int .u8 si) := hgr.cell (by simp [go_sem]) (hne 3)
                have s4 : w'.cell? ⟨wr.heap.size, 4, none⟩ = some (.int .u16 lo) := hgr.cell (by simp [go_sem]) (hne 4)
                have s5 : w'.cell? ⟨wr.heap.size, 5, none⟩ = some (.int .u16 hi') := hgr.cell (by simp [go_sem]) (hne 5)
                have s6 : w'.cell? ⟨wr.heap.size, 6, none⟩ = some (.int .u8 pp) := hgr.cell (by simp [go_sem]) (hne 6)
                clear ho hgr hga hgl hne hblq hbq hown
                simp only [World.size_alloc] at hr
                go_wp2
                go_region_held3 (fun W => W.cell? ⟨wr.heap.size, 0, none⟩ = some (.int .u8 sel) ∧ W.cell? ⟨wr.heap.size, 1, none⟩ = some (.int .u32 dp) ∧ W.cell? ⟨wr.heap.size, 2, none⟩ = some (.int .u32 op) ∧ W.cell? ⟨wr.heap.size, 4, none⟩ = some (.int .u16 lo) ∧ W.cell? ⟨wr.heap.size, 5, none⟩ = some (.int .u16 hi') ∧ W.cell? ⟨wr.heap.size, 6, none⟩ = some (.int .u8 pp)) (go_keep) (first | (go_at_call_of 8 (Value.int IntKind.u32 op); refine (pick_third sel ex ag op _ se0 se1).mono ?_; rintro e w' ⟨rfl, rfl⟩) | (go_at_call_of 8 (Value.int IntKind.u32 dp); refine (pick_any sel ex ag dp _ se0 se1).mono ?_; rintro e w' ⟨rfl, rfl⟩) | (refine step_run rfl (.tmp 72) (.tmp 96) 38 rfl (v := .slice (some ⟨kb, 0, none⟩) j kc) (u := .slice (some ⟨wr.heap.size + 1, 0, none⟩) 1 1) (by rfl) (by rfl) hr ?_))
                go_wp2
                go_roundw
                case rel => exact ⟨j + 1, by omega, by go_num, g, gc, rfl, by rw [cells_succ ex ag HZ1.out, HKey.out]; exact HOwn.out, HBq.out⟩
                case measure => simp [intOf]; omega
            · obtain rfl : j = zs.length := by omega
              obtain ⟨ob, oc, xs, rfl, ho, hbl', hat⟩ := HBR.out
              have hbs := hbl.size
              have hqs := hbq.size
              have ho2 : wr.ownsRow w.heap.size 47 4 (.slice (some ⟨ob, 0, none⟩) i oc) i xs := ho.kept (row := none) ⟨hbq.os, hbq.tape, hbq.output, hbq.size, fun k hk _ => hbq.block k hk⟩ (by simp [Value.ownBlock])
              obtain ⟨g, gc, w', hr, ho', hgr, hga, hgl⟩ := append_as wr w.heap.size i _ xs ho2 (by omega) (by omega) xr (.slice (some ⟨kb, 0, none⟩) zs.length kc) rfl
              have HF : Hid (BRel w (I.map (conv ex ag)) (i + 1) (.slice (some ⟨g, 0, none⟩) (i + 1) gc) w') := by
                refine brel_succ (ks := zs.map (Z.key ex ag)) (n := zs.length) ho hbl' hat hbq ?_ (by simp) ?_ hz ho' hgr hga ?_
                · rw [List.take_length] at hown
                  rw [List.flatMap_map]
                  exact hown
                · intro k hk
                  obtain ⟨z, hz, rfl⟩ := List.mem_map.1 hk
                  obtain ⟨t, ht, rfl⟩ := List.getElem_of_mem hz
                  obtain ⟨z', c, h1, _, _, h2, _⟩ := HZ.out t ht
                  rw [List.getElem?_eq_getElem ht] at h1
                  cases h1
                  exact h2.key hb.out.1 hb.out.2.1 hb.out.2.2.1 hb.out.2.2.2
                · rw [List.getElem?_map, hx]; rfl
              clear ho ho' hgr hga hgl hat hbl' ho2 hown hbq hblq hbl
              go_wp2_with (at_builtin; refine wpList_run rfl (.tmp 99) (.tmp 107) 24 rfl (v := .slice (some ⟨ob, 0, none⟩) i oc) (u := .slice (some ⟨wr.heap.size, 0, none⟩) 1 1) rfl rfl hr ?_)
              go_roundw
              case rel => exact ⟨i + 1, by omega, by go_num, HF.out⟩
              case measure => simp [intOf]; omega
        · obtain rfl : N = i := by omega
          obtain ⟨ob, oc, xs, rfl, hown, hbl, hat⟩ := hB
          go_wp2
          refine bodyPost_ret (v := .tuple #[.slice (some ⟨ob, 0, none⟩) N oc, .bool true]) (by simp [results, Yba.results5, go_sem]) rfl ⟨hbl, Or.inr ⟨ob, oc, rfl, ?_⟩⟩
          refine ⟨(hown.lt ob rfl).2, fun j hj => ?_, by simp; omega⟩
          obtain ⟨x, kb, kc, h1, h2, h3, h4⟩ := hat j (by simpa [hN] using hj)
          exact ⟨x, h1, h2, kb, kc, h4⟩

theorem build_big (v : Value) (N : Nat) (o : Option Addr) (cap : Nat) (ex ag : Int) (w : World) (hv : v = .slice o N cap) (hN : 256 < N) (hN2 : N ≤ 9223372036854775807) :
    Calls Yba.prog 5 #[v, .int .u32 ex, .int .u32 ag] w fun e w' => w' = w ∧ e = .returned (.tuple #[.slice none 0 0, .bool false]) := by
  subst hv
  go_enter Yba.func5, Yba.ntmps5
  go_wp2
  refine bodyPost_ret (v := .tuple #[.slice none 0 0, .bool false]) (by simp [results, Yba.results5, go_sem]) rfl ⟨rfl, rfl⟩

set_option maxHeartbeats 800000 in
theorem build_nil (ex ag : Int) (w : World) :
    Calls Yba.prog 5 #[.slice none 0 0, .int .u32 ex, .int .u32 ag] w fun e w' => Below w.heap.size w w' ∧ ∃ ob oc, e = .returned (.tuple #[.slice (some ⟨ob, 0, none⟩) 0 oc, .bool true]) ∧ Ases ob [] w' := by
  obtain ⟨w1, hmk, hown, hgr⟩ := run_make_own (P := Yba.prog) w w.heap.size 24 47 Yba.t47 _ 4 Yba.underlying24 (by kernel_rfl) rfl rfl .i64 .i64 0 (by show 48 * 0 ≤ _; omega) (by unfold maxLen; omega) (Nat.le_refl _)
  have hmk2 : (Instr.makeSlice 24 (.int .i64 0) (.int .i64 0)).run Yba.prog w = .ok (.slice (some ⟨w.heap.size, 0, none⟩) 0 0) w1 := hmk
  have HP : Hid (Below w.heap.size w w1 ∧ Ases w.heap.size [] w1) := by
    refine ⟨⟨hgr.os, hgr.tape, hgr.output, hgr.size, fun i hi => hgr.block i hi (by simp)⟩, ⟨(hown.lt _ rfl).2, fun i hi => ?_, by simp⟩⟩
    simp at hi
  clear hmk hown hgr
  go_enter Yba.func5, Yba.ntmps5
  go_wp2
  go_loop [8, 21] (fun t ii => t = .int .i64 0 ∧ ii = .int .i64 0) (fun _ _ => 0)
  case atStart => exact ⟨rfl, rfl⟩
  case round =>
    obtain ⟨rfl, rfl⟩ := hrel
    go_wp2
    go_loopw [10, 40] (fun v ii wr => v = .slice (some ⟨w.heap.size, 0, none⟩) 0 0 ∧ ii = .int .i64 0 ∧ wr = w1) (fun _ _ _ => 0)
    case atStart => exact ⟨rfl, rfl, rfl⟩
    case round =>
      obtain ⟨rfl, rfl, rfl⟩ := hrel
      go_wp2
      refine bodyPost_ret (v := .tuple #[.slice (some ⟨w.heap.size, 0, none⟩) 0 0, .bool true]) (by simp [results, Yba.results5, go_sem]) rfl ⟨HP.out.1, _, _, rfl, HP.out.2⟩
end Go.Proofs.Ybulkaily
