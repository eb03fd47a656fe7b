/-
  Circuits by its contract.
-/
import Derived.Test.YbulkailyPlain
namespace Go.Proofs.Ybulkaily
open Go.RowKit
attribute [local go_sem ↓] Go.wp_at_zero Go.wp_at_succ

theorem z32 : Yba.prog.info? 32 = some Yba.t32 := by kernel_rfl
theorem append_u16 (A : World) (base n : Nat) (v : Value) (xs : List Value) (hown : A.ownsRow base 32 1 v n xs) (hb : base ≤ A.heap.size) (hn : n ≤ 1000000) (c : Int) :
    ∃ g cap w', (Builtin.append_ #[27, 27] 27 #[v, .slice (some ⟨A.heap.size, 0, none⟩) 1 1]).run Yba.prog (A.alloc (.cells #[.int .u16 c] 32)) = .ok (.slice (some ⟨g, 0, none⟩) (n + 1) cap) w' ∧
      w'.ownsRow base 32 1 (.slice (some ⟨g, 0, none⟩) (n + 1) cap) (n + 1) (xs ++ [.int .u16 c]) ∧
      (A.alloc (.cells #[.int .u16 c] 32)).grownBy w' v.ownBlock ∧ (v.ownBlock = some g ∨ g = A.heap.size + 1) ∧ g < w'.heap.size := by
  refine run_append_lies (P := Yba.prog) _ 27 27 base 32 Yba.t32 _ 1 2 Yba.underlying27 z32 rfl rfl rfl rfl (by decide) v n xs ?_ ⟨A.heap.size, 0, none⟩ 1 1 _ rfl ?_ ?_ (by decide) (by unfold maxLen; omega) (by omega) (by simp; omega) (A.heap.size + 1) (by simp)
  · exact World.ownsRow.alloc hown _
  · exact World.news_of_block (heap_alloc_new A _)
  · intro u hu
    simp at hu
    subst hu
    rfl

/-- The circuits below k. -/
def circ (L : List (Int × List K)) (xp xr ap ar : Int) (k : Nat) : List Nat := (List.range k).filter fun c => modelB L ap xp c ar && modelB L xp ap c xr
def u16s (l : List Nat) : List Value := l.map fun c : Nat => .int .u16 (c : Int)
theorem circ_succ (L : List (Int × List K)) (xp xr ap ar : Int) (k : Nat) : circ L xp xr ap ar (k + 1) = circ L xp xr ap ar k ++ if (modelB L ap xp k ar && modelB L xp ap k xr) = true then [k] else [] := by
  unfold circ
  rw [List.range_succ, List.filter_append]
  cases h : (modelB L ap xp k ar && modelB L xp ap k xr) <;> simp [h]
theorem circ_len (L : List (Int × List K)) (xp xr ap ar : Int) (k : Nat) : (circ L xp xr ap ar k).length ≤ k := by
  have := List.length_filter_le (fun c : Nat => modelB L ap xp c ar && modelB L xp ap c xr) (List.range k)
  unfold circ
  simpa using this

/-- The circuits gathered so far. -/
def CRel (w1 : World) (l : List Nat) (v : Value) (wr : World) : Prop := wr.ownsRow w1.heap.size 32 1 v l.length (u16s l) ∧ Below w1.heap.size w1 wr

theorem CRel.push {w1 A w' : World} {l : List Nat} {v : Value} {k g cap : Nat} (hb : Below w1.heap.size w1 A) (hown : A.ownsRow w1.heap.size 32 1 v l.length (u16s l))
    (ho : w'.ownsRow w1.heap.size 32 1 (.slice (some ⟨g, 0, none⟩) (l.length + 1) cap) (l.length + 1) (u16s l ++ [.int .u16 (k : Int)])) {o : Obj} (hg : (A.alloc o).grownBy w' v.ownBlock) : CRel w1 (l ++ [k]) (.slice (some ⟨g, 0, none⟩) (l.length + 1) cap) w' := by
  refine ⟨?_, (hb.alloc hb.size o).grown hg (by simp; have := hb.size; omega) (fun k hk => (hown.lt k hk).1)⟩
  have e1 : (l ++ [k]).length = l.length + 1 := by simp
  have e2 : u16s (l ++ [k]) = u16s l ++ [.int .u16 (k : Int)] := by simp [u16s]
  rw [e1, e2]
  exact ho

set_option maxRecDepth 20000 in
set_option maxHeartbeats 3200000 in
theorem circuits_any (ob cap N : Nat) (L : List (Int × List K)) (w : World) (hN : L.length = N) (hA : Ases ob L w) (hrc : Hid (∀ x ∈ L, 0 ≤ x.1 ∧ x.1 ≤ 4294967295)) (xp ap : Nat) (xr ar : Int) :
    Calls Yba.prog 6 #[.slice (some ⟨ob, 0, none⟩) N cap, .agg #[.int .u32 xr, .int .u32 xp], .agg #[.int .u32 ar, .int .u32 ap]] w fun e w' => ∃ v, e = .returned v ∧ w'.ownsRow w.heap.size 32 1 v (circ L xp xr ap ar 4096).length (u16s (circ L xp xr ap ar 4096)) ∧ Below w.heap.size w w' := by
  have HA : Hid (Ases ob L w) := hA
  clear hA
  go_enter Yba.func6, Yba.ntmps6
  go_wp2_with fail
  refine (new_any ob cap N L _ hN (HA.out.below (((Below.refl _ _).alloc (Nat.le_refl _) _).alloc (by simp) _)) hrc).mono ?_
  rintro e w1 ⟨T, rfl, hb1, FF, hF, hTab, hrc1⟩
  have hs1 : w.heap.size + 1 + 1 ≤ w1.heap.size := by have := hb1.size; simpa using this
  have HB1 : Hid (Below w.heap.size w w1) := (((Below.refl _ _).alloc (Nat.le_refl _) _).alloc (by simp) _).trans (hb1.mono (by simp; omega))
  have HTab : Hid (∀ W, Below w1.heap.size w1 W → Tab T (fun p => (sel FF p).map pr) (rcAt w1) W) := fun W hW => hTab.below hW
  have HSB : Hid (∀ (D : Nat) (O C rc pc : Int) (b : Bool) (W : World), Below w1.heap.size w1 W → modelB L D O C rc = b → Calls Yba.prog 10 #[.pointer (some ⟨T, 0, none⟩), msgVal D O C, .agg #[.int .u32 rc, .int .u32 pc]] W fun e w' => e = .returned (.bool b) ∧ Below W.heap.size W w') := by
    intro D O C rc pc b W hW hm
    have h1 := servedBy_any T (fun p => (sel FF p).map pr) (rcAt w1) D O C rc pc W (HTab.out W hW)
    rw [served_eq FF L (rcAt w1) hF hrc1, hm] at h1
    exact h1
  have c0 : w1.cell? ⟨w.heap.size, 0, none⟩ = some (.int .u32 xr) := by rw [hb1.cell (by simp; omega), World.cell?_alloc_past _ _ _ (by simp)]; simp [go_sem]
  have c1 : w1.cell? ⟨w.heap.size, 1, none⟩ = some (.int .u32 xp) := by rw [hb1.cell (by simp; omega), World.cell?_alloc_past _ _ _ (by simp)]; simp [go_sem]
  have c2 : w1.cell? ⟨w.heap.size + 1, 0, none⟩ = some (.int .u32 ar) := by rw [hb1.cell (by simp)]; simp [go_sem]
  have c3 : w1.cell? ⟨w.heap.size + 1, 1, none⟩ = some (.int .u32 ap) := by rw [hb1.cell (by simp)]; simp [go_sem]
  have HC : Hid (w1.cell? ⟨w.heap.size, 0, none⟩ = some (.int .u32 xr) ∧ w1.cell? ⟨w.heap.size, 1, none⟩ = some (.int .u32 xp) ∧ w1.cell? ⟨w.heap.size + 1, 0, none⟩ = some (.int .u32 ar) ∧ w1.cell? ⟨w.heap.size + 1, 1, none⟩ = some (.int .u32 ap)) := ⟨c0, c1, c2, c3⟩
  clear hb1 hF hTab hrc1 c0 c1 c2 c3
  go_wp2
  go_loopw [8, 9] (fun v cc wr => ∃ k : Nat, k ≤ 4096 ∧ cc = .int .u16 k ∧ CRel w1 (circ L xp xr ap ar k) v wr) (fun _ cc _ => 4096 - (intOf cc).toNat)
  case atStart => exact ⟨0, Nat.zero_le _, rfl, World.ownsRow_nil w1 w1.heap.size 32 1, Below.refl _ _⟩
  case round =>
    obtain ⟨k, hk, rfl, hown, hbr⟩ := hrel
    have hln := circ_len L xp xr ap ar k
    by_cases hlt : k < 4096
    · obtain ⟨c0, c1, c2, c3⟩ := HC.out
      have l0 : w.heap.size < w1.heap.size := by omega
      have l1 : w.heap.size + 1 < w1.heap.size := by omega
      have hbs := hbr.size
      have e0 : wr.cell? ⟨w.heap.size, 0, none⟩ = some (.int .u32 xr) := by rw [hbr.cell (by exact l0)]; exact c0
      have e1 : wr.cell? ⟨w.heap.size, 1, none⟩ = some (.int .u32 xp) := by rw [hbr.cell (by exact l0)]; exact c1
      have e2 : wr.cell? ⟨w.heap.size + 1, 0, none⟩ = some (.int .u32 ar) := by rw [hbr.cell (by exact l1)]; exact c2
      have e3 : wr.cell? ⟨w.heap.size + 1, 1, none⟩ = some (.int .u32 ap) := by rw [hbr.cell (by exact l1)]; exact c3
      have l2 : w.heap.size < wr.heap.size := by omega
      have l3 : w.heap.size + 1 < wr.heap.size := by omega
      have HO : Hid (wr.ownsRow w1.heap.size 32 1 u8 (circ L xp xr ap ar k).length (u16s (circ L xp xr ap ar k))) := hown
      have HB : Hid (Below w1.heap.size w1 wr) := hbr
      have HS := circ_succ L xp xr ap ar k
      have HSH : Hid _ := HS
      clear hown hbr HS c0 c1 c2 c3
      have hbool : ∀ b : Bool, b = true ∨ b = false := fun b => by cases b <;> simp
      have hW0 : Below w1.heap.size w1 ((wr.alloc (.cells #[.int .u32 ap, .int .u32 xp, .int .u8 5, .int .u16 k, .bool true] 51)).alloc (.cells #[.int .u32 xp, .int .u32 ap, .int .u8 5, .int .u16 k, .bool true] 51)) := (HB.out.alloc HB.out.size _).alloc (by simp; omega) _
      have HW0 : Hid (Below w1.heap.size w1 ((wr.alloc (.cells #[.int .u32 ap, .int .u32 xp, .int .u8 5, .int .u16 k, .bool true] 51)).alloc (.cells #[.int .u32 xp, .int .u32 ap, .int .u8 5, .int .u16 k, .bool true] 51))) := hW0
      clear hW0
      rcases hbool (modelB L ap xp k ar) with h1 | h1
      · have HH1 : Hid (modelB L ap xp k ar = true) := h1
        clear h1
        go_wp2_with fail
        refine (HSB.out ap xp k ar ap true _ HW0.out HH1.out).mono ?_
        rintro e wa ⟨rfl, hba⟩
        have hbas : wr.heap.size + 1 + 1 ≤ wa.heap.size := by have := hba.size; simpa using this
        have m0 : wa.cell? ⟨wr.heap.size + 1, 0, none⟩ = some (.int .u32 xp) := by rw [hba.cell (by simp)]; simp [go_sem]
        have m1 : wa.cell? ⟨wr.heap.size + 1, 1, none⟩ = some (.int .u32 ap) := by rw [hba.cell (by simp)]; simp [go_sem]
        have m2 : wa.cell? ⟨wr.heap.size + 1, 2, none⟩ = some (.int .u8 5) := by rw [hba.cell (by simp)]; simp [go_sem]
        have m3 : wa.cell? ⟨wr.heap.size + 1, 3, none⟩ = some (.int .u16 k) := by rw [hba.cell (by simp)]; simp [go_sem]
        have m4 : wa.cell? ⟨wr.heap.size + 1, 4, none⟩ = some (.bool true) := by rw [hba.cell (by simp)]; simp [go_sem]
        have f0 : wa.cell? ⟨w.heap.size, 0, none⟩ = some (.int .u32 xr) := by rw [hba.cell (by simp; omega), World.cell?_alloc_past _ _ _ (by simp; omega), World.cell?_alloc_past _ _ _ l2]; exact e0
        have f1 : wa.cell? ⟨w.heap.size, 1, none⟩ = some (.int .u32 xp) := by rw [hba.cell (by simp; omega), World.cell?_alloc_past _ _ _ (by simp; omega), World.cell?_alloc_past _ _ _ l2]; exact e1
        have HWa : Hid (Below w1.heap.size w1 wa) := HW0.out.trans (hba.mono (by simp; omega))
        have HWr : Hid (Below wr.heap.size wr wa) := (((Below.refl _ _).alloc (Nat.le_refl _) _).alloc (by simp) _).trans (hba.mono (by simp; omega))
        clear hba
        rcases hbool (modelB L xp ap k xr) with h2 | h2
        · have HH2 : Hid (modelB L xp ap k xr = true) := h2
          clear h2 hbool
          go_wp2_with fail
          refine (HSB.out xp ap k xr xp true _ HWa.out HH2.out).mono ?_
          rintro e wb ⟨rfl, hbb⟩
          have hwb : Below w1.heap.size w1 wb := HWa.out.trans (hbb.mono HWa.out.size)
          have hob : wb.ownsRow w1.heap.size 32 1 u8 (circ L xp xr ap ar k).length (u16s (circ L xp xr ap ar k)) := by
            have hw : Below wr.heap.size wr wb := HWr.out.trans (hbb.mono HWr.out.size)
            exact HO.out.kept (row := none) ⟨hw.os, hw.tape, hw.output, hw.size, fun k hk _ => hw.block k hk⟩ (by cases u8.ownBlock <;> simp)
          obtain ⟨g, gc, w', hr, ho, hg, _, _⟩ := append_u16 wb w1.heap.size _ u8 _ hob hwb.size (by omega) (k : Int)
          have HCR : Hid (CRel w1 (circ L xp xr ap ar (k + 1)) (.slice (some ⟨g, 0, none⟩) ((circ L xp xr ap ar k).length + 1) gc) w') := by
            show CRel _ _ _ _
            rw [HSH.out, if_pos (by rw [HH1.out, HH2.out]; rfl)]
            exact CRel.push hwb hob ho hg
          clear hbb hwb hob ho hg
          go_wp2_with (at_builtin; refine wpList_run rfl (.tmp 40) (.tmp 42) 27 rfl (v := u8) (u := .slice (some ⟨wb.heap.size, 0, none⟩) 1 1) rfl rfl hr ?_)
          go_roundw
          case rel => exact ⟨k + 1, by omega, by go_num, HCR.out⟩
          case measure => simp [intOf]; omega
        · have HH2 : Hid (modelB L xp ap k xr = false) := h2
          clear h2 hbool
          go_wp2_with fail
          refine (HSB.out xp ap k xr xp false _ HWa.out HH2.out).mono ?_
          rintro e wb ⟨rfl, hbb⟩
          have HCR : Hid (CRel w1 (circ L xp xr ap ar (k + 1)) u8 wb) := by
            have hw : Below wr.heap.size wr wb := HWr.out.trans (hbb.mono HWr.out.size)
            show CRel _ _ _ _
            rw [HSH.out, if_neg (by rw [HH2.out]; simp), List.append_nil]
            exact ⟨HO.out.kept (row := none) ⟨hw.os, hw.tape, hw.output, hw.size, fun k hk _ => hw.block k hk⟩ (by cases u8.ownBlock <;> simp), HWa.out.trans (hbb.mono HWa.out.size)⟩
          clear hbb
          go_wp2
          go_roundw
          case rel => exact ⟨k + 1, by omega, by go_num, HCR.out⟩
          case measure => simp [intOf]; omega
      · have HH1 : Hid (modelB L ap xp k ar = false) := h1
        clear h1 hbool
        go_wp2_with fail
        refine (HSB.out ap xp k ar ap false _ HW0.out HH1.out).mono ?_
        rintro e wa ⟨rfl, hba⟩
        have HCR : Hid (CRel w1 (circ L xp xr ap ar (k + 1)) u8 wa) := by
          have hw : Below wr.heap.size wr wa := (((Below.refl _ _).alloc (Nat.le_refl _) _).alloc (by simp) _).trans (hba.mono (by simp; omega))
          show CRel _ _ _ _
          rw [HSH.out, if_neg (by rw [HH1.out]; simp), List.append_nil]
          exact ⟨HO.out.kept (row := none) ⟨hw.os, hw.tape, hw.output, hw.size, fun k hk _ => hw.block k hk⟩ (by cases u8.ownBlock <;> simp), HW0.out.trans (hba.mono (by simp; omega))⟩
        clear hba
        go_wp2
        go_roundw
        case rel => exact ⟨k + 1, by omega, by go_num, HCR.out⟩
        case measure => simp [intOf]; omega
    · obtain rfl : k = 4096 := by omega
      have HO : Hid (wr.ownsRow w1.heap.size 32 1 u8 (circ L xp xr ap ar 4096).length (u16s (circ L xp xr ap ar 4096))) := hown
      have HB : Hid (Below w1.heap.size w1 wr) := hbr
      clear hown hbr
      go_wp2
      refine bodyPost_ret (v := u8) (by simp [results, Yba.results6, go_sem]) rfl ⟨_, rfl, ?_, HB1.out.trans (HB.out.mono HB1.out.size)⟩
      refine ⟨HO.out.1, ?_⟩
      rcases HO.out.2 with h | ⟨g, c, cur, h1, h2, h3⟩
      · exact Or.inl h
      · exact Or.inr ⟨g, c, cur, h1, by omega, h3⟩
end Go.Proofs.Ybulkaily
