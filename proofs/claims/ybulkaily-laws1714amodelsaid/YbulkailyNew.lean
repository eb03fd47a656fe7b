/-
  NewTable by its contract.
-/
import Derived.Test.YbulkailyAdd
namespace Go.Proofs.Ybulkaily
open Go.RowKit

theorem info69 : Yba.prog.info? 69 = some Yba.t69 := by kernel_rfl
theorem info62 : Yba.prog.info? 62 = some Yba.t62 := by kernel_rfl
theorem info67 : Yba.prog.info? 67 = some Yba.t67 := by kernel_rfl
theorem info54 : Yba.prog.info? 54 = some Yba.t54 := by kernel_rfl
theorem size62 : Yba.t62.size = 16384 := by kernel_rfl
theorem size67 : Yba.t67.size = 2 := by kernel_rfl
theorem size54 : Yba.t54.size = 1 := by kernel_rfl

theorem build_table (b : Nat) : ∃ Z : Array Value, (∀ w, (Instr.build 69 #[(2, .map (some b))]).run Yba.prog w = .ok (.agg Z) w) ∧ Z.size = 16387 ∧ Z[16386]? = some (.map (some b)) ∧ ∀ p, p ≤ 16383 → Z[p]? = some (.pointer none) := by
  obtain ⟨Z, hz, hs, hn⟩ := table_zero
  refine ⟨Z.setIfInBounds 16386 (.map (some b)), fun w => ?_, by simp [hs], ?_, fun p hp => ?_⟩
  · have hzv : (zeroValue 69).run Yba.prog w = .ok (.agg Z) w := by simp [zeroValue, typeInfo, info69, hz]
    have h62 : (sizeOf 62).run Yba.prog w = .ok 16384 w := by simp [sizeOf, typeInfo, info62, size62]
    have h67 : (sizeOf 67).run Yba.prog w = .ok 2 w := by simp [sizeOf, typeInfo, info67, size67]
    have h54 : (sizeOf 54).run Yba.prog w = .ok 1 w := by simp [sizeOf, typeInfo, info54, size54]
    simp [Instr.build, hzv, run_underlying Yba.underlying69, h62, h67, h54, Instr.fill, Value.cells, hs, Result.andThen]
  · rw [Array.getElem?_setIfInBounds_self_of_lt (by omega)]
  · rw [Array.getElem?_setIfInBounds_ne (by omega)]
    exact hn p (by omega)

theorem make_servers (n : Int) (w : World) : (Instr.makeMap 54 (some (.int .i64 n))).run Yba.prog w = .ok (.map (some w.heap.size)) (w.alloc (.map #[] 0)) := by
  simp only [Instr.makeMap, Sem.run_bind, run_underlying Yba.underlying54, Result.andThen_ok]
  rfl

theorem box_table (Z : Array Value) (w : World) : (Instr.box 69 (.agg Z)).run Yba.prog w = .ok (.pointer (some ⟨w.heap.size, 0, none⟩)) (w.alloc (.cells Z 69)) := rfl

theorem wpList_build69 {ops : Array Oper} {rest : List Oper} {o : Oper} {a : Act} {w : World} {Q : Exit → Act → World → Prop} (hgd : o.guard = none) (x : Operand) (hop : o.op = Op.build 69 #[(2, x)]) {m v : Value} (hx : a.eval x = m)
    (hr : (Instr.build 69 #[(2, m)]).run Yba.prog w = .ok v w) (h : wpList Yba.prog ops Q rest (a.put o.dst v) w) : wpList Yba.prog ops Q (o :: rest) a w := by
  refine wpList_plain hgd fun K hK => ?_
  unfold Oper.wp execOp
  simp only [hop, Sem.run_bind, Sem.run_pure, Result.andThen_ok, List.map_toArray, List.map_cons, List.map_nil, hx, hr]
  exact hK _ _ h

set_option maxHeartbeats 800000 in
theorem new_any (ob cap N : Nat) (L : List (Int × List K)) (w : World) (hN : L.length = N) (hA : Ases ob L w) (hrc : Hid (∀ x ∈ L, 0 ≤ x.1 ∧ x.1 ≤ 4294967295)) :
    Calls Yba.prog 9 #[.slice (some ⟨ob, 0, none⟩) N cap] w fun e w' => ∃ T, e = .returned (.pointer (some ⟨T, 0, none⟩)) ∧ Below w.heap.size w w' ∧ ∃ FF : List R3, rcs FF = near (flat L) ∧ Tab T (fun p => (sel FF p).map pr) (rcAt w') w' ∧ ∀ r ∈ FF, rcAt w' r.2.1 = r.2.2 := by
  obtain ⟨Z, hb, hs, hm, hn⟩ := build_table w.heap.size
  have hmk := make_servers (N : Int) w
  have hbx := box_table Z (w.alloc (.map #[] 0))
  have hb1 := hb (w.alloc (.map #[] 0))
  rw [World.size_alloc] at hbx
  have HZ : Hid (Z.size = 16387 ∧ Z[16386]? = some (.map (some w.heap.size)) ∧ ∀ p, p ≤ 16383 → Z[p]? = some (.pointer none)) := ⟨hs, hm, hn⟩
  have HA : Hid (Ases ob L w) := hA
  clear hb hs hm hn hA
  go_enter Yba.func9, Yba.ntmps9
  go_wp2_with (first | (refine wpList_build69 rfl (.tmp 6) rfl (m := .map (some w.heap.size)) rfl hb1 ?_) | fail)
  have hbel : Below w.heap.size w ((w.alloc (.map #[] 0)).alloc (.cells Z 69)) := ((Below.refl _ _).alloc (Nat.le_refl _) _).alloc (by simp) _
  have hTb : ((w.alloc (.map #[] 0)).alloc (.cells Z 69)).heap[w.heap.size + 1]? = some (.cells Z 69 (0, 0)) := by
    have := heap_alloc_new (w.alloc (.map #[] 0)) (.cells Z 69)
    rw [World.size_alloc] at this
    exact this
  refine (add_any (w.heap.size + 1) w.heap.size ob cap N L _ hN (HA.out.below hbel) hrc Z ⟨hTb, HZ.out.1, HZ.out.2.1, HZ.out.2.2⟩ ((sm_made w).kept (World.grownBy_alloc _ _ none) (by simp))).mono ?_
  rintro e w' ⟨rfl, FF, h1, h2, h3, h4, h5, h6, h7, h8⟩
  have HP : Hid (Below w.heap.size w w' ∧ ∃ FF : List R3, rcs FF = near (flat L) ∧ Tab (w.heap.size + 1) (fun p => (sel FF p).map pr) (rcAt w') w' ∧ ∀ r ∈ FF, rcAt w' r.2.1 = r.2.2) := by
    refine ⟨hbel.trans ⟨h4, h5, h6, ?_, fun i hi => h8 i ?_ ?_ ?_⟩, FF, h1, h2, h3⟩
    · exact h7
    · simp; omega
    · omega
    · omega
  clear h1 h2 h3 h4 h5 h6 h7 h8 hbel hTb
  go_wp2
  refine bodyPost_ret (v := .pointer (some ⟨w.heap.size + 1, 0, none⟩)) (by simp [results, Yba.results9, go_sem]) rfl ⟨_, rfl, HP.out⟩
end Go.Proofs.Ybulkaily
