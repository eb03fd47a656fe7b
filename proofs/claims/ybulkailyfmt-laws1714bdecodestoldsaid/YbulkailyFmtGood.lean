/-
  The law's walk (function 3) at a good input.
-/
import Derived.Test.YbulkailyFmtLaw
namespace Go.Proofs.YbulkailyFmt
open Go.RowKit Go.Extern.Stop Go.Stop Go.Extern

theorem info34 : (Ybaf.prog.info? 34).map (fun i => i.comparable) = some true := by kernel_rfl
theorem info36 : (Ybaf.prog.info? 36).map (fun i => i.comparable) = some true := by kernel_rfl
theorem eqlErr (a : Addr) (w : World) : (binOp .eql 25 (.iface 34 (.pointer (some a))) (.iface 34 (.pointer (some a)))).run Ybaf.prog w = .ok (.bool true) w := by
  obtain ⟨i, hi, hc⟩ := Option.map_eq_some_iff.1 info34
  obtain ⟨j, hj, _⟩ := Option.map_eq_some_iff.1 info36
  exact run_eql_iface_ptr_same w a Ybaf.underlying25 Ybaf.underlying34 hi hc hj

set_option maxHeartbeats 3200000 in
theorem law_odd (b off len cap : Nat) (l : List Int) (s fail : Int) (size n : Nat) (fa : Int) (w : World) (hlen : len ≤ 1024) 
    (hsz : s % 8 + 1 = (size : Int)) (hs1 : 1 ≤ size) (hs8 : size ≤ 8) (hs0 : 0 ≤ s) (hs255 : s ≤ 255) (hf0 : 0 ≤ fail) (hf1 : fail ≤ 65535) (hdiv : (len : Int) / (size : Int) = (n : Int)) (hfa : (wrap64 (IntKind.u16.wrap (fail.tdiv 2))).tmod ((n : Int) + 1) = fa) (hfa0 : 0 ≤ fa)
    (hob : (fail % 2 == 1) = true) (hn : n * size = len) (hn1 : 1 ≤ n) (hl : l.length = len) (hcap : len ≤ cap) (hb : b < w.heap.size)
    (hby : ∀ k : Nat, 0 ≤ l[k]?.getD 0 ∧ l[k]?.getD 0 ≤ 255) 
    (hc : ∀ j, j < len → w.cell? ⟨b, off + j, none⟩ = some (.int .u8 (l.getD j 0))) :
    Calls Ybaf.prog 3 #[.slice (some ⟨b, off, none⟩) len cap, .int .u8 s, .int .u16 fail] w fun e w' => e = .returned (.bool true) ∧ Below w.heap.size w w' := by
  have hmf : ∀ (fn : Fn) (first cap : Array Value) (w : World), (Instr.makeFunc fn first cap).run Ybaf.prog w = .ok (.func fn first cap) w := fun _ _ _ _ => rfl
  have hnl : n ≤ 1024 := by
    have : n * 1 ≤ n * size := Nat.mul_le_mul_left n hs1
    omega
  have hp : (n * size) % size = 0 := Nat.mul_mod_left n size
  have hl0 : 1 ≤ len := by
    have : 1 * 1 ≤ n * size := Nat.mul_le_mul hn1 hs1
    omega
  have hmod : ((len : Int) % (size : Int) != 0) = false := by
    rw [hn] at hp; rw [bne_eq_false_iff_eq]; omega
  have hb0 : ((len : Int) == 0) = false := by simp; omega
  have hd : decide ((1024 : Int) < (len : Int)) = false := by simp; omega
  have he := eql30
  have he2 := eqlErr
  have HN : Hid (n * size = len) := hn
  have HC : Hid (∀ j, j < len → w.cell? ⟨b, off + j, none⟩ = some (.int .u8 (l.getD j 0))) := hc
  have HY : Hid (∀ k : Nat, 0 ≤ l[k]?.getD 0 ∧ l[k]?.getD 0 ≤ 255) := hby
  clear hp hn hc hby
  · go_enter Ybaf.func3, Ybaf.ntmps3
    go_wp2_with (go_at_call 4; refine (new_any _ _).mono ?_; rintro e w' ⟨rfl, rfl⟩)
    refine (list_good w.heap.size b off len cap l size fa n _ (env_of b off len cap l size fa _ w hb HC.out) hb hl hlen hcap hs1 hs8 HN.out hn1 (by simp) HY.out).mono ?_
    rintro e w1 ⟨hor, hb1⟩
    have hB : Below w.heap.size w w1 := by
      refine Below.trans ?_ hb1
      exact ((((((((Below.refl _ _).alloc (Nat.le_refl _) _).alloc (by simp) _).alloc (by simp <;> omega) _).alloc (by simp <;> omega) _).alloc (by simp <;> omega) _).alloc (by simp <;> omega) _).alloc (by simp <;> omega) _)
    clear hb1
    rcases hor with ⟨g0, g1, rfl, hE⟩ | ⟨hnf, g, rfl, hE, hown⟩
    · obtain ⟨cb, cs, cf, ce, cc, fc, cd, bytes⟩ := hE
      have e5 : ((fa.toNat + 1 : Nat) : Int) = fa + 1 := by omega
      rw [e5] at cc
      clear bytes fc e5
      go_wp2
      go_ret
      exact ⟨rfl, hB⟩
    · have hfn : (n : Int) ≤ fa := by
        apply Classical.byContradiction; intro h; exact hnf ⟨hfa0, by omega⟩
      obtain ⟨cb, cs, cf, ce, cc, fc, cd, bytes⟩ := hE
      clear fc hnf
      have HB : Hid (∀ j, j < len → w1.cell? ⟨b, off + j, none⟩ = some (.int .u8 (l.getD j 0))) := bytes
      have HO : Hid (w1.ownsRow _ 27 1 (.slice (some ⟨g, 0, none⟩) n n) n ((folds l size n).map (Value.int .u32))) := hown
      clear bytes hown
      go_wp2
      go_loopw [16] (fun i wr => ∃ k q : Nat, k ≤ n ∧ i = .int .i64 k ∧ wr = w1.drewN q) (fun i _ => n - (intOf i).toNat)
      case atStart => exact ⟨0, 0, Nat.zero_le _, rfl, rfl⟩
      case round =>
        obtain ⟨k, q, hk, rfl, hwr⟩ := hrel
        by_cases hkn : k < n
        · obtain ⟨ii, hii⟩ : ∃ ii, ii = k * size := ⟨_, rfl⟩
          have h1 : (k + 1) * size ≤ n * size := Nat.mul_le_mul_right size hkn
          have hiis : ii + size ≤ len := by have := HN.out; rw [Nat.add_mul] at h1; omega
          have hki : (k : Int) * (size : Int) = (ii : Int) := by rw [hii]; simp
          have hki2 : ((k : Int) + 1) * (size : Int) = (ii : Int) + size := by rw [Int.add_mul, hki]; omega
          have hgot : wr.cell? ⟨g, k, none⟩ = some (.int .u32 (foldL (chunk l ii size))) := by
            rw [hwr, World.cell?_drewN, HO.out.cellAt k (by omega), hii]
            simp [folds, hkn]
          have cb' : wr.cell? ⟨w.heap.size, 0, none⟩ = some (.slice (some ⟨b, off, none⟩) len cap) := by rw [hwr]; exact cb
          have cs' : wr.cell? ⟨w.heap.size + 1, 0, none⟩ = some (.int .i64 size) := by rw [hwr]; exact cs
          have HKl : Hid ((chunk l ii size).length = size) := chunk_len l ii size (by omega)
          have HKb : Hid (∀ t : Nat, 0 ≤ (chunk l ii size)[t]?.getD 0 ∧ (chunk l ii size)[t]?.getD 0 ≤ 255) := by
            intro t
            by_cases ht : t < size
            · rw [chunk_at l ii size t ht]; exact HY.out _
            · rw [List.getElem?_eq_none (by rw [HKl.out]; omega)]; simp
          have HKc : Hid (∀ t : Nat, t < size → wr.cell? ⟨b, off + ii + t, none⟩ = some (.int .u8 ((chunk l ii size).getD t 0))) := by
            intro t ht
            have := HB.out (ii + t) (by omega)
            rw [← Nat.add_assoc] at this
            rw [hwr, World.cell?_drewN, this]
            have e2 := chunk_at l ii size t ht
            simp only [List.getD_eq_getElem?_getD]
            rw [e2]
          have HW : Hid (wr = w1.drewN q) := hwr
          have HII : Hid (ii = k * size) := hii
          clear h1 hwr hii cb cs cf ce cc cd
          go_wp2
          go_quiet ((go_at_call 6; refine Calls.quiet_of_same (fold_any b (off + ii) size _ (chunk l ii size) _ HKl.out (by omega) HKb.out HKc.out)))
          go_wp2
          go_roundw
          case rel => exact ⟨k + 1, _, by omega, by go_num, by rw [HW.out]; exact World.drewN_drewN _ _ _⟩
          case measure => simp [intOf]; omega
        · go_wp2
          go_ret
          exact ⟨rfl, below_drewN hB q⟩
set_option maxHeartbeats 3200000 in
theorem law_even (b off len cap : Nat) (l : List Int) (s fail : Int) (size n : Nat) (w : World) (hlen : len ≤ 1024) 
    (hsz : s % 8 + 1 = (size : Int)) (hs1 : 1 ≤ size) (hs8 : size ≤ 8) (hs0 : 0 ≤ s) (hs255 : s ≤ 255) (hf0 : 0 ≤ fail) (hf1 : fail ≤ 65535) (hdiv : (len : Int) / (size : Int) = (n : Int))
    (hob : (fail % 2 == 1) = false) (hn : n * size = len) (hn1 : 1 ≤ n) (hl : l.length = len) (hcap : len ≤ cap) (hb : b < w.heap.size)
    (hby : ∀ k : Nat, 0 ≤ l[k]?.getD 0 ∧ l[k]?.getD 0 ≤ 255) 
    (hc : ∀ j, j < len → w.cell? ⟨b, off + j, none⟩ = some (.int .u8 (l.getD j 0))) :
    Calls Ybaf.prog 3 #[.slice (some ⟨b, off, none⟩) len cap, .int .u8 s, .int .u16 fail] w fun e w' => e = .returned (.bool true) ∧ Below w.heap.size w w' := by
  have hmf : ∀ (fn : Fn) (first cap : Array Value) (w : World), (Instr.makeFunc fn first cap).run Ybaf.prog w = .ok (.func fn first cap) w := fun _ _ _ _ => rfl
  have hnl : n ≤ 1024 := by
    have : n * 1 ≤ n * size := Nat.mul_le_mul_left n hs1
    omega
  have hp : (n * size) % size = 0 := Nat.mul_mod_left n size
  have hl0 : 1 ≤ len := by
    have : 1 * 1 ≤ n * size := Nat.mul_le_mul hn1 hs1
    omega
  have hmod : ((len : Int) % (size : Int) != 0) = false := by
    rw [hn] at hp; rw [bne_eq_false_iff_eq]; omega
  have hb0 : ((len : Int) == 0) = false := by simp; omega
  have hd : decide ((1024 : Int) < (len : Int)) = false := by simp; omega
  have he := eql30
  have he2 := eqlErr
  have HN : Hid (n * size = len) := hn
  have HC : Hid (∀ j, j < len → w.cell? ⟨b, off + j, none⟩ = some (.int .u8 (l.getD j 0))) := hc
  have HY : Hid (∀ k : Nat, 0 ≤ l[k]?.getD 0 ∧ l[k]?.getD 0 ≤ 255) := hby
  clear hp hn hc hby
  · go_enter Ybaf.func3, Ybaf.ntmps3
    go_wp2_with (go_at_call 4; refine (new_any _ _).mono ?_; rintro e w' ⟨rfl, rfl⟩)
    refine (list_good w.heap.size b off len cap l size (-1) n _ (env_of b off len cap l size (-1) _ w hb HC.out) hb hl hlen hcap hs1 hs8 HN.out hn1 (by simp) HY.out).mono ?_
    rintro e w1 ⟨hor, hb1⟩
    have hB : Below w.heap.size w w1 := by
      refine Below.trans ?_ hb1
      exact ((((((((Below.refl _ _).alloc (Nat.le_refl _) _).alloc (by simp) _).alloc (by simp <;> omega) _).alloc (by simp <;> omega) _).alloc (by simp <;> omega) _).alloc (by simp <;> omega) _).alloc (by simp <;> omega) _)
    clear hb1
    rcases hor with ⟨g0, g1, rfl, hE⟩ | ⟨hnf, g, rfl, hE, hown⟩
    · omega
    · obtain ⟨cb, cs, cf, ce, cc, fc, cd, bytes⟩ := hE
      clear fc hnf
      have HB : Hid (∀ j, j < len → w1.cell? ⟨b, off + j, none⟩ = some (.int .u8 (l.getD j 0))) := bytes
      have HO : Hid (w1.ownsRow _ 27 1 (.slice (some ⟨g, 0, none⟩) n n) n ((folds l size n).map (Value.int .u32))) := hown
      clear bytes hown
      go_wp2
      go_loopw [16] (fun i wr => ∃ k q : Nat, k ≤ n ∧ i = .int .i64 k ∧ wr = w1.drewN q) (fun i _ => n - (intOf i).toNat)
      case atStart => exact ⟨0, 0, Nat.zero_le _, rfl, rfl⟩
      case round =>
        obtain ⟨k, q, hk, rfl, hwr⟩ := hrel
        by_cases hkn : k < n
        · obtain ⟨ii, hii⟩ : ∃ ii, ii = k * size := ⟨_, rfl⟩
          have h1 : (k + 1) * size ≤ n * size := Nat.mul_le_mul_right size hkn
          have hiis : ii + size ≤ len := by have := HN.out; rw [Nat.add_mul] at h1; omega
          have hki : (k : Int) * (size : Int) = (ii : Int) := by rw [hii]; simp
          have hki2 : ((k : Int) + 1) * (size : Int) = (ii : Int) + size := by rw [Int.add_mul, hki]; omega
          have hgot : wr.cell? ⟨g, k, none⟩ = some (.int .u32 (foldL (chunk l ii size))) := by
            rw [hwr, World.cell?_drewN, HO.out.cellAt k (by omega), hii]
            simp [folds, hkn]
          have cb' : wr.cell? ⟨w.heap.size, 0, none⟩ = some (.slice (some ⟨b, off, none⟩) len cap) := by rw [hwr]; exact cb
          have cs' : wr.cell? ⟨w.heap.size + 1, 0, none⟩ = some (.int .i64 size) := by rw [hwr]; exact cs
          have HKl : Hid ((chunk l ii size).length = size) := chunk_len l ii size (by omega)
          have HKb : Hid (∀ t : Nat, 0 ≤ (chunk l ii size)[t]?.getD 0 ∧ (chunk l ii size)[t]?.getD 0 ≤ 255) := by
            intro t
            by_cases ht : t < size
            · rw [chunk_at l ii size t ht]; exact HY.out _
            · rw [List.getElem?_eq_none (by rw [HKl.out]; omega)]; simp
          have HKc : Hid (∀ t : Nat, t < size → wr.cell? ⟨b, off + ii + t, none⟩ = some (.int .u8 ((chunk l ii size).getD t 0))) := by
            intro t ht
            have := HB.out (ii + t) (by omega)
            rw [← Nat.add_assoc] at this
            rw [hwr, World.cell?_drewN, this]
            have e2 := chunk_at l ii size t ht
            simp only [List.getD_eq_getElem?_getD]
            rw [e2]
          have HW : Hid (wr = w1.drewN q) := hwr
          have HII : Hid (ii = k * size) := hii
          clear h1 hwr hii cb cs cf ce cc cd
          go_wp2
          go_quiet ((go_at_call 6; refine Calls.quiet_of_same (fold_any b (off + ii) size _ (chunk l ii size) _ HKl.out (by omega) HKb.out HKc.out)))
          go_wp2
          go_roundw
          case rel => exact ⟨k + 1, _, by omega, by go_num, by rw [HW.out]; exact World.drewN_drewN _ _ _⟩
          case measure => simp [intOf]; omega
        · go_wp2
          go_ret
          exact ⟨rfl, below_drewN hB q⟩
end Go.Proofs.YbulkailyFmt
