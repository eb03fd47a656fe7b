/-
  'list[uint32]' (function 7) by its contracts: a ragged or empty input; a good one.
-/
import Derived.Test.YbulkailyFmtItem
import Derived.Test.YbulkailyFmtErr
namespace Go.Proofs.YbulkailyFmt
open Go.RowKit Go.Extern.Stop Go.Stop Go.Extern

/-- The closure as a value: what it captured. -/
def caps (B : Nat) : Array Value := #[.pointer (some ⟨B + 5, 0, none⟩), .pointer (some ⟨B + 1, 0, none⟩), .pointer (some ⟨B, 0, none⟩), .pointer (some ⟨B + 6, 0, none⟩), .pointer (some ⟨B + 2, 0, none⟩), .pointer (some ⟨B + 4, 0, none⟩)]

theorem Env.below {B b off len cap : Nat} {l : List Int} {size : Nat} {failAt : Int} {k : Nat} {w w' : World} (h : Env B b off len cap l size failAt k w) (hbB : b < B) (hb : Below (B + 7) w w') : Env B b off len cap l size failAt k w' where
  cb := by rw [hb.cell (by show B < B + 7; omega)]; exact h.cb
  cs := by rw [hb.cell (by show B + 1 < B + 7; omega)]; exact h.cs
  cf := by rw [hb.cell (by show B + 2 < B + 7; omega)]; exact h.cf
  ce := by rw [hb.cell (by show B + 4 < B + 7; omega)]; exact h.ce
  cc := by rw [hb.cell (by show B + 5 < B + 7; omega)]; exact h.cc
  fc := by rw [hb.frozen (by show B + 5 < B + 7; omega)]; exact h.fc
  cd := by rw [hb.cell (by show B + 6 < B + 7; omega)]; exact h.cd
  bytes := fun j hj => by rw [hb.cell (by show b < B + 7; omega)]; exact h.bytes j hj

theorem Env.step {B b off len cap : Nat} {l : List Int} {size : Nat} {failAt : Int} {k : Nat} {w : World} (h : Env B b off len cap l size failAt k w) (hbB : b < B) (n : Nat) : Env B b off len cap l size failAt (k + 1) ((w.setCell ⟨B + 5, 0, none⟩ (.int .i64 ((k : Int) + 1))).drewN n) where
  cb := by simp [go_sem, h.cb]
  cs := by simp [go_sem, h.cs]
  cf := by simp [go_sem, h.cf]
  ce := by simp [go_sem, h.ce]
  cc := by simp [go_sem, h.cc]
  fc := by simp [go_sem, h.fc]
  cd := by simp [go_sem, h.cd]
  bytes := fun j hj => by simp [go_sem, h.bytes j hj]

set_option maxHeartbeats 800000 in
/-- A ragged or empty input: an error of fmt.Errorf's make; nothing is called. -/
theorem list_bad (F : Interp) (a : Option Addr) (len cap size : Nat) (f : Value) (w : World) (hF : F.answers w.tape) (hlen : len ≤ 1024) (hs1 : 1 ≤ size) (hs8 : size ≤ 8) (hbad : len = 0 ∨ (len % size ≠ 0)) :
    Calls Ybaf.prog 7 #[.slice a len cap, .int .i64 size, f] w fun e w' => (∃ g : Nat, e = .returned (.tuple #[.slice none 0 0, .iface 34 (.pointer (some ⟨g, 0, none⟩))])) ∧ Below w.heap.size w w' := by
  by_cases h0 : len = 0
  · subst h0
    go_enter Ybaf.func7, Ybaf.ntmps7
    go_wp2_with fail
    refine (errorf_any F 0 (size : Int) w.heap.size _ (by exact hF) (by go_simp) (by go_simp)).mono ?_
    rintro e w' ⟨rfl, s, rfl⟩
    go_wp2
    go_ret2
    exact ⟨⟨_, rfl⟩, (((Below.refl _ _).alloc (Nat.le_refl _) _).alloc (by simp) _).drew⟩
  · have hm : len % size ≠ 0 := by omega
    have hb0 : ((len : Int) == 0) = false := by simp; exact h0
    have hb1 : (((len : Int) % (size : Int)) != 0) = true := by
      rw [bne_iff_ne]; omega
    clear hbad
    go_enter Ybaf.func7, Ybaf.ntmps7
    go_wp2_with fail

    refine (errorf_any F (len : Int) (size : Int) w.heap.size _ (by exact hF) (by go_simp) (by go_simp)).mono ?_
    rintro e w' ⟨rfl, s, rfl⟩
    go_wp2
    go_ret2
    exact ⟨⟨_, rfl⟩, (((Below.refl _ _).alloc (Nat.le_refl _) _).alloc (by simp) _).drew⟩

theorem grown_item (B q : Nat) (u : Value) (w : World) : w.grownBy ((w.setCell ⟨B + 5, 0, none⟩ u).drewN q) (some (B + 5)) where
  os := by simp [World.drewN, World.setCell]
  tape := by simp [World.drewN, World.setCell]
  output := by simp [World.drewN, World.setCell]
  size := by simp
  block := fun k _ hk => Below.heap_setCell _ _ _ _ (fun e => hk (by rw [e]))

section
variable (B b off len cap : Nat) (l : List Int) (size : Nat) (failAt : Int) (k i cap' : Nat) (w : World)

theorem item_ok (hE : Env B b off len cap l size failAt k w) (hbB : b < B) (hl : l.length = len) (hlen : len ≤ 1024) (hs1 : 1 ≤ size) (hs8 : size ≤ 8)
    (hki : (k : Int) * (size : Int) = (i : Int)) (hil : i + size ≤ len) (hk : k ≤ 1024) (hby : ∀ k : Nat, 0 ≤ l[k]?.getD 0 ∧ l[k]?.getD 0 ≤ 255) (hf : ¬ (k : Int) = failAt) :
    Calls Ybaf.prog 5 #[.slice (some ⟨b, off + i, none⟩) size cap', .pointer (some ⟨B + 5, 0, none⟩), .pointer (some ⟨B + 1, 0, none⟩), .pointer (some ⟨B, 0, none⟩), .pointer (some ⟨B + 6, 0, none⟩), .pointer (some ⟨B + 2, 0, none⟩), .pointer (some ⟨B + 4, 0, none⟩)] w
      fun e w' => e = .returned (.tuple #[.int .u32 (foldL (chunk l (k * size) size)), .nilIface]) ∧ w.grownBy w' (some (B + 5)) ∧ Env B b off len cap l size failAt (k + 1) w' := by
  refine (item_any B b off len cap l size failAt k i cap' w hE hbB hl hlen hs1 hs8 hki hil hk hby).mono ?_
  rintro e w' ⟨rfl, q, rfl⟩
  refine ⟨by unfold itemOut; rw [if_neg hf], grown_item _ _ _ _, hE.step hbB q⟩

theorem item_fail (hE : Env B b off len cap l size failAt k w) (hbB : b < B) (hl : l.length = len) (hlen : len ≤ 1024) (hs1 : 1 ≤ size) (hs8 : size ≤ 8)
    (hki : (k : Int) * (size : Int) = (i : Int)) (hil : i + size ≤ len) (hk : k ≤ 1024) (hby : ∀ k : Nat, 0 ≤ l[k]?.getD 0 ∧ l[k]?.getD 0 ≤ 255) (hf : (k : Int) = failAt) :
    Calls Ybaf.prog 5 #[.slice (some ⟨b, off + i, none⟩) size cap', .pointer (some ⟨B + 5, 0, none⟩), .pointer (some ⟨B + 1, 0, none⟩), .pointer (some ⟨B, 0, none⟩), .pointer (some ⟨B + 6, 0, none⟩), .pointer (some ⟨B + 2, 0, none⟩), .pointer (some ⟨B + 4, 0, none⟩)] w
      fun e w' => e = .returned (.tuple #[.int .u32 0, .iface 34 (.pointer (some ⟨B + 3, 0, none⟩))]) ∧ w.grownBy w' (some (B + 5)) ∧ Env B b off len cap l size failAt (k + 1) w' := by
  refine (item_any B b off len cap l size failAt k i cap' w hE hbB hl hlen hs1 hs8 hki hil hk hby).mono ?_
  rintro e w' ⟨rfl, q, rfl⟩
  refine ⟨by unfold itemOut; rw [if_pos hf], grown_item _ _ _ _, hE.step hbB q⟩
end

theorem info27 : (Ybaf.prog.info? 27).map (fun i => (i.zero, i.size, i.bytes)) = some (some (.int .u32 0), 1, 4) := by kernel_rfl

/-- The folds of the first k chunks. -/
def folds (l : List Int) (size k : Nat) : List Int := (List.range k).map fun j => foldL (chunk l (j * size) size)
theorem folds_succ (l : List Int) (size k : Nat) : folds l size (k + 1) = folds l size k ++ [foldL (chunk l (k * size) size)] := by
  simp [folds, List.range_succ]

set_option maxHeartbeats 1600000 in
theorem list_good (B b off len cap : Nat) (l : List Int) (size : Nat) (failAt : Int) (n : Nat) (w : World) (hE : Env B b off len cap l size failAt 0 w)
    (hbB : b < B) (hl : l.length = len) (hlen : len ≤ 1024) (hcap : len ≤ cap) (hs1 : 1 ≤ size) (hs8 : size ≤ 8) (hn : n * size = len) (hn1 : 1 ≤ n) (hB : B + 7 ≤ w.heap.size)
    (hby : ∀ k : Nat, 0 ≤ l[k]?.getD 0 ∧ l[k]?.getD 0 ≤ 255) :
    Calls Ybaf.prog 7 #[.slice (some ⟨b, off, none⟩) len cap, .int .i64 size, .func (Fn.func 5) #[] (caps B)] w fun e w' =>
      ((0 ≤ failAt ∧ failAt < n ∧ e = .returned (.tuple #[.slice none 0 0, .iface 34 (.pointer (some ⟨B + 3, 0, none⟩))]) ∧ Env B b off len cap l size failAt (failAt.toNat + 1) w') ∨
       (¬ (0 ≤ failAt ∧ failAt < n) ∧ ∃ g, e = .returned (.tuple #[.slice (some ⟨g, 0, none⟩) n n, .nilIface]) ∧ Env B b off len cap l size failAt n w' ∧ w'.ownsRow w.heap.size 27 1 (.slice (some ⟨g, 0, none⟩) n n) n ((folds l size n).map (Value.int .u32)))) ∧ Below B w w' := by
  obtain ⟨i0, hi, hz0, hz1, hz2⟩ := info_parts info27
  unfold caps
  have hb0 : ((len : Int) == 0) = false := by
    have : 1 * 1 ≤ n * size := Nat.mul_le_mul hn1 hs1
    simp; omega
  have hnl : n ≤ len := by
    have : n * 1 ≤ n * size := Nat.mul_le_mul_left n hs1
    omega
  have hmod : (len : Int) % (size : Int) = 0 := by
    rw [← hn, Int.natCast_mul]; exact Int.mul_emod_left _ _
  have hdiv : (len : Int) / (size : Int) = (n : Int) := by
    rw [← hn, Int.natCast_mul]; exact Int.mul_ediv_cancel _ (by omega)
  have HN : Hid (n * size = len) := hn
  clear hn
  go_enter Ybaf.func7, Ybaf.ntmps7
  go_wp2_with (at_make; refine wpList_make_own _ rfl _ _ 30 rfl w.heap.size 27 i0 (.int .u32 0) 1 Ybaf.underlying30 hi hz0 hz1 _ _ _ n rfl rfl (by first | rfl | exact hdiv) ?b2 ?b3 (Nat.le_refl _) ?_)
  case b2 => rw [hz2]; omega
  case b3 => unfold maxLen; omega
  intro w0 hown0 hgrow0
  go_wp2
  go_loopw [8, 9] (fun v i wr => ∃ k ii : Nat, k ≤ n ∧ Hid (ii = k * size) ∧ i = .int .i64 ii ∧ v = .slice (some ⟨w.heap.size, 0, none⟩) k n ∧ wr.ownsRow w.heap.size 27 1 (.slice (some ⟨w.heap.size, 0, none⟩) k n) k ((folds l size k).map (Value.int .u32)) ∧
      Env B b off len cap l size failAt k wr ∧ Below B w wr ∧ Hid (∀ j : Nat, j < k → ¬ (j : Int) = failAt)) (fun _ i _ => len - (intOf i).toNat)
  case atStart =>
    have hb7 : Below (B + 7) w w0 := (Below.refl _ _).grown hgrow0 hB (fun k h => by cases h)
    exact ⟨0, 0, Nat.zero_le _, (Nat.zero_mul size).symm, rfl, rfl, hown0, hE.below hbB hb7, hb7.mono (by omega), fun j hj => absurd hj (Nat.not_lt_zero _)⟩
  case round =>
    obtain ⟨k, ii, hk, HI, rfl, rfl, hown, hEk, hbel, HJ⟩ := hrel
    by_cases hkn : k < n
    · have h1 : (k + 1) * size ≤ n * size := Nat.mul_le_mul_right size hkn
      have hiis : ii + size ≤ len := by have := HI.out; have := HN.out; rw [Nat.add_mul] at h1; omega
      have hki : (k : Int) * (size : Int) = (ii : Int) := by rw [HI.out]; simp
      have hlt : (ii : Int) < (len : Int) := by omega
      clear h1
      by_cases hf : (k : Int) = failAt
      · have HF : Hid ((k : Int) = failAt) := hf
        clear hf
        go_wp2_with fail
        refine (item_fail B b off len cap l size failAt k ii _ _ hEk hbB hl hlen hs1 hs8 hki hiis (by omega) hby HF.out).mono ?_
        rintro e w1 ⟨rfl, hgr, hE1⟩
        have hsz := hbel.size
        have hb1 : Below B w w1 := hbel.grown hgr (by omega) (fun j hj => by cases hj; omega)
        clear hown hEk hbel hgr
        go_wp2
        go_ret2
        refine ⟨Or.inl ⟨by have := HF.out; omega, by have := HF.out; omega, rfl, ?_⟩, hb1⟩
        have e1 : failAt.toNat = k := by have := HF.out; omega
        rw [e1]; exact hE1
      · go_wp2_with fail
        refine (item_ok B b off len cap l size failAt k ii _ _ hEk hbB hl hlen hs1 hs8 hki hiis (by omega) hby hf).mono ?_
        rintro e w1 ⟨rfl, hgr, hE1⟩
        have hsz := hbel.size
        have hsz1 := hgr.size
        have hb1 : Below B w w1 := hbel.grown hgr (by omega) (fun j hj => by cases hj; omega)
        have hown1 : w1.ownsRow w.heap.size 27 1 (.slice (some ⟨w.heap.size, 0, none⟩) k n) k ((folds l size k).map (Value.int .u32)) := hown.kept hgr (Or.inr (by simp [Value.ownBlock]; omega))
        clear hown hEk hbel hgr
        go_wp2_with (at_builtin; refine wpList_append_fits _ rfl _ _ 30 rfl w.heap.size 27 i0 1 Ybaf.underlying30 hi hz1 w.heap.size k n _ rfl (hown1.alloc _) ⟨w1.heap.size, 0, none⟩ 1 1 [.int .u32 (foldL (chunk l (k * size) size))] rfl rfl ?c1 ?c2 (by omega) ?_)
        case c1 =>
          intro t u ht
          match t, ht with
          | 0, ht => simp at ht; subst ht; simp [Addr.add]
        case c2 => intro u hu; simp at hu; subst hu; rfl
        intro w2 hown2 hgrow2
        have hb7 : Below (B + 7) w1 w2 := ((Below.refl _ _).alloc (by omega) _).grown hgrow2 (by simp; omega) (fun j hj => by cases hj; omega)
        have hE2 := hE1.below hbB hb7
        have hb2 : Below B w w2 := hb1.trans (hb7.mono (by omega))
        have hown3 : w2.ownsRow w.heap.size 27 1 (.slice (some ⟨w.heap.size, 0, none⟩) (k + 1) n) (k + 1) ((folds l size (k + 1)).map (Value.int .u32)) := by
          rw [folds_succ, List.map_append]; exact hown2
        clear hown1 hown2 hgrow2 hE1 hb1 hb7
        go_wp2
        go_roundw
        case rel =>
          refine ⟨k + 1, ii + size, by omega, ?_, by go_num, rfl, hown3, hE2, hb2, ?_⟩
          · show ii + size = (k + 1) * size
            rw [Nat.add_mul, HI.out]; omega
          · intro j hj
            by_cases e : j = k
            · subst e; exact hf
            · exact HJ.out j (by omega)
        case measure => simp [intOf]; omega
    · have hke : k = n := by omega
      subst hke
      have hge : ¬ (ii : Int) < (len : Int) := by have := HI.out; have := HN.out; omega
      go_wp2
      go_ret2
      refine ⟨Or.inr ⟨?_, w.heap.size, rfl, hEk, hown⟩, hbel⟩
      intro a1
      apply Classical.byContradiction
      intro a2
      exact HJ.out failAt.toNat (by omega) (by omega)
end Go.Proofs.YbulkailyFmt
