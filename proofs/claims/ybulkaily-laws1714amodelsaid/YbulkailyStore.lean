/-
  Key.sis and Table.store by their contracts.
-/
import Derived.Test.YbulkailyDest
import Derived.Deep.RegionHeld3
import Derived.Deep.DrawnRows
namespace Go.Proofs.Ybulkaily
open Go.RowKit
attribute [local go_sem ↓] Go.wp_at_zero Go.wp_at_succ

theorem sis_any (k : K) (w : World) (h0 : 0 ≤ k.si) (h1 : k.si ≤ 255) :
    Calls Yba.prog 20 #[k.val] w fun e w' => (∃ v, e = .returned (.int .u16 v)) ∧ w' = w.alloc k.obj := by
  obtain ⟨d, o, s, l, h, p⟩ := k
  unfold K.val K.obj
  dsimp only at *
  have hb : ∀ b : Bool, b = true ∨ b = false := fun b => by cases b <;> simp
  rcases hb (bits .and .u8 p 2 != 0) with h2 | h2 <;> rcases hb (bits .and .u8 p 4 != 0) with h4 | h4
  all_goals
    clear hb
    go_enter Yba.func20, Yba.ntmps20
    go_wp2
    go_ret
    exact ⟨⟨_, rfl⟩, rfl⟩

/-- A route: a key and its server's block. -/
def routeCells (r : K × Nat) : List Value := [.int .u32 r.1.dpc, .int .u32 r.1.opc, .int .u8 r.1.si, .int .u16 r.1.lo, .int .u16 r.1.hi, .int .u8 r.1.parts, .pointer (some ⟨r.2, 0, none⟩)]

/-- Route i of a row lies at block rb. -/
def RouteAt (rb : Nat) (i : Nat) (r : K × Nat) (w : World) : Prop := ∀ j v, (routeCells r)[j]? = some v → w.cell? ⟨rb, i * 7 + j, none⟩ = some v

theorem block_setCell {w : World} {D : Nat} {cs : Array Value} {t : TypeId} {z : Nat × Nat} (hD : w.heap[D]? = some (.cells cs t z)) (i : Nat) (u : Value) : (w.setCell ⟨D, i, none⟩ u).heap[D]? = some (.cells (cs.setIfInBounds i u) t z) := by
  unfold World.setCell
  simp [Array.getElem?_modify, hD]

theorem set_snd {w : World} {D : Nat} {a b : Value} (hD : w.heap[D]? = some (.cells #[a, b] 81 (0, 0))) (u : Value) : (w.setCell ⟨D, 1, none⟩ u).heap[D]? = some (.cells #[a, u] 81 (0, 0)) :=
  block_setCell hD 1 u

theorem relD {w wr : World} {D B : Nat} {a b : Value} (hD : wr.heap[D]? = some (.cells #[a, b] 81 (0, 0))) (hB : Below B w wr) (hBD : B ≤ D) (u : Value) (o1 o2 : Obj) :
    ((((wr.setCell ⟨D, 1, none⟩ u).alloc o1).alloc o2).drew).heap[D]? = some (.cells #[a, u] 81 (0, 0)) ∧ Below B w ((((wr.setCell ⟨D, 1, none⟩ u).alloc o1).alloc o2).drew) := by
  have hlt := lt_of_block hD
  have h1 := set_snd hD u
  have hl1 := lt_of_block h1
  have hsz := hB.size
  refine ⟨?_, ?_⟩
  · show (((wr.setCell ⟨D, 1, none⟩ u).alloc o1).alloc o2).heap[D]? = _
    rw [Below.heap_alloc _ _ _ (by rw [World.size_alloc]; omega), Below.heap_alloc _ _ _ hl1]
    exact h1
  · exact ((((hB.setCell (by exact hBD) _).alloc (by simp; omega) _).alloc (by simp; omega) _).drew)

set_option maxHeartbeats 1600000 in
/-- Table.store of routes: a new destination, laid at the DPC. -/
theorem store_any (T p rb n cap : Nat) (rs : List (K × Nat)) (w : World) (hn1 : 1 ≤ n) (hn2 : n ≤ 1000000) (hp : p ≤ 16383) (hrb : rb < w.heap.size)
    (hr : ∀ i, i < n → ∃ r, rs[i]? = some r ∧ r.1.Ok ∧ RouteAt rb i r w) 
    (hT : T < w.heap.size) (hc : w.cell? ⟨T, p, none⟩ = some (.pointer none)) (hz : w.frozen? ⟨T, p, none⟩ = false) :
    Calls Yba.prog 15 #[.pointer (some ⟨T, 0, none⟩), .int .u32 p, .slice (some ⟨rb, 0, none⟩) n cap] w fun e w' => e = .returned (.tuple #[]) ∧
      ∃ w1 s, Below w.heap.size w w1 ∧ w1.heap[w.heap.size]? = some (.cells #[.slice (some ⟨rb, 0, none⟩) n cap, .int .u16 s] 81 (0, 0)) ∧ w' = w1.setCell ⟨T, p, none⟩ (.pointer (some ⟨w.heap.size, 0, none⟩)) := by
  have hb0 : ((n : Int) == 0) = false := by simp; omega
  have HR : Hid (∀ i, i < n → ∃ r, rs[i]? = some r ∧ r.1.Ok ∧ RouteAt rb i r w) := hr
  clear hr
  go_enter Yba.func15, Yba.ntmps15
  go_wp2
  go_loopw [23] (fun i wr => ∃ (k : Nat) (s : Int), k ≤ n ∧ i = .int .i64 k ∧ wr.heap[w.heap.size]? = some (.cells #[.slice (some ⟨rb, 0, none⟩) n cap, .int .u16 s] 81 (0, 0)) ∧ Below w.heap.size w wr) (fun i _ => n - (intOf i).toNat)
  case atStart => exact ⟨0, 0, Nat.zero_le _, rfl, heap_alloc_new w _, (Below.refl _ _).alloc (Nat.le_refl _) _⟩
  case round =>
    obtain ⟨k, s, hk, rfl, hD, hB⟩ := hrel
    have hsz := lt_of_block hD
    by_cases hlt : k < n
    · obtain ⟨⟨⟨d, o, si, l, h, pp⟩, sb⟩, hrk, hok, hat⟩ := HR.out k hlt
      have q : ∀ j v, (routeCells (⟨d, o, si, l, h, pp⟩, sb))[j]? = some v → wr.cell? ⟨rb, k * 7 + j, none⟩ = some v := fun j v hj => by rw [hB.cell (by exact hrb)]; exact hat j v hj
      have q0 := q 0 _ rfl
      have q1 := q 1 _ rfl
      have q2 := q 2 _ rfl
      have q3 := q 3 _ rfl
      have q4 := q 4 _ rfl
      have q5 := q 5 _ rfl
      have q6 := q 6 _ rfl
      clear q
      dsimp only at q0 q1 q2 q3 q4 q5 q6
      rw [Nat.add_zero] at q0
      have cD : wr.cell? ⟨w.heap.size, 1, none⟩ = some (.int .u16 s) := by simp [World.cell?, hD]
      have zD : wr.frozen? ⟨w.heap.size, 1, none⟩ = false := by simp [World.frozen?, hD]
      have HD : Hid (wr.heap[w.heap.size]? = some (.cells #[.slice (some ⟨rb, 0, none⟩) n cap, .int .u16 s] 81 (0, 0))) := hD
      have HB : Hid (Below w.heap.size w wr) := hB
      have k0 := hok.s0
      have k1 := hok.s1
      dsimp only at k0 k1
      clear hD hB hat hrk hok
      go_wp2
      go_region_with (go_at_call 20; refine (sis_any ⟨d, o, si, l, h, pp⟩ _ k0 k1).mono ?_; rintro e w' ⟨⟨v, rfl⟩, rfl⟩)
      all_goals
        go_wp2
        go_roundw
        case rel => exact ⟨k + 1, _, by omega, by go_num, (relD HD.out HB.out (Nat.le_refl _) _ _ _).1, (relD HD.out HB.out (Nat.le_refl _) _ _ _).2⟩
        case measure => simp [intOf]; omega
    · have c1 : wr.cell? ⟨T, p, none⟩ = some (.pointer none) := by rw [hB.cell (by exact hT)]; exact hc
      have z1 : wr.frozen? ⟨T, p, none⟩ = false := by rw [hB.frozen (by exact hT)]; exact hz
      have HD : Hid (wr.heap[w.heap.size]? = some (.cells #[.slice (some ⟨rb, 0, none⟩) n cap, .int .u16 s] 81 (0, 0))) := hD
      have HB : Hid (Below w.heap.size w wr) := hB
      have hp' : (p : Int) < 16384 := by omega
      clear hD hB
      go_wp2_with (go_at_call 19; refine (store_some c1 z1 HD.out rfl).mono ?_; rintro e w' ⟨rfl, rfl⟩)
      go_end0
      exact ⟨rfl, wr, s, HB.out, HD.out, rfl⟩
end Go.Proofs.Ybulkaily
