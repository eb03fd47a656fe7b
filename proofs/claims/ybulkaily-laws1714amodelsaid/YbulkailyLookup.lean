/-
  Table.Lookup by its contract.
-/
import Derived.Test.YbulkailyStore
import Derived.Test.YbulkailyMatch
import Derived.RegionTactic
import Derived.BigQuiet
import Derived.Lib.QuietBelow
namespace Go.Proofs.Ybulkaily
open Go.RowKit Go.Sort
attribute [local go_sem ↓] Go.wp_at_zero Go.wp_at_succ

/-- The empty key. -/
def K0 : K := ⟨0, 0, 0, 0, 0, 0⟩

/-- One step of the search: the best route so far (its server's block), and its key. -/
def lstep (D O C : Int) (a : Option Nat × K) (r : K × Nat) : Option Nat × K :=
  if matchB r.1 D O C && (!a.1.isSome || decide (named a.2 < named r.1)) then (some r.2, r.1) else a
/-- The search over the first k routes. -/
def lookK (rs : List (K × Nat)) (D O C : Int) (k : Nat) : Option Nat × K := (rs.take k).foldl (lstep D O C) (none, K0)

theorem lookK_succ (rs : List (K × Nat)) (D O C : Int) (k : Nat) (r : K × Nat) (h : rs[k]? = some r) : lookK rs D O C (k + 1) = lstep D O C (lookK rs D O C k) r := by
  unfold lookK
  obtain ⟨hlt, he⟩ := List.getElem?_eq_some_iff.1 h
  rw [List.take_succ_eq_append_getElem hlt, List.foldl_append, he]
  rfl

/-- The server's pointer. -/
def asV : Option Nat → Value
  | none => .pointer none
  | some b => .pointer (some ⟨b, 0, none⟩)

/-- A key among those of the list, or the empty one, is within its bounds. -/
theorem lookK_ok (rs : List (K × Nat)) (D O C : Int) (h : ∀ r ∈ rs, r.1.Ok) : ∀ k, (lookK rs D O C k).2.Ok := by
  intro k
  have hg : ∀ (l : List (K × Nat)) (a : Option Nat × K), (∀ r ∈ l, r.1.Ok) → a.2.Ok → (l.foldl (lstep D O C) a).2.Ok := by
    intro l
    induction l with
    | nil => intro a _ ha; exact ha
    | cons r l ih =>
      intro a hl ha
      rw [List.foldl_cons]
      refine ih _ (fun x hx => hl x (List.mem_cons_of_mem _ hx)) ?_
      unfold lstep
      split
      · exact hl r List.mem_cons_self
      · exact ha
  exact hg _ _ (fun r hr => h r (List.mem_of_mem_take hr)) ⟨by decide, by decide, by decide, by decide, by decide, by decide, by decide, by decide, by decide, by decide, by decide, by decide⟩

theorem matches_b (k : K) (D O C : Int) (b : Bool) (w : World) (h : matchB k D O C = b) :
    Calls Yba.prog 16 #[k.val, msgVal D O C] w fun e w' => e = .returned (.bool b) ∧ Below w.heap.size w w' := by
  subst h
  refine (matches_any k D O C w).mono ?_
  rintro e w' ⟨rfl, rfl⟩
  exact ⟨rfl, ((Below.refl _ _).alloc (Nat.le_refl _) _).alloc (by simp) _⟩
theorem named_b (k : K) (w : World) (hk : k.Ok) :
    Calls Yba.prog 17 #[k.val] w fun e w' => e = .returned (.int .i64 (named k)) ∧ Below w.heap.size w w' := by
  refine (named_any k w hk).mono ?_
  rintro e w' ⟨rfl, rfl⟩
  exact ⟨rfl, (Below.refl _ _).alloc (Nat.le_refl _) _⟩

/-! A key stored over another. -/
theorem heap_drew_at (w : World) (j : Nat) : w.drew.heap[j]? = w.heap[j]? := rfl
theorem put6_same {W : World} {B : Nat} {k : K} (hk : W.heap[B]? = some k.obj) (d o si l h pp : Int) : (((((((W.setCell ⟨B, 0, none⟩ (.int .u32 d)).setCell ⟨B, 1, none⟩ (.int .u32 o)).setCell ⟨B, 2, none⟩ (.int .u8 si)).setCell ⟨B, 3, none⟩ (.int .u16 l)).setCell ⟨B, 4, none⟩ (.int .u16 h)).setCell ⟨B, 5, none⟩ (.int .u8 pp)).drew).heap[B]? = some (K.obj ⟨d, o, si, l, h, pp⟩) :=
  have h1 := block_setCell hk 0 (.int .u32 d)
  have h2 := block_setCell h1 1 (.int .u32 o)
  have h3 := block_setCell h2 2 (.int .u8 si)
  have h4 := block_setCell h3 3 (.int .u16 l)
  have h5 := block_setCell h4 4 (.int .u16 h)
  have h6 := block_setCell h5 5 (.int .u8 pp)
  (heap_drew_at _ _).trans (h6.trans rfl)
theorem put6_other (W : World) (B : Nat) (d o si l h pp : Int) {j : Nat} (hj : j ≠ B) : (((((((W.setCell ⟨B, 0, none⟩ (.int .u32 d)).setCell ⟨B, 1, none⟩ (.int .u32 o)).setCell ⟨B, 2, none⟩ (.int .u8 si)).setCell ⟨B, 3, none⟩ (.int .u16 l)).setCell ⟨B, 4, none⟩ (.int .u16 h)).setCell ⟨B, 5, none⟩ (.int .u8 pp)).drew).heap[j]? = W.heap[j]? := by
  rw [heap_drew_at, Below.heap_setCell _ _ _ _ hj, Below.heap_setCell _ _ _ _ hj, Below.heap_setCell _ _ _ _ hj, Below.heap_setCell _ _ _ _ hj, Below.heap_setCell _ _ _ _ hj, Below.heap_setCell _ _ _ _ hj]
theorem put6_below {w W : World} {N B : Nat} (hb : Below N w W) (hB : N ≤ B) (d o si l h pp : Int) : Below N w (((((((W.setCell ⟨B, 0, none⟩ (.int .u32 d)).setCell ⟨B, 1, none⟩ (.int .u32 o)).setCell ⟨B, 2, none⟩ (.int .u8 si)).setCell ⟨B, 3, none⟩ (.int .u16 l)).setCell ⟨B, 4, none⟩ (.int .u16 h)).setCell ⟨B, 5, none⟩ (.int .u8 pp)).drew) :=
  ((((((hb.setCell hB _).setCell hB _).setCell hB _).setCell hB _).setCell hB _).setCell hB _).drew

set_option maxHeartbeats 3200000 in
theorem lookup_some (T db rb n cap : Nat) (s D O C : Int) (Dn : Nat) (hDn : D = Dn) (rs : List (K × Nat)) (w : World) (hn : rs.length = n) (hn2 : n ≤ 1000000) (hp : Dn ≤ 16383) (hrb : rb < w.heap.size) (hdb : db < w.heap.size) (hT : T < w.heap.size)
    (hr : ∀ i, i < n → ∃ r, rs[i]? = some r ∧ r.1.Ok ∧ RouteAt rb i r w)
    (hc : w.cell? ⟨T, Dn, none⟩ = some (.pointer (some ⟨db, 0, none⟩))) (hb : w.heap[db]? = some (.cells #[.slice (some ⟨rb, 0, none⟩) n cap, .int .u16 s] 81 (0, 0))) :
    Calls Yba.prog 13 #[.pointer (some ⟨T, 0, none⟩), msgVal D O C] w fun e w' => e = .returned (.tuple #[asV (lookK rs D O C n).1, (lookK rs D O C n).2.val, .bool (lookK rs D O C n).1.isSome]) ∧ Below w.heap.size w w' := by
  subst hDn
  have HR : Hid (∀ i, i < n → ∃ r, rs[i]? = some r ∧ r.1.Ok ∧ RouteAt rb i r w) := hr
  clear hr
  unfold msgVal
  go_enter Yba.func13, Yba.ntmps13
  go_wp2_with fail
  refine (dest_some hp (w := _) (b := db) (cs := #[.slice (some ⟨rb, 0, none⟩) n cap, .int .u16 s]) ?_ ?_ rfl).mono ?_
  · rw [World.cell?_alloc_past _ _ _ (by simp; omega), World.cell?_alloc_past _ _ _ hT]; exact hc
  · rw [Below.heap_alloc _ _ _ (by simp; omega), Below.heap_alloc _ _ _ hdb]; exact hb
  rintro e w' ⟨rfl, rfl⟩
  have cd0 : w.cell? ⟨db, 0, none⟩ = some (.slice (some ⟨rb, 0, none⟩) n cap) := by simp [World.cell?, hb]
  have hdb1 : db < w.heap.size + 1 := by omega
  have hdb2 : db < w.heap.size + 1 + 1 := by omega
  have HN : Hid (∀ r ∈ rs, r.1.Ok) := fun r hr => by
    obtain ⟨i, hi, rfl⟩ := List.getElem_of_mem hr
    obtain ⟨r', h1, h2, _⟩ := HR.out i (by omega)
    rw [List.getElem?_eq_getElem hi] at h1
    cases h1
    exact h2
  go_wp2
  go_loopw [4, 6, 22] (fun a ok i wr => ∃ k : Nat, k ≤ n ∧ i = .int .i64 k ∧ a = asV (lookK rs Dn O C k).1 ∧ ok = .bool (lookK rs Dn O C k).1.isSome ∧ wr.heap[w.heap.size]? = some (msgObj Dn O C) ∧ wr.heap[w.heap.size + 1]? = some (lookK rs Dn O C k).2.obj ∧ Below w.heap.size w wr) (fun _ _ i _ => n - (intOf i).toNat)
  case atStart =>
    refine ⟨0, Nat.zero_le _, rfl, rfl, rfl, ?_, ?_, ?_⟩
    · rw [Below.heap_alloc _ _ _ (by simp)]; exact heap_alloc_new w _
    · have := heap_alloc_new (w.alloc (msgObj Dn O C)) (K0.obj)
      rw [World.size_alloc] at this
      exact this
    · exact ((Below.refl _ _).alloc (Nat.le_refl _) _).alloc (by simp) _
  case round =>
    obtain ⟨k, hk, rfl, rfl, rfl, hM, hK, hB⟩ := hrel
    have hkok := lookK_ok rs Dn O C HN.out k
    have hs2 := lt_of_block hK
    by_cases hlt : k < n
    · obtain ⟨⟨⟨d, o, si, l, h, pp⟩, sb⟩, hrk, hok, hat⟩ := HR.out k hlt
      have HS : Hid _ := lookK_succ rs Dn O C k _ hrk
      generalize hst : lookK rs Dn O C k = st at *
      obtain ⟨a, ⟨kd, ko, ks, kl, kh, kp⟩⟩ := st
      dsimp only at hK hkok
      have q : ∀ j v, (routeCells (⟨d, o, si, l, h, pp⟩, sb))[j]? = some v → wr.cell? ⟨rb, k * 7 + j, none⟩ = some v := fun j v hj => by rw [hB.cell (by exact hrb)]; exact hat j v hj
      have q0 := q 0 _ rfl
      have q1 := q 1 _ rfl
      have q2 := q 2 _ rfl
      have q3 := q 3 _ rfl
      have q4 := q 4 _ rfl
      have q5 := q 5 _ rfl
      have q6 := q 6 _ rfl
      clear q
      dsimp only at q0 q1 q2 q3 q4 q5 q6
      rw [Nat.add_zero] at q0
      have m0 : wr.cell? ⟨w.heap.size, 0, none⟩ = some (.int .u32 Dn) := by simp [World.cell?, hM, msgObj]
      have m1 : wr.cell? ⟨w.heap.size, 1, none⟩ = some (.int .u32 O) := by simp [World.cell?, hM, msgObj]
      have m2 : wr.cell? ⟨w.heap.size, 2, none⟩ = some (.int .u8 5) := by simp [World.cell?, hM, msgObj]
      have m3 : wr.cell? ⟨w.heap.size, 3, none⟩ = some (.int .u16 C) := by simp [World.cell?, hM, msgObj]
      have m4 : wr.cell? ⟨w.heap.size, 4, none⟩ = some (.bool true) := by simp [World.cell?, hM, msgObj]
      have k0 : wr.cell? ⟨w.heap.size + 1, 0, none⟩ = some (.int .u32 kd) := by simp [World.cell?, hK, K.obj]
      have k1 : wr.cell? ⟨w.heap.size + 1, 1, none⟩ = some (.int .u32 ko) := by simp [World.cell?, hK, K.obj]
      have k2 : wr.cell? ⟨w.heap.size + 1, 2, none⟩ = some (.int .u8 ks) := by simp [World.cell?, hK, K.obj]
      have k3 : wr.cell? ⟨w.heap.size + 1, 3, none⟩ = some (.int .u16 kl) := by simp [World.cell?, hK, K.obj]
      have k4 : wr.cell? ⟨w.heap.size + 1, 4, none⟩ = some (.int .u16 kh) := by simp [World.cell?, hK, K.obj]
      have k5 : wr.cell? ⟨w.heap.size + 1, 5, none⟩ = some (.int .u8 kp) := by simp [World.cell?, hK, K.obj]
      have HM : Hid (wr.heap[w.heap.size]? = some (msgObj Dn O C)) := hM
      have HK : Hid (wr.heap[w.heap.size + 1]? = some (K.obj ⟨kd, ko, ks, kl, kh, kp⟩)) := hK
      have HB : Hid (Below w.heap.size w wr) := hB
      have HO : Hid (K.Ok ⟨d, o, si, l, h, pp⟩) := hok
      have HO2 : Hid (K.Ok ⟨kd, ko, ks, kl, kh, kp⟩) := hkok
      have hs1 : w.heap.size < wr.heap.size := by omega
      have a1 : w.heap.size < wr.heap.size + 1 := by omega
      have a2 : w.heap.size < wr.heap.size + 1 + 1 := by omega
      have a3 : w.heap.size < wr.heap.size + 1 + 1 + 1 := by omega
      have a4 : w.heap.size < wr.heap.size + 1 + 1 + 1 + 1 := by omega
      clear hM hK hB hat hrk hok hkok hst hc hb
      have hbool : ∀ b : Bool, b = true ∨ b = false := fun b => by cases b <;> simp
      have g0 := cell_regrown (w := wr.alloc (.cells #[.int .u32 d, .int .u32 o, .int .u8 si, .int .u16 l, .int .u16 h, .int .u8 pp, .pointer (some ⟨sb, 0, none⟩)] 83)) (a := ⟨wr.heap.size, 0, none⟩) (v := .int .u32 d) (by simp [go_sem])
      have g1 := cell_regrown (w := wr.alloc (.cells #[.int .u32 d, .int .u32 o, .int .u8 si, .int .u16 l, .int .u16 h, .int .u8 pp, .pointer (some ⟨sb, 0, none⟩)] 83)) (a := ⟨wr.heap.size, 1, none⟩) (v := .int .u32 o) (by simp [go_sem])
      have g2 := cell_regrown (w := wr.alloc (.cells #[.int .u32 d, .int .u32 o, .int .u8 si, .int .u16 l, .int .u16 h, .int .u8 pp, .pointer (some ⟨sb, 0, none⟩)] 83)) (a := ⟨wr.heap.size, 2, none⟩) (v := .int .u8 si) (by simp [go_sem])
      have g3 := cell_regrown (w := wr.alloc (.cells #[.int .u32 d, .int .u32 o, .int .u8 si, .int .u16 l, .int .u16 h, .int .u8 pp, .pointer (some ⟨sb, 0, none⟩)] 83)) (a := ⟨wr.heap.size, 3, none⟩) (v := .int .u16 l) (by simp [go_sem])
      have g4 := cell_regrown (w := wr.alloc (.cells #[.int .u32 d, .int .u32 o, .int .u8 si, .int .u16 l, .int .u16 h, .int .u8 pp, .pointer (some ⟨sb, 0, none⟩)] 83)) (a := ⟨wr.heap.size, 4, none⟩) (v := .int .u16 h) (by simp [go_sem])
      have g5 := cell_regrown (w := wr.alloc (.cells #[.int .u32 d, .int .u32 o, .int .u8 si, .int .u16 l, .int .u16 h, .int .u8 pp, .pointer (some ⟨sb, 0, none⟩)] 83)) (a := ⟨wr.heap.size, 5, none⟩) (v := .int .u8 pp) (by simp [go_sem])
      have gm0 := cell_regrown (w := wr.alloc (.cells #[.int .u32 d, .int .u32 o, .int .u8 si, .int .u16 l, .int .u16 h, .int .u8 pp, .pointer (some ⟨sb, 0, none⟩)] 83)) (a := ⟨w.heap.size, 0, none⟩) (v := .int .u32 Dn) (by rw [World.cell?_alloc_past _ _ _ hs1]; exact m0)
      have gm1 := cell_regrown (w := wr.alloc (.cells #[.int .u32 d, .int .u32 o, .int .u8 si, .int .u16 l, .int .u16 h, .int .u8 pp, .pointer (some ⟨sb, 0, none⟩)] 83)) (a := ⟨w.heap.size, 1, none⟩) (v := .int .u32 O) (by rw [World.cell?_alloc_past _ _ _ hs1]; exact m1)
      have gm2 := cell_regrown (w := wr.alloc (.cells #[.int .u32 d, .int .u32 o, .int .u8 si, .int .u16 l, .int .u16 h, .int .u8 pp, .pointer (some ⟨sb, 0, none⟩)] 83)) (a := ⟨w.heap.size, 2, none⟩) (v := .int .u8 5) (by rw [World.cell?_alloc_past _ _ _ hs1]; exact m2)
      have gm3 := cell_regrown (w := wr.alloc (.cells #[.int .u32 d, .int .u32 o, .int .u8 si, .int .u16 l, .int .u16 h, .int .u8 pp, .pointer (some ⟨sb, 0, none⟩)] 83)) (a := ⟨w.heap.size, 3, none⟩) (v := .int .u16 C) (by rw [World.cell?_alloc_past _ _ _ hs1]; exact m3)
      have gm4 := cell_regrown (w := wr.alloc (.cells #[.int .u32 d, .int .u32 o, .int .u8 si, .int .u16 l, .int .u16 h, .int .u8 pp, .pointer (some ⟨sb, 0, none⟩)] 83)) (a := ⟨w.heap.size, 4, none⟩) (v := .bool true) (by rw [World.cell?_alloc_past _ _ _ hs1]; exact m4)
      have gk0 := cell_regrown (w := wr.alloc (.cells #[.int .u32 d, .int .u32 o, .int .u8 si, .int .u16 l, .int .u16 h, .int .u8 pp, .pointer (some ⟨sb, 0, none⟩)] 83)) (a := ⟨w.heap.size + 1, 0, none⟩) (v := .int .u32 kd) (by rw [World.cell?_alloc_past _ _ _ hs2]; exact k0)
      have gk1 := cell_regrown (w := wr.alloc (.cells #[.int .u32 d, .int .u32 o, .int .u8 si, .int .u16 l, .int .u16 h, .int .u8 pp, .pointer (some ⟨sb, 0, none⟩)] 83)) (a := ⟨w.heap.size + 1, 1, none⟩) (v := .int .u32 ko) (by rw [World.cell?_alloc_past _ _ _ hs2]; exact k1)
      have gk2 := cell_regrown (w := wr.alloc (.cells #[.int .u32 d, .int .u32 o, .int .u8 si, .int .u16 l, .int .u16 h, .int .u8 pp, .pointer (some ⟨sb, 0, none⟩)] 83)) (a := ⟨w.heap.size + 1, 2, none⟩) (v := .int .u8 ks) (by rw [World.cell?_alloc_past _ _ _ hs2]; exact k2)
      have gk3 := cell_regrown (w := wr.alloc (.cells #[.int .u32 d, .int .u32 o, .int .u8 si, .int .u16 l, .int .u16 h, .int .u8 pp, .pointer (some ⟨sb, 0, none⟩)] 83)) (a := ⟨w.heap.size + 1, 3, none⟩) (v := .int .u16 kl) (by rw [World.cell?_alloc_past _ _ _ hs2]; exact k3)
      have gk4 := cell_regrown (w := wr.alloc (.cells #[.int .u32 d, .int .u32 o, .int .u8 si, .int .u16 l, .int .u16 h, .int .u8 pp, .pointer (some ⟨sb, 0, none⟩)] 83)) (a := ⟨w.heap.size + 1, 4, none⟩) (v := .int .u16 kh) (by rw [World.cell?_alloc_past _ _ _ hs2]; exact k4)
      have gk5 := cell_regrown (w := wr.alloc (.cells #[.int .u32 d, .int .u32 o, .int .u8 si, .int .u16 l, .int .u16 h, .int .u8 pp, .pointer (some ⟨sb, 0, none⟩)] 83)) (a := ⟨w.heap.size + 1, 5, none⟩) (v := .int .u8 kp) (by rw [World.cell?_alloc_past _ _ _ hs2]; exact k5)
      have g6 := cell_regrown (w := (wr.alloc (.cells #[.int .u32 d, .int .u32 o, .int .u8 si, .int .u16 l, .int .u16 h, .int .u8 pp, .pointer (some ⟨sb, 0, none⟩)] 83))) (a := ⟨wr.heap.size, 6, none⟩) (v := .pointer (some ⟨sb, 0, none⟩)) (by simp [go_sem])
      rcases hbool (matchB ⟨d, o, si, l, h, pp⟩ Dn O C) with hm | hm
      · cases a with
        | none =>
          have HMB : Hid (matchB ⟨d, o, si, l, h, pp⟩ Dn O C = true) := hm
          have HL : Hid (lookK rs Dn O C (k + 1) = (some sb, ⟨d, o, si, l, h, pp⟩)) := by show _ = _; rw [HS.out]; simp [lstep, hm]
          clear hm hbool
          go_wp2
          refine wp_region_quiet_below (by kernel_rfl) (by kernel_rfl) ?_
          repeat (go_big_quiet_step (first | (go_at_call 16; exact Calls.regrown_of (matches_b ⟨d, o, si, l, h, pp⟩ Dn O C true _ HMB.out))))
          refine wpQuiet_nil ?_
          intro _ hw'
          obtain ⟨⟨dq, osq⟩, hw''⟩ := hw'
          subst hw''
          have hb2 : Below wr.heap.size wr (grow (redrawn (wr.alloc (.cells #[.int .u32 d, .int .u32 o, .int .u8 si, .int .u16 l, .int .u16 h, .int .u8 pp, .pointer (some ⟨sb, 0, none⟩)] 83)) dq) osq) := ((Below.refl _ _).alloc (Nat.le_refl _) _).trans ((below_regrown _ dq osq).mono (by simp))
          have hsz2 : wr.heap.size < (grow (redrawn (wr.alloc (.cells #[.int .u32 d, .int .u32 o, .int .u8 si, .int .u16 l, .int .u16 h, .int .u8 pp, .pointer (some ⟨sb, 0, none⟩)] 83)) dq) osq).heap.size := by have := (below_regrown (wr.alloc (.cells #[.int .u32 d, .int .u32 o, .int .u8 si, .int .u16 l, .int .u16 h, .int .u8 pp, .pointer (some ⟨sb, 0, none⟩)] 83)) dq osq).size; rw [World.size_alloc] at this; omega
          have r0 := g0 dq osq
          have r1 := g1 dq osq
          have r2 := g2 dq osq
          have r3 := g3 dq osq
          have r4 := g4 dq osq
          have r5 := g5 dq osq
          have r6 := g6 dq osq
          have y0 := gk0 dq osq
          have y1 := gk1 dq osq
          have y2 := gk2 dq osq
          have y3 := gk3 dq osq
          have y4 := gk4 dq osq
          have y5 := gk5 dq osq
          have hK2 : (grow (redrawn (wr.alloc (.cells #[.int .u32 d, .int .u32 o, .int .u8 si, .int .u16 l, .int .u16 h, .int .u8 pp, .pointer (some ⟨sb, 0, none⟩)] 83)) dq) osq).heap[w.heap.size + 1]? = some (K.obj ⟨kd, ko, ks, kl, kh, kp⟩) := by rw [hb2.block _ hs2]; exact HK.out
          have zz : ∀ j, (grow (redrawn (wr.alloc (.cells #[.int .u32 d, .int .u32 o, .int .u8 si, .int .u16 l, .int .u16 h, .int .u8 pp, .pointer (some ⟨sb, 0, none⟩)] 83)) dq) osq).frozen? ⟨w.heap.size + 1, j, none⟩ = false := fun j => by simp [World.frozen?, hK2, K.obj]
          have hM2 : (grow (redrawn (wr.alloc (.cells #[.int .u32 d, .int .u32 o, .int .u8 si, .int .u16 l, .int .u16 h, .int .u8 pp, .pointer (some ⟨sb, 0, none⟩)] 83)) dq) osq).heap[w.heap.size]? = some (msgObj Dn O C) := by rw [hb2.block _ hs1]; exact HM.out
          have HB2 : Hid (Below w.heap.size w (grow (redrawn (wr.alloc (.cells #[.int .u32 d, .int .u32 o, .int .u8 si, .int .u16 l, .int .u16 h, .int .u8 pp, .pointer (some ⟨sb, 0, none⟩)] 83)) dq) osq)) := HB.out.trans (hb2.mono (by omega))
          have HK2 : Hid _ := hK2
          have HM2 : Hid _ := hM2
          clear g0 g1 g2 g3 g4 g5 g6 gm0 gm1 gm2 gm3 gm4 gk0 gk1 gk2 gk3 gk4 gk5 hb2 hK2 hM2 q0 q1 q2 q3 q4 q5 q6 m0 m1 m2 m3 m4 k0 k1 k2 k3 k4 k5 HM HK HB
          generalize hW2 : grow (redrawn (wr.alloc (.cells #[.int .u32 d, .int .u32 o, .int .u8 si, .int .u16 l, .int .u16 h, .int .u8 pp, .pointer (some ⟨sb, 0, none⟩)] 83)) dq) osq = W2 at *
          clear hW2
          go_wp2
          go_region
          go_wp2
          go_roundw
          case rel =>
            refine ⟨k + 1, by omega, by go_num, by rw [HL.out]; rfl, by rw [HL.out]; rfl, ?_, ?_, ?_⟩
            · rw [put6_other W2 (w.heap.size + 1) d o si l h pp (j := w.heap.size) (by omega)]; exact HM2.out
            · rw [HL.out]; exact put6_same HK2.out d o si l h pp
            · exact put6_below HB2.out (Nat.le_succ _) d o si l h pp
          case measure => simp [intOf]; omega
          
        | some b =>
          have HMB : Hid (matchB ⟨d, o, si, l, h, pp⟩ Dn O C = true) := hm
          rcases hbool (decide (named ⟨kd, ko, ks, kl, kh, kp⟩ < named ⟨d, o, si, l, h, pp⟩)) with hgt | hgt
          · have HL : Hid (lookK rs Dn O C (k + 1) = (some sb, ⟨d, o, si, l, h, pp⟩)) := by show _ = _; rw [HS.out]; simp only [lstep, hm, hgt]; rfl
            clear hm hbool
            go_wp2
            refine wp_region_quiet_below (by kernel_rfl) (by kernel_rfl) ?_
            repeat (go_big_quiet_step (first
              | (go_at_call 16; exact Calls.regrown_of (matches_b ⟨d, o, si, l, h, pp⟩ Dn O C true _ HMB.out))
              | (go_at_call_of 17 (Value.agg #[Value.int .u32 d, Value.int .u32 o, Value.int .u8 si, Value.int .u16 l, Value.int .u16 h, Value.int .u8 pp]); exact Calls.regrown_of (named_b ⟨d, o, si, l, h, pp⟩ _ HO.out))
              | (go_at_call_of 17 (Value.agg #[Value.int .u32 kd, Value.int .u32 ko, Value.int .u8 ks, Value.int .u16 kl, Value.int .u16 kh, Value.int .u8 kp]); exact Calls.regrown_of (named_b ⟨kd, ko, ks, kl, kh, kp⟩ _ HO2.out))))
            refine wpQuiet_nil ?_
            intro _ hw'
            obtain ⟨⟨dq, osq⟩, hw''⟩ := hw'
            subst hw''
            clear hgt
            have hb2 : Below wr.heap.size wr (grow (redrawn (wr.alloc (.cells #[.int .u32 d, .int .u32 o, .int .u8 si, .int .u16 l, .int .u16 h, .int .u8 pp, .pointer (some ⟨sb, 0, none⟩)] 83)) dq) osq) := ((Below.refl _ _).alloc (Nat.le_refl _) _).trans ((below_regrown _ dq osq).mono (by simp))
            have hsz2 : wr.heap.size < (grow (redrawn (wr.alloc (.cells #[.int .u32 d, .int .u32 o, .int .u8 si, .int .u16 l, .int .u16 h, .int .u8 pp, .pointer (some ⟨sb, 0, none⟩)] 83)) dq) osq).heap.size := by have := (below_regrown (wr.alloc (.cells #[.int .u32 d, .int .u32 o, .int .u8 si, .int .u16 l, .int .u16 h, .int .u8 pp, .pointer (some ⟨sb, 0, none⟩)] 83)) dq osq).size; rw [World.size_alloc] at this; omega
            have r0 := g0 dq osq
            have r1 := g1 dq osq
            have r2 := g2 dq osq
            have r3 := g3 dq osq
            have r4 := g4 dq osq
            have r5 := g5 dq osq
            have r6 := g6 dq osq
            have y0 := gk0 dq osq
            have y1 := gk1 dq osq
            have y2 := gk2 dq osq
            have y3 := gk3 dq osq
            have y4 := gk4 dq osq
            have y5 := gk5 dq osq
            have hK2 : (grow (redrawn (wr.alloc (.cells #[.int .u32 d, .int .u32 o, .int .u8 si, .int .u16 l, .int .u16 h, .int .u8 pp, .pointer (some ⟨sb, 0, none⟩)] 83)) dq) osq).heap[w.heap.size + 1]? = some (K.obj ⟨kd, ko, ks, kl, kh, kp⟩) := by rw [hb2.block _ hs2]; exact HK.out
            have zz : ∀ j, (grow (redrawn (wr.alloc (.cells #[.int .u32 d, .int .u32 o, .int .u8 si, .int .u16 l, .int .u16 h, .int .u8 pp, .pointer (some ⟨sb, 0, none⟩)] 83)) dq) osq).frozen? ⟨w.heap.size + 1, j, none⟩ = false := fun j => by simp [World.frozen?, hK2, K.obj]
            have hM2 : (grow (redrawn (wr.alloc (.cells #[.int .u32 d, .int .u32 o, .int .u8 si, .int .u16 l, .int .u16 h, .int .u8 pp, .pointer (some ⟨sb, 0, none⟩)] 83)) dq) osq).heap[w.heap.size]? = some (msgObj Dn O C) := by rw [hb2.block _ hs1]; exact HM.out
            have HB2 : Hid (Below w.heap.size w (grow (redrawn (wr.alloc (.cells #[.int .u32 d, .int .u32 o, .int .u8 si, .int .u16 l, .int .u16 h, .int .u8 pp, .pointer (some ⟨sb, 0, none⟩)] 83)) dq) osq)) := HB.out.trans (hb2.mono (by omega))
            have HK2 : Hid _ := hK2
            have HM2 : Hid _ := hM2
            clear g0 g1 g2 g3 g4 g5 g6 gm0 gm1 gm2 gm3 gm4 gk0 gk1 gk2 gk3 gk4 gk5 hb2 hK2 hM2 q0 q1 q2 q3 q4 q5 q6 m0 m1 m2 m3 m4 k0 k1 k2 k3 k4 k5 HM HK HB
            generalize hW2 : grow (redrawn (wr.alloc (.cells #[.int .u32 d, .int .u32 o, .int .u8 si, .int .u16 l, .int .u16 h, .int .u8 pp, .pointer (some ⟨sb, 0, none⟩)] 83)) dq) osq = W2 at *
            clear hW2
            go_wp2
            go_region
            go_wp2
            go_roundw
            case rel =>
              refine ⟨k + 1, by omega, by go_num, by rw [HL.out]; rfl, by rw [HL.out]; rfl, ?_, ?_, ?_⟩
              · rw [put6_other W2 (w.heap.size + 1) d o si l h pp (j := w.heap.size) (by omega)]; exact HM2.out
              · rw [HL.out]; exact put6_same HK2.out d o si l h pp
              · exact put6_below HB2.out (Nat.le_succ _) d o si l h pp
            case measure => simp [intOf]; omega
          · have HL : Hid (lookK rs Dn O C (k + 1) = (some b, ⟨kd, ko, ks, kl, kh, kp⟩)) := by show _ = _; rw [HS.out]; simp only [lstep, hm, hgt]; rfl
            clear hm hbool
            go_wp2
            refine wp_region_quiet_below (by kernel_rfl) (by kernel_rfl) ?_
            repeat (go_big_quiet_step (first
              | (go_at_call 16; exact Calls.regrown_of (matches_b ⟨d, o, si, l, h, pp⟩ Dn O C true _ HMB.out))
              | (go_at_call_of 17 (Value.agg #[Value.int .u32 d, Value.int .u32 o, Value.int .u8 si, Value.int .u16 l, Value.int .u16 h, Value.int .u8 pp]); exact Calls.regrown_of (named_b ⟨d, o, si, l, h, pp⟩ _ HO.out))
              | (go_at_call_of 17 (Value.agg #[Value.int .u32 kd, Value.int .u32 ko, Value.int .u8 ks, Value.int .u16 kl, Value.int .u16 kh, Value.int .u8 kp]); exact Calls.regrown_of (named_b ⟨kd, ko, ks, kl, kh, kp⟩ _ HO2.out))))
            refine wpQuiet_nil ?_
            intro _ hw'
            obtain ⟨⟨dq, osq⟩, hw''⟩ := hw'
            subst hw''
            clear hgt
            have hb2 : Below wr.heap.size wr (grow (redrawn (wr.alloc (.cells #[.int .u32 d, .int .u32 o, .int .u8 si, .int .u16 l, .int .u16 h, .int .u8 pp, .pointer (some ⟨sb, 0, none⟩)] 83)) dq) osq) := ((Below.refl _ _).alloc (Nat.le_refl _) _).trans ((below_regrown _ dq osq).mono (by simp))
            go_wp2
            go_roundw
            case rel =>
              refine ⟨k + 1, by omega, by go_num, by rw [HL.out], by rw [HL.out], ?_, ?_, ?_⟩
              · rw [hb2.block _ hs1]; exact HM.out
              · rw [HL.out, hb2.block _ hs2]; exact HK.out
              · exact HB.out.trans (hb2.mono (by omega))
            case measure => simp [intOf]; omega
      · have HMB : Hid (matchB ⟨d, o, si, l, h, pp⟩ Dn O C = false) := hm
        have HL : Hid (lookK rs Dn O C (k + 1) = (a, ⟨kd, ko, ks, kl, kh, kp⟩)) := by show _ = _; rw [HS.out]; simp [lstep, hm]
        clear hm hbool
        go_wp2
        refine wp_region_quiet_below (by kernel_rfl) (by kernel_rfl) ?_
        repeat (go_big_quiet_step (first | (go_at_call 16; exact Calls.regrown_of (matches_b ⟨d, o, si, l, h, pp⟩ Dn O C false _ HMB.out))))
        refine wpQuiet_nil ?_
        intro _ hw'
        obtain ⟨⟨dq, osq⟩, hw''⟩ := hw'
        subst hw''
        have hb2 : Below wr.heap.size wr (grow (redrawn (wr.alloc (.cells #[.int .u32 d, .int .u32 o, .int .u8 si, .int .u16 l, .int .u16 h, .int .u8 pp, .pointer (some ⟨sb, 0, none⟩)] 83)) dq) osq) := ((Below.refl _ _).alloc (Nat.le_refl _) _).trans ((below_regrown _ dq osq).mono (by simp))
        go_wp2
        go_roundw
        case rel =>
          refine ⟨k + 1, by omega, by go_num, by rw [HL.out], by rw [HL.out], ?_, ?_, ?_⟩
          · rw [hb2.block _ hs1]; exact HM.out
          · rw [HL.out, hb2.block _ hs2]; exact HK.out
          · exact HB.out.trans (hb2.mono (by omega))
        case measure => simp [intOf]; omega
        
    · obtain rfl : k = n := by omega
      generalize hst : lookK rs Dn O C k = st at *
      obtain ⟨a, ⟨kd, ko, ks, kl, kh, kp⟩⟩ := st
      dsimp only at hK hkok
      have k0 : wr.cell? ⟨w.heap.size + 1, 0, none⟩ = some (.int .u32 kd) := by simp [World.cell?, hK, K.obj]
      have k1 : wr.cell? ⟨w.heap.size + 1, 1, none⟩ = some (.int .u32 ko) := by simp [World.cell?, hK, K.obj]
      have k2 : wr.cell? ⟨w.heap.size + 1, 2, none⟩ = some (.int .u8 ks) := by simp [World.cell?, hK, K.obj]
      have k3 : wr.cell? ⟨w.heap.size + 1, 3, none⟩ = some (.int .u16 kl) := by simp [World.cell?, hK, K.obj]
      have k4 : wr.cell? ⟨w.heap.size + 1, 4, none⟩ = some (.int .u16 kh) := by simp [World.cell?, hK, K.obj]
      have k5 : wr.cell? ⟨w.heap.size + 1, 5, none⟩ = some (.int .u8 kp) := by simp [World.cell?, hK, K.obj]
      have zz : ∀ j, wr.frozen? ⟨w.heap.size + 1, j, none⟩ = false := fun j => by simp [World.frozen?, hK, K.obj]
      have HB : Hid (Below w.heap.size w wr) := hB
      have HST : Hid (lookK rs Dn O C k = (a, ⟨kd, ko, ks, kl, kh, kp⟩)) := hst
      clear hM hK hB hkok hst hc hb
      go_wp2
      go_region
      go_wp2
      refine bodyPost_ret (v := .tuple #[asV a, .agg #[.int .u32 kd, .int .u32 ko, .int .u8 ks, .int .u16 kl, .int .u16 kh, .int .u8 kp], .bool a.isSome]) (by simp [results, Yba.results13, go_sem, k0, k1, k2, k3, k4, k5]) rfl ⟨by rw [HST.out]; rfl, ?_⟩
      exact put6_below HB.out (Nat.le_succ _) kd ko ks kl kh kp

theorem lookup_far (T : Nat) (D O C : Int) (w : World) (hp : 16383 < D) :
    Calls Yba.prog 13 #[.pointer (some ⟨T, 0, none⟩), msgVal D O C] w fun e w' => e = .returned (.tuple #[.pointer none, K0.val, .bool false]) ∧ Below w.heap.size w w' := by
  unfold msgVal
  go_enter Yba.func13, Yba.ntmps13
  go_wp2_with (go_at_call 14; refine (dest_far D _ hp).mono ?_; rintro e w' ⟨rfl, rfl⟩)
  refine bodyPost_ret (v := .tuple #[.pointer none, .agg #[.int .u32 0, .int .u32 0, .int .u8 0, .int .u16 0, .int .u16 0, .int .u8 0], .bool false]) (by simp [results, Yba.results13, go_sem]) rfl ⟨rfl, ?_⟩
  exact ((Below.refl _ _).alloc (Nat.le_refl _) _).alloc (by simp) _

theorem lookup_nil (T : Nat) (D : Nat) (O C : Int) (w : World) (hp : D ≤ 16383) (hT : T < w.heap.size) (hc : w.cell? ⟨T, D, none⟩ = some (.pointer none)) :
    Calls Yba.prog 13 #[.pointer (some ⟨T, 0, none⟩), msgVal D O C] w fun e w' => e = .returned (.tuple #[.pointer none, K0.val, .bool false]) ∧ Below w.heap.size w w' := by
  unfold msgVal
  go_enter Yba.func13, Yba.ntmps13
  go_wp2_with fail
  refine (dest_nil hp ?_).mono ?_
  · rw [World.cell?_alloc_past _ _ _ (by simp; omega), World.cell?_alloc_past _ _ _ hT]; exact hc
  rintro e w' ⟨rfl, rfl⟩
  go_wp2
  refine bodyPost_ret (v := .tuple #[.pointer none, .agg #[.int .u32 0, .int .u32 0, .int .u8 0, .int .u16 0, .int .u16 0, .int .u8 0], .bool false]) (by simp [results, Yba.results13, go_sem]) rfl ⟨rfl, ?_⟩
  exact ((Below.refl _ _).alloc (Nat.le_refl _) _).alloc (by simp) _
end Go.Proofs.Ybulkaily
