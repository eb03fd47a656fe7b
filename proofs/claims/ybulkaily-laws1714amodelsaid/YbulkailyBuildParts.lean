/-
  For the law's builder of the servers: lemmas outside the walk.
-/
import Derived.Test.YbulkailyAses
import Derived.Deep.AppendLies
import Derived.OwnWalk
import Derived.Deep.RegionHeld3
namespace Go.Proofs.Ybulkaily
open Go.RowKit
attribute [local go_sem ↓] Go.wp_at_zero Go.wp_at_succ

/-- A key as drawn. -/
structure Z where
  sel : Int
  dpc : Int
  opc : Int
  si : Int
  lo : Int
  hi : Int
  parts : Int
def Z.cells (z : Z) : List Value := [.int .u8 z.sel, .int .u32 z.dpc, .int .u32 z.opc, .int .u8 z.si, .int .u16 z.lo, .int .u16 z.hi, .int .u8 z.parts]
structure Z.Ok (z : Z) : Prop where
  e0 : 0 ≤ z.sel
  e1 : z.sel ≤ 255
  d0 : 0 ≤ z.dpc
  d1 : z.dpc ≤ 4294967295
  o0 : 0 ≤ z.opc
  o1 : z.opc ≤ 4294967295
  s0 : 0 ≤ z.si
  s1 : z.si ≤ 255
  l0 : 0 ≤ z.lo
  l1 : z.lo ≤ 65535
  h0 : 0 ≤ z.hi
  h1 : z.hi ≤ 65535
  p0 : 0 ≤ z.parts
  p1 : z.parts ≤ 255

/-- The key made of it. -/
def Z.key (ex ag : Int) (z : Z) : K := ⟨pickV z.sel ex ag z.dpc, pickV (z.sel / 3) ex ag z.opc, if z.si % 2 = 0 then 5 else z.si, z.lo, z.hi, z.parts⟩
/-- The server made of what was drawn. -/
def conv (ex ag : Int) (x : Int × List Z) : Int × List K := (x.1, x.2.map (Z.key ex ag))

/-- The server drawn, at place i of the slice at a. -/
def InAt (a : Addr) (i : Nat) (x : Int × List Z) (w : World) : Prop := ∃ b cap, w.cell? (a.add (i * 2)) = some (.int .u32 x.1) ∧ w.cell? ((a.add (i * 2)).add 1) = some (.slice b x.2.length cap) ∧
  0 ≤ x.1 ∧ x.1 ≤ 4294967295 ∧ x.2.length ≤ 10000000000000 ∧
  ∀ j, j < x.2.length → ∃ z c, x.2[j]? = some z ∧ b = some c ∧ c.block < w.heap.size ∧ z.Ok ∧ ∀ t v, z.cells[t]? = some v → w.cell? ((c.add (j * 7)).add t) = some v

/-- How many keys the first i servers have. -/
def tot (I : List (Int × List Z)) (i : Nat) : Nat := ((I.take i).map (fun x => x.2.length)).sum
theorem tot_succ {I : List (Int × List Z)} {i : Nat} {x : Int × List Z} (h : I[i]? = some x) : tot I (i + 1) = tot I i + x.2.length := by
  obtain ⟨hlt, he⟩ := List.getElem?_eq_some_iff.1 h
  unfold tot
  rw [List.take_succ_eq_append_getElem hlt, List.map_append, List.sum_append, he]
  simp

theorem cell_add {w : World} {a : Addr} {n : Nat} {v : Value} (h : w.cell? (a.add n) = some v) : w.cell? ⟨a.block, a.off + n, none⟩ = some v := by
  unfold Addr.add at h
  split at h
  · rename_i h0
    subst h0
    obtain ⟨b, o, sp⟩ := a
    cases sp with
    | none => exact h
    | some s => simp [World.cell?] at h; split at h <;> cases h
  · exact h

theorem z47 : Yba.prog.info? 47 = some Yba.t47 := by kernel_rfl
theorem z44 : Yba.prog.info? 44 = some Yba.t44 := by kernel_rfl

/-- A key appended to the keys (in a region that draws). -/
theorem append_key (wz : World) (base n : Nat) (v : Value) (xs : List Value) (hown : wz.ownsRow base 44 6 v n xs) (hb : base ≤ wz.heap.size) (hn : n ≤ 1000) (d o si l h pp : Int) :
    ∃ g cap w', (Builtin.append_ #[38, 38] 38 #[v, .slice (some ⟨wz.heap.size, 0, none⟩) 1 1]).run Yba.prog (wz.drew.alloc (.cells #[.int .u32 d, .int .u32 o, .int .u8 si, .int .u16 l, .int .u16 h, .int .u8 pp] 44)) = .ok (.slice (some ⟨g, 0, none⟩) (n + 1) cap) w' ∧
      w'.ownsRow base 44 6 (.slice (some ⟨g, 0, none⟩) (n + 1) cap) (n + 1) (xs ++ [.int .u32 d, .int .u32 o, .int .u8 si, .int .u16 l, .int .u16 h, .int .u8 pp]) ∧
      (wz.drew.alloc (.cells #[.int .u32 d, .int .u32 o, .int .u8 si, .int .u16 l, .int .u16 h, .int .u8 pp] 44)).grownBy w' v.ownBlock ∧ (v.ownBlock = some g ∨ g = wz.heap.size + 1) ∧ g < w'.heap.size := by
  refine run_append_lies (P := Yba.prog) _ 38 38 base 44 Yba.t44 _ 6 16 Yba.underlying38 z44 rfl rfl rfl rfl (by decide) v n xs ?_ ⟨wz.heap.size, 0, none⟩ 1 1 _ rfl ?_ ?_ (by decide) (by unfold maxLen; omega) (by omega) (by simp; omega) (wz.heap.size + 1) (by simp)
  · exact World.ownsRow.alloc (w := wz.drew) hown _
  · exact World.news_of_block (heap_alloc_new wz.drew _)
  · intro u hu
    simp at hu
    rcases hu with rfl | rfl | rfl | rfl | rfl | rfl <;> rfl

/-- A server appended to the servers. -/
theorem append_as (wz : World) (base n : Nat) (v : Value) (xs : List Value) (hown : wz.ownsRow base 47 4 v n xs) (hb : base ≤ wz.heap.size) (hn : n ≤ 1000) (rc : Int) (ks : Value) (hks : ks.oneCell' = true) :
    ∃ g cap w', (Builtin.append_ #[24, 24] 24 #[v, .slice (some ⟨wz.heap.size, 0, none⟩) 1 1]).run Yba.prog (wz.alloc (.cells #[.string ⟨#[]⟩, .int .u32 rc, .int .u32 0, ks] 47)) = .ok (.slice (some ⟨g, 0, none⟩) (n + 1) cap) w' ∧
      w'.ownsRow base 47 4 (.slice (some ⟨g, 0, none⟩) (n + 1) cap) (n + 1) (xs ++ [.string ⟨#[]⟩, .int .u32 rc, .int .u32 0, ks]) ∧
      (wz.alloc (.cells #[.string ⟨#[]⟩, .int .u32 rc, .int .u32 0, ks] 47)).grownBy w' v.ownBlock ∧ (v.ownBlock = some g ∨ g = wz.heap.size + 1) ∧ g < w'.heap.size := by
  refine run_append_lies (P := Yba.prog) _ 24 24 base 47 Yba.t47 _ 4 48 Yba.underlying24 z47 rfl rfl rfl rfl (by decide) v n xs ?_ ⟨wz.heap.size, 0, none⟩ 1 1 _ rfl ?_ ?_ (by decide) (by unfold maxLen; omega) (by omega) (by simp; omega) (wz.heap.size + 1) (by simp)
  · exact World.ownsRow.alloc hown _
  · exact World.news_of_block (heap_alloc_new wz _)
  · intro u hu
    simp at hu
    rcases hu with rfl | rfl | rfl | rfl
    · rfl
    · rfl
    · rfl
    · exact hks

/-- AsAt, its keys' block told. -/
def AsK (ob i : Nat) (x : Int × List K) (kb cap : Nat) (w : World) : Prop := kb < w.heap.size ∧
  w.cell? ⟨ob, i * 4, none⟩ = some (.string ⟨#[]⟩) ∧ w.cell? ⟨ob, i * 4 + 1, none⟩ = some (.int .u32 x.1) ∧
  w.cell? ⟨ob, i * 4 + 2, none⟩ = some (.int .u32 0) ∧ w.cell? ⟨ob, i * 4 + 3, none⟩ = some (.slice (some ⟨kb, 0, none⟩) x.2.length cap) ∧
  ∀ j, j < x.2.length → ∃ k, x.2[j]? = some k ∧ k.Ok ∧ KeyAt kb j k w

/-- The servers made so far. -/
def BRel (w : World) (L : List (Int × List K)) (i : Nat) (v : Value) (wr : World) : Prop := ∃ ob oc xs, v = .slice (some ⟨ob, 0, none⟩) i oc ∧ wr.ownsRow w.heap.size 47 4 v i xs ∧ Below w.heap.size w wr ∧
  ∀ j, j < i → ∃ x kb kc, L[j]? = some x ∧ x.2.length ≤ 256 ∧ kb ≠ ob ∧ AsK ob j x kb kc wr

theorem brel_zero {w w1 : World} {L : List (Int × List K)} {N : Nat} (hown : w1.ownsRow w.heap.size 47 4 (.slice (some ⟨w.heap.size, 0, none⟩) 0 N) 0 []) (hg : w.grownBy w1 none) : BRel w L 0 (.slice (some ⟨w.heap.size, 0, none⟩) 0 N) w1 :=
  ⟨w.heap.size, N, [], rfl, hown, ⟨hg.os, hg.tape, hg.output, hg.size, fun i hi => hg.block i hi (by simp)⟩, fun j hj => by omega⟩

theorem tot_le {I : List (Int × List Z)} {i j : Nat} (h : i ≤ j) : tot I i ≤ tot I j := by
  induction j with
  | zero => obtain rfl : i = 0 := by omega
            exact Nat.le_refl _
  | succ j ih =>
    by_cases e : i = j + 1
    · subst e; exact Nat.le_refl _
    · have := ih (by omega)
      cases hx : I[j]? with
      | some x => rw [tot_succ hx]; omega
      | none =>
        have hl := List.getElem?_eq_none_iff.1 hx
        unfold tot at *
        rw [List.take_of_length_le (i := j + 1) (by omega), List.take_of_length_le (i := j) hl] at *
        exact this

theorem add_block (a : Addr) (n : Nat) : (a.add n).block = a.block := by unfold Addr.add; split <;> rfl

/-- The keys made so far. -/
def KRel (wo : World) (zs : List Z) (ex ag : Int) (j : Nat) (v : Value) (wq : World) : Prop := ∃ kb kc, v = .slice (some ⟨kb, 0, none⟩) j kc ∧
  wq.ownsRow wo.heap.size 44 6 v j ((zs.take j).flatMap fun z => (z.key ex ag).cells) ∧ Below wo.heap.size wo wq

theorem krel_zero {w w1 : World} {zs : List Z} {ex ag : Int} {n : Nat} (hown : w1.ownsRow w.heap.size 44 6 (.slice (some ⟨w.heap.size, 0, none⟩) 0 n) 0 []) (hg : w.grownBy w1 none) : KRel w zs ex ag 0 (.slice (some ⟨w.heap.size, 0, none⟩) 0 n) w1 :=
  ⟨w.heap.size, n, rfl, hown, ⟨hg.os, hg.tape, hg.output, hg.size, fun i hi => hg.block i hi (by simp)⟩⟩

theorem below_grown {N : Nat} {w a b : World} {row : Option Nat} (h : Below N w a) (hg : a.grownBy b row) (hs : N ≤ a.heap.size) (hrow : ∀ k, row = some k → N ≤ k) : Below N w b :=
  h.trans ⟨hg.os, hg.tape, hg.output, hg.size, fun i hi => hg.block i (Nat.lt_of_lt_of_le hi hs) (fun e => by have := hrow i e.symm; omega)⟩

theorem cells_succ {zs : List Z} {j : Nat} {z : Z} (ex ag : Int) (h : zs[j]? = some z) : ((zs.take (j + 1)).flatMap fun z => (z.key ex ag).cells) = ((zs.take j).flatMap fun z => (z.key ex ag).cells) ++ (z.key ex ag).cells := by
  obtain ⟨hlt, he⟩ := List.getElem?_eq_some_iff.1 h
  rw [List.take_succ_eq_append_getElem hlt, List.flatMap_append, he]
  simp

theorem third {sel : Int} (h0 : 0 ≤ sel) (h1 : sel ≤ 255) : IntKind.u8.wrap (sel.tdiv 3) = sel / 3 := by
  rw [Int.tdiv_eq_ediv_of_nonneg h0]
  have e : IntKind.u8.wrap (sel / 3) = (sel / 3) % 256 := by simp [IntKind.wrap, IntKind.bits, IntKind.signed]
  rw [e]
  omega
theorem pick_third (sel ex ag raw : Int) (w : World) (h0 : 0 ≤ sel) (h1 : sel ≤ 255) :
    Calls Yba.prog 8 #[.int .u8 (IntKind.u8.wrap (sel.tdiv 3)), .int .u32 ex, .int .u32 ag, .int .u32 raw] w fun e w' => e = .returned (.int .u32 (pickV (sel / 3) ex ag raw)) ∧ w = w' := by
  rw [third h0 h1]
  exact pick_any _ _ _ _ _ (by omega) (by omega)

/-- An append whose run is known, at a step of a region that draws. -/
theorem step_run {P : Program} {ops : Array Oper} {o : Oper} {a : Act} {w : World} {K : Act → World → Prop} {Q : Exit → Act → World → Prop} {E : Prop} (hgd : o.guard = none) (s x : Operand) (t : TypeId)
    (ho : o.op = .call { callee := .builtin .append, args := #[s, x], argTypes := #[t, t] }) {v u v' : Value} {w' : World} (hs : a.eval s = v) (hx : a.eval x = u)
    (hr : (Builtin.append_ #[t, t] o.type #[v, u]).run P w = .ok v' w') (h : K (a.put o.dst v') w') : if Region.wanted o (yielded ops a.tmps) = true then Oper.wp P o a w K Q else E := by
  have hw : Region.wanted o (yielded ops a.tmps) = true := by simp [Region.wanted, hgd]
  rw [if_pos hw]
  unfold Oper.wp execOp
  simp only [ho, resolve, invoke, builtin, Sem.run_bind, Sem.run_pure, Result.andThen_ok, List.map_toArray, List.map_cons, List.map_nil, hs, hx, hr]
  exact h

/-- .. in a plain region. -/
theorem wpList_run {P : Program} {ops : Array Oper} {rest : List Oper} {o : Oper} {a : Act} {w : World} {Q : Exit → Act → World → Prop} (hgd : o.guard = none) (s x : Operand) (t : TypeId)
    (ho : o.op = .call { callee := .builtin .append, args := #[s, x], argTypes := #[t, t] }) {v u v' : Value} {w' : World} (hs : a.eval s = v) (hx : a.eval x = u)
    (hr : (Builtin.append_ #[t, t] o.type #[v, u]).run P w = .ok v' w') (h : wpList P ops Q rest (a.put o.dst v') w') : wpList P ops Q (o :: rest) a w := by
  refine wpList_plain hgd fun K hK => ?_
  unfold Oper.wp execOp
  simp only [ho, resolve, invoke, builtin, Sem.run_bind, Sem.run_pure, Result.andThen_ok, List.map_toArray, List.map_cons, List.map_nil, hs, hx, hr]
  exact hK _ _ h

theorem Z.Ok.key {z : Z} (h : z.Ok) {ex ag : Int} (e0 : 0 ≤ ex) (e1 : ex ≤ 4294967295) (a0 : 0 ≤ ag) (a1 : ag ≤ 4294967295) : (z.key ex ag).Ok := by
  have hp : ∀ s r : Int, 0 ≤ r → r ≤ 4294967295 → 0 ≤ pickV s ex ag r ∧ pickV s ex ag r ≤ 4294967295 := by
    intro s r h0 h1
    unfold pickV
    split
    · exact ⟨e0, e1⟩
    · split
      · exact ⟨a0, a1⟩
      · exact ⟨h0, h1⟩
  have h1 := hp z.sel z.dpc h.d0 h.d1
  have h2 := hp (z.sel / 3) z.opc h.o0 h.o1
  refine ⟨h1.1, h1.2, h2.1, h2.2, ?_, ?_, h.l0, h.l1, h.h0, h.h1, h.p0, h.p1⟩
  · show 0 ≤ (if z.si % 2 = 0 then 5 else z.si)
    have := h.s0
    split <;> omega
  · show (if z.si % 2 = 0 then 5 else z.si) ≤ 255
    have := h.s1
    split <;> omega

theorem flat6 : ∀ (ks : List K) (j : Nat) (k : K) (t : Nat) (v : Value), ks[j]? = some k → k.cells[t]? = some v → (ks.flatMap K.cells)[j * 6 + t]? = some v
  | [], j, k, t, v, h, _ => by simp at h
  | k0 :: ks, 0, k, t, v, h, ht => by
    simp at h
    subst h
    have hl : t < k0.cells.length := (List.getElem?_eq_some_iff.1 ht).1
    rw [List.flatMap_cons, Nat.zero_mul, Nat.zero_add, List.getElem?_append_left hl]
    exact ht
  | k0 :: ks, j + 1, k, t, v, h, ht => by
    have hl : k0.cells.length = 6 := rfl
    rw [List.flatMap_cons, List.getElem?_append_right (by omega), hl, show (j + 1) * 6 + t - 6 = j * 6 + t by omega]
    exact flat6 ks j k t v (by simpa using h) ht

theorem own_cell {w : World} {base : Nat} {e : TypeId} {size g n cap : Nat} {xs : List Value} (h : w.ownsRow base e size (.slice (some ⟨g, 0, none⟩) n cap) n xs) {t : Nat} {u : Value} (hu : xs[t]? = some u) : w.cell? ⟨g, t, none⟩ = some u := by
  have := h.cells (g := g) rfl t u hu
  have hadd : (⟨g, 0, none⟩ : Addr).add t = ⟨g, t, none⟩ := by unfold Addr.add; split <;> simp_all
  rw [hadd] at this
  exact this

theorem brel_succ {w wo wr w' : World} {L : List (Int × List K)} {i ob oc kb kc g gc n : Nat} {xs : List Value} {rc : Int} {ks : List K} {obj : Obj}
    (ho : wo.ownsRow w.heap.size 47 4 (.slice (some ⟨ob, 0, none⟩) i oc) i xs) (hbl : Below w.heap.size w wo) (hat : ∀ j, j < i → ∃ x kb kc, L[j]? = some x ∧ x.2.length ≤ 256 ∧ kb ≠ ob ∧ AsK ob j x kb kc wo)
    (hbq : Below wo.heap.size wo wr) (hk : wr.ownsRow wo.heap.size 44 6 (.slice (some ⟨kb, 0, none⟩) n kc) n (ks.flatMap K.cells)) (hn : ks.length = n) (hks : ∀ k ∈ ks, k.Ok) (hn2 : n ≤ 256)
    (ho' : w'.ownsRow w.heap.size 47 4 (.slice (some ⟨g, 0, none⟩) (i + 1) gc) (i + 1) (xs ++ [.string ⟨#[]⟩, .int .u32 rc, .int .u32 0, .slice (some ⟨kb, 0, none⟩) n kc]))
    (hgr : (wr.alloc obj).grownBy w' (some ob)) (hga : some ob = some g ∨ g = wr.heap.size + 1) (hL : L[i]? = some (rc, ks)) : BRel w L (i + 1) (.slice (some ⟨g, 0, none⟩) (i + 1) gc) w' := by
  have hob := ho.lt ob rfl
  have hkb := hk.lt kb rfl
  have hs1 := hbq.size
  have hs2 := hgr.size
  rw [World.size_alloc] at hs2
  have hlen := ho.1
  have hblk : ∀ b, b < wr.heap.size → b ≠ ob → w'.heap[b]? = wr.heap[b]? := fun b hb hne => (hgr.block b (by rw [World.size_alloc]; omega) (by simpa using hne)).trans (Below.heap_alloc _ _ _ hb)
  refine ⟨g, gc, _, rfl, ho', ?_, fun j hj => ?_⟩
  · exact ((hbl.trans (hbq.mono hbl.size)).alloc (by have := hbl.size; omega) obj).grown hgr (by rw [World.size_alloc]; have := hbl.size; omega) (fun k hk => by cases hk; exact hob.1)
  · by_cases hji : j < i
    · obtain ⟨x, kb', kc', h1, h2, h3, h4, h5, h6, h7, h8, h9⟩ := hat j hji
      have tr : ∀ t v, t < 4 → wo.cell? ⟨ob, j * 4 + t, none⟩ = some v → w'.cell? ⟨g, j * 4 + t, none⟩ = some v := by
        intro t v ht hc
        refine own_cell ho' ?_
        have hlt : j * 4 + t < xs.length := by omega
        rw [List.getElem?_append_left hlt]
        have := own_cell ho (List.getElem?_eq_getElem hlt)
        rw [hc] at this
        rw [List.getElem?_eq_getElem hlt, this]
      have hb' : w'.heap[kb']? = wo.heap[kb']? := (hblk kb' (by omega) h3).trans (hbq.block kb' h4)
      refine ⟨x, kb', kc', h1, h2, ?_, by omega, tr 0 _ (by omega) h5, tr 1 _ (by omega) h6, tr 2 _ (by omega) h7, tr 3 _ (by omega) h8, fun t ht => ?_⟩
      · rcases hga with e | e
        · simp at e; omega
        · omega
      · obtain ⟨k, a, b, c⟩ := h9 t ht
        exact ⟨k, a, b, fun s v hs => by rw [World.cell?_of_block (w := wo) (w' := w') (a := ⟨kb', _, none⟩) hb']; exact c s v hs⟩
    · obtain rfl : j = i := by omega
      have tr : ∀ t v, [Value.string ⟨#[]⟩, .int .u32 rc, .int .u32 0, .slice (some ⟨kb, 0, none⟩) n kc][t]? = some v → w'.cell? ⟨g, j * 4 + t, none⟩ = some v := by
        intro t v ht
        refine own_cell ho' ?_
        rw [List.getElem?_append_right (by omega), hlen, show j * 4 + t - j * 4 = t by omega]
        exact ht
      have hne : kb ≠ ob := by omega
      have hb' : w'.heap[kb]? = wr.heap[kb]? := hblk kb hkb.2 hne
      refine ⟨(rc, ks), kb, kc, hL, by show ks.length ≤ 256; omega, ?_, by omega, tr 0 _ rfl, tr 1 _ rfl, tr 2 _ rfl, by rw [show (rc, ks).2.length = n from hn]; exact tr 3 _ rfl, fun t ht => ?_⟩
      · rcases hga with e | e
        · simp at e; omega
        · omega
      · have ht' : t < ks.length := ht
        refine ⟨ks[t], List.getElem?_eq_getElem ht', hks _ (List.getElem_mem ht'), fun s v hs => ?_⟩
        rw [World.cell?_of_block (w := wr) (w' := w') (a := ⟨kb, _, none⟩) hb']
        exact own_cell hk (flat6 ks t ks[t] s v (List.getElem?_eq_getElem ht') hs)

end Go.Proofs.Ybulkaily
