/-
  For 'add': the gathered routes laid into the table, DPC by DPC.
-/
import Derived.Test.YbulkailyAddOuter
namespace Go.Proofs.Ybulkaily
open Go.RowKit

theorem flat7 : ∀ (l : List R3) (i : Nat) (r : R3) (t : Nat) (v : Value), l[i]? = some r → (routeCells (pr r))[t]? = some v → (l.flatMap fun r => routeCells (pr r))[i * 7 + t]? = some v
  | [], j, k, t, v, h, _ => by simp at h
  | k0 :: ks, 0, k, t, v, h, ht => by
    simp at h
    subst h
    have hl : t < (routeCells (pr k0)).length := (List.getElem?_eq_some_iff.1 ht).1
    rw [List.flatMap_cons, Nat.zero_mul, Nat.zero_add, List.getElem?_append_left hl]
    exact ht
  | k0 :: ks, j + 1, k, t, v, h, ht => by
    have hl : (routeCells (pr k0)).length = 7 := rfl
    rw [List.flatMap_cons, List.getElem?_append_right (by omega), hl, show (j + 1) * 7 + t - 7 = j * 7 + t by omega]
    exact flat7 ks j k t v (by simpa using h) ht

structure TRel (w0 : World) (T sb gb it : Nat) (FF : List R3) (g : Nat → Option Value) (D : DataW Value) (c : Nat) (left : Lit → Bool) (cnt : Nat) (wr : World) : Prop where
  os : wr.os = w0.os
  tape : wr.tape = w0.tape
  output : wr.output = w0.output
  size : w0.heap.size ≤ wr.heap.size
  old : ∀ b, b < w0.heap.size → b ≠ sb → b ≠ T → wr.heap[b]? = w0.heap[b]?
  rng : wr.ranges Yba.prog 29 rdr gb it c D left cnt
  sub : ∀ kl, left kl = true → Maps.has D kl = true
  reads : Reads D g
  gbl : w0.heap.size ≤ gb
  itl : w0.heap.size ≤ it
  tlt : T < w0.heap.size
  rows : Rows w0.heap.size FF g wr
  srv : ∀ r ∈ FF, r.1.Ok ∧ Srv wr r.2.1 r.2.2
  tb : ∃ cs, wr.heap[T]? = some (.cells cs 69 (0, 0)) ∧ cs.size = 16387 ∧ (∀ p : Nat, p ≤ 16383 → (g p = none ∨ left (.int .u32 p) = true) → cs[p]? = some (.pointer none)) ∧
    ∀ (p : Nat) v, p ≤ 16383 → g p = some v → left (.int .u32 p) = false → ∃ db s, cs[p]? = some (.pointer (some ⟨db, 0, none⟩)) ∧ wr.heap[db]? = some (.cells #[v, .int .u16 s] 81 (0, 0))

theorem trel_start {w0 wr w2 : World} {T sb gb it : Nat} {FF : List R3} {g : Nat → Option Value} {D : DataW Value} {c cnt : Nat} (h : St w0 T sb gb FF c wr) (hrows : Rows w0.heap.size FF g wr) (hrd : Reads D g) (hit : it = wr.heap.size) (hr : w2.ranges Yba.prog 29 rdr gb it c D (Maps.has D) cnt) (hg : wr.grownBy w2 none)
    {cs : Array Value} (hT : w0.heap[T]? = some (.cells cs 69 (0, 0))) (hcs : cs.size = 16387) (hnil : ∀ p : Nat, p ≤ 16383 → cs[p]? = some (.pointer none)) : TRel w0 T sb gb it FF g D c (Maps.has D) cnt w2 where
  os := hg.os.trans h.os
  tape := hg.tape.trans h.tape
  output := hg.output.trans h.output
  size := Nat.le_trans h.size hg.size
  old := fun b hb hne _ => (hg.block b (Nat.lt_of_lt_of_le hb h.size) (by simp)).trans (h.old b hb hne)
  rng := hr
  sub := fun _ h => h
  reads := hrd
  gbl := h.gbl
  itl := by rw [hit]; exact h.size
  tlt := lt_of_block hT
  rows := hrows.kept hg (by simp)
  srv := fun r hr => ⟨(h.srv r hr).1, (h.srv r hr).2.kept hg (by simp)⟩
  tb := by
    have hTne : T ≠ sb := by
      intro e
      obtain ⟨es, k, hm⟩ := h.map0
      rw [← e, hT] at hm
      cases hm
    refine ⟨cs, ?_, hcs, fun p hp _ => hnil p hp, fun p v hp hv hl => ?_⟩
    · rw [hg.block T (Nat.lt_of_lt_of_le (lt_of_block hT) h.size) (by simp), h.old T (lt_of_block hT) hTne]; exact hT
    · have := (hrd p (by omega)).1
      rw [hl, hv] at this
      cases this

theorem ranges_blk {w : World} {gb it c cnt : Nat} {D : DataW Value} {left : Lit → Bool} (h : w.ranges Yba.prog 29 rdr gb it c D left cnt) : (∃ es k, w.heap[gb]? = some (.map es k)) ∧ ∃ s a k, w.heap[it]? = some (.mapIter (some gb) s a k) := by
  obtain ⟨es, clock, since, seen, c0, h1, _, _, _, h2, _⟩ := h
  exact ⟨⟨es, clock, h1⟩, ⟨since, seen, c0, h2⟩⟩

set_option maxHeartbeats 800000 in
theorem TRel.step {w0 wr w' : World} {T sb gb it : Nat} {FF : List R3} {g : Nat → Option Value} {D : DataW Value} {c cnt cnt' : Nat} {left : Lit → Bool} (h : TRel w0 T sb gb it FF g D c left cnt wr) (hlen : FF.length ≤ 100000)
    {key v : Value} {kl : Lit} {y : DataW Value × List MemPlace} (hkey : keyOf Yba.prog 29 key = some kl) (hl : left kl = true) (hR : rdr v = some y) (hat : ∀ zd, D.atKey kl zd = y.1)
    (hrg : w'.ranges Yba.prog 29 rdr gb it c D (fun x => left x && !x.sameKey kl) cnt') (hg : wr.grownBy w' (some it)) (hsz : w'.heap.size = wr.heap.size) :
    ∃ (p rb n cap : Nat) (rs : List (K × Nat)), key = .int .u32 p ∧ p ≤ 16383 ∧ v = .slice (some ⟨rb, 0, none⟩) n cap ∧ 1 ≤ n ∧ n ≤ 1000000 ∧ rb < w'.heap.size ∧ (∀ i, i < n → ∃ r, rs[i]? = some r ∧ r.1.Ok ∧ RouteAt rb i r w') ∧
      T < w'.heap.size ∧ w'.cell? ⟨T, p, none⟩ = some (.pointer none) ∧ w'.frozen? ⟨T, p, none⟩ = false ∧
      ∀ w1 s, Below w'.heap.size w' w1 → w1.heap[w'.heap.size]? = some (.cells #[.slice (some ⟨rb, 0, none⟩) n cap, .int .u16 s] 81 (0, 0)) →
        TRel w0 T sb gb it FF g D c (fun x => left x && !x.sameKey kl) cnt' (w1.setCell ⟨T, p, none⟩ (.pointer (some ⟨w'.heap.size, 0, none⟩))) := by
  obtain ⟨x, rfl, rfl, hwf⟩ := Maps.keyOf_int_inv Yba.underlying29 hkey
  have hx : 0 ≤ x ∧ x ≤ 4294967295 := by
    simp [Lit.wf] at hwf
    exact hwf
  obtain ⟨p, rfl⟩ : ∃ p : Nat, x = p := ⟨x.toNat, by omega⟩
  have hvy : y = (.held v, []) := by unfold rdr at hR; simpa using hR.symm
  subst hvy
  obtain ⟨h1, h2⟩ := h.reads p (by omega)
  rw [h.sub _ hl] at h1
  obtain ⟨u, hu⟩ := Option.isSome_iff_exists.1 h1.symm
  have hvu : v = u := by
    have e1 := h2 u hu .nil
    rw [hat .nil] at e1
    cases e1
    rfl
  subst hvu
  have hp : p ≤ 16383 := by
    rcases Nat.lt_or_ge 16383 p with hh | hh
    · rw [h.rows.far p hh] at hu; cases hu
    · exact hh
  have hne : sel FF p ≠ [] := fun e => by rw [h.rows.none_ p hp e] at hu; cases hu
  obtain ⟨⟨es0, kk0, hgbb⟩, ⟨is0, ia0, ik0, hitb⟩⟩ := ranges_blk h.rng
  have hnotcells : ∀ b, some it = some b → ∀ cs t z, wr.heap[b]? ≠ some (.cells cs t z) := fun b e cs t z => by cases e; rw [hitb]; simp
  have hrows' : Rows w0.heap.size FF g w' := h.rows.kept hg (fun b e cur => hnotcells b e cur 83 (0, 0))
  have hsrv' : ∀ r ∈ FF, r.1.Ok ∧ Srv w' r.2.1 r.2.2 := fun r hr => ⟨(h.srv r hr).1, (h.srv r hr).2.kept hg (fun b e cur z => hnotcells b e cur 47 z)⟩
  obtain ⟨rb, cap, h3, h4⟩ := hrows'.some_ p hp hne
  rw [hu] at h3
  have hv := Option.some.inj h3
  subst hv
  obtain ⟨cs, hT, hcs, hT1, hT2⟩ := h.tb
  have hT' : w'.heap[T]? = some (.cells cs 69 (0, 0)) := by rw [hg.block T (lt_of_block hT) (fun e => by cases e; rw [hitb] at hT; cases hT)]; exact hT
  have hnp := hT1 p hp (Or.inr hl)
  have hitb' := (ranges_blk hrg).2
  have hgbb' := (ranges_blk hrg).1
  refine ⟨p, rb, (sel FF p).length, cap, (sel FF p).map pr, rfl, hp, rfl, List.length_pos_iff.2 hne, by have := sel_len FF p; omega, (h4.lt rb rfl).2, ?_, lt_of_block hT', by simp [World.cell?, hT', hnp], by simp [World.frozen?, hT'], ?_⟩
  · intro i hi
    have hi' := List.getElem?_eq_getElem hi
    refine ⟨pr (sel FF p)[i], by rw [List.getElem?_map, hi']; rfl, (hsrv' _ (List.mem_filter.1 (List.getElem_mem hi)).1).1, fun t u ht => ?_⟩
    exact own_cell h4 (flat7 _ i _ t u hi' ht)
  · intro w1 s hB hD
    have hBs := hB.size
    have h1T : w1.heap[T]? = some (.cells cs 69 (0, 0)) := by rw [hB.block T (lt_of_block hT')]; exact hT'
    have hblk : ∀ b, b < w'.heap.size → b ≠ T → (w1.setCell ⟨T, p, none⟩ (.pointer (some ⟨w'.heap.size, 0, none⟩))).heap[b]? = w'.heap[b]? := fun b hb hne => (Below.heap_setCell _ _ _ _ hne).trans (hB.block b hb)
    have hssz : (w1.setCell ⟨T, p, none⟩ (.pointer (some ⟨w'.heap.size, 0, none⟩))).heap.size = w1.heap.size := by simp
    have hS : Below 0 w1 (w1.setCell ⟨T, p, none⟩ (.pointer (some ⟨w'.heap.size, 0, none⟩))) := (Below.refl 0 w1).setCell (Nat.zero_le _) _
    have hgr : w'.grownBy (w1.setCell ⟨T, p, none⟩ (.pointer (some ⟨w'.heap.size, 0, none⟩))) (some T) := ⟨hS.os.trans hB.os, hS.tape.trans hB.tape, hS.output.trans hB.output, by rw [hssz]; exact hB.size, fun b hb hne => hblk b hb (by simpa using hne)⟩
    have hnT : ∀ b, some T = some b → ∀ cur t z, t ≠ 69 → w'.heap[b]? ≠ some (.cells cur t z) := fun b e cur t z ht => by cases e; rw [hT']; intro e; cases e; exact ht rfl
    have hgbT : gb ≠ T := by intro e; obtain ⟨es, k, hh⟩ := hgbb'; rw [e, hT'] at hh; cases hh
    have hitT : it ≠ T := by intro e; obtain ⟨a, b, k, hh⟩ := hitb'; rw [e, hT'] at hh; cases hh
    exact {
      os := hgr.os.trans (hg.os.trans h.os)
      tape := hgr.tape.trans (hg.tape.trans h.tape)
      output := hgr.output.trans (hg.output.trans h.output)
      size := Nat.le_trans h.size (Nat.le_trans hg.size hgr.size)
      old := fun b hb h5 h6 => by
        have hb' : b < wr.heap.size := Nat.lt_of_lt_of_le hb h.size
        rw [hblk b (by omega) h6, hg.block b hb' (by simp; have := h.itl; omega)]
        exact h.old b hb h5 h6
      rng := hrg.kept hgr (by simpa using hgbT) (by simpa using hitT)
      sub := fun kl hk => h.sub kl (by simp at hk; exact hk.1)
      reads := h.reads
      gbl := h.gbl
      itl := h.itl
      tlt := h.tlt
      rows := hrows'.kept hgr (fun b e cur => hnT b e cur 83 (0, 0) (by decide))
      srv := fun r hr => ⟨(hsrv' r hr).1, (hsrv' r hr).2.kept hgr (fun b e cur z => hnT b e cur 47 z (by decide))⟩
      tb := by
        refine ⟨cs.setIfInBounds p (.pointer (some ⟨w'.heap.size, 0, none⟩)), block_setCell h1T p _, by simp [hcs], fun q hq hc => ?_, fun q v hq hv hc => ?_⟩
        · have hqp : q ≠ p := by
            rintro rfl
            rcases hc with hc | hc
            · rw [hu] at hc; cases hc
            · have hk : WideAt.IsKeyLit (Lit.int .u32 (q : Int)) := trivial
              simp [WideAt.sameKey_self hk] at hc
          rw [Array.getElem?_setIfInBounds_ne (fun e => hqp e.symm)]
          refine hT1 q hq ?_
          rcases hc with hc | hc
          · exact Or.inl hc
          · simp at hc; exact Or.inr hc.1
        · by_cases hqp : q = p
          · subst hqp
            rw [hu] at hv
            cases hv
            refine ⟨w'.heap.size, s, ?_, ?_⟩
            · rw [Array.getElem?_setIfInBounds_self_of_lt (by omega)]
            · rw [Below.heap_setCell _ _ _ _ (Nat.ne_of_gt (lt_of_block hT'))]; exact hD
          · have hlq : left (.int .u32 q) = false := by
              have hs : (Lit.int .u32 (q : Int)).sameKey (.int .u32 (p : Int)) = false := Maps.sameKey_ne (fun e => hqp (by injection e with _ e; omega))
              simpa [hs] using hc
            obtain ⟨db, s', h5, h6⟩ := hT2 q v hq hv hlq
            refine ⟨db, s', by rw [Array.getElem?_setIfInBounds_ne (fun e => hqp e.symm)]; exact h5, ?_⟩
            have h6' : w'.heap[db]? = some (.cells #[v, .int .u16 s'] 81 (0, 0)) := by rw [hg.block db (lt_of_block h6) (fun e => by cases e; rw [hitb] at h6; cases h6)]; exact h6
            rw [hblk db (lt_of_block h6') (fun e => by rw [e, hT'] at h6'; cases h6')]
            exact h6' }

/-- A server's context, read off the world. -/
def rcAt (w : World) (b : Nat) : Int := match w.cell? ⟨b, 1, none⟩ with
  | some (.int .u32 n) => n
  | _ => 0
theorem rcAt_srv {w : World} {b : Nat} {rc : Int} (h : Srv w b rc) : rcAt w b = rc := by unfold rcAt; rw [h.cell]

/-- All laid: the table. -/
theorem TRel.tab {w0 wr : World} {T sb gb it : Nat} {FF : List R3} {g : Nat → Option Value} {D : DataW Value} {c cnt : Nat} {left : Lit → Bool} (h : TRel w0 T sb gb it FF g D c left cnt wr) (hlen : FF.length ≤ 100000) (hl : ∀ kl, left kl = false) :
    Tab T (fun p => (sel FF p).map pr) (rcAt wr) wr := by
  obtain ⟨cs, hT, hcs, hT1, hT2⟩ := h.tb
  refine ⟨lt_of_block hT, fun p hp h0 => ?_, fun p hp h0 => ?_, fun p r hr => ?_, fun p => ?_⟩
  · have := hT1 p hp (Or.inl (h.rows.none_ p hp (by simpa using h0)))
    simp [World.cell?, hT, this]
  · have hne : sel FF p ≠ [] := by simpa using h0
    obtain ⟨rb, cap, h1, h2⟩ := h.rows.some_ p hp hne
    obtain ⟨db, s, h3, h4⟩ := hT2 p _ hp h1 (hl _)
    refine ⟨db, rb, cap, s, lt_of_block h4, (h2.lt rb rfl).2, by simp [World.cell?, hT, h3], by rw [List.length_map]; exact h4, fun i hi => ?_⟩
    rw [List.length_map] at hi
    have hi' := List.getElem?_eq_getElem hi
    refine ⟨pr (sel FF p)[i], by rw [List.getElem?_map, hi']; rfl, (h.srv _ (List.mem_filter.1 (List.getElem_mem hi)).1).1, fun t u ht => ?_⟩
    exact own_cell h2 (flat7 _ i _ t u hi' ht)
  · obtain ⟨x, hx, rfl⟩ := List.mem_map.1 hr
    have hs := (h.srv x (List.mem_filter.1 hx).1).2
    refine ⟨hs.lt, ?_⟩
    show wr.cell? ⟨x.2.1, 1, none⟩ = some (.int .u32 (rcAt wr x.2.1))
    rw [rcAt_srv hs]
    exact hs.cell
  · rw [List.length_map]
    have := sel_len FF p
    omega
end Go.Proofs.Ybulkaily
