/-
  For 'add': the appends it makes, the routes gathered so far.
-/
import Derived.Test.YbulkailyGrow
namespace Go.Proofs.Ybulkaily
open Go.RowKit

theorem z83 : Yba.prog.info? 83 = some Yba.t83 := by kernel_rfl

theorem flat6_inv : ∀ (ks : List K) (j : Nat) (u : Value), (ks.flatMap K.cells)[j]? = some u → ∃ t k s, ks[t]? = some k ∧ k.cells[s]? = some u ∧ j = t * 6 + s
  | [], j, u, h => by simp at h
  | k0 :: ks, j, u, h => by
    have hl : k0.cells.length = 6 := rfl
    by_cases hj : j < 6
    · rw [List.flatMap_cons, List.getElem?_append_left (by omega)] at h
      exact ⟨0, k0, j, rfl, h, by omega⟩
    · rw [List.flatMap_cons, List.getElem?_append_right (by omega), hl] at h
      obtain ⟨t, k, s, h1, h2, h3⟩ := flat6_inv ks (j - 6) u h
      exact ⟨t + 1, k, s, by simpa using h1, h2, by omega⟩

theorem flat6_len (ks : List K) : (ks.flatMap K.cells).length = ks.length * 6 := by
  induction ks with
  | nil => rfl
  | cons k ks ih => rw [List.flatMap_cons, List.length_append, ih]; simp [K.cells]; omega

/-- The keys of a server of the table: a block of its own, or nil. -/
def KeysB (w : World) (o : Option Addr) (ks : List K) : Prop := ∀ j k, ks[j]? = some k → ∃ g cur, o = some ⟨g, 0, none⟩ ∧ w.heap[g]? = some (.cells cur 44 (0, 0)) ∧ ∀ t v, k.cells[t]? = some v → cur[j * 6 + t]? = some v

theorem KeysB.kept {w w' : World} {o : Option Addr} {ks : List K} {row : Option Nat} (h : KeysB w o ks) (hg : w.grownBy w' row) (hrow : ∀ b, row = some b → ∀ cur, w.heap[b]? ≠ some (.cells cur 44 (0, 0))) : KeysB w' o ks := by
  intro j k hk
  obtain ⟨g, cur, h1, h2, h3⟩ := h j k hk
  exact ⟨g, cur, h1, (hg.block g (lt_of_block h2) (fun e => hrow g e.symm cur h2)).trans h2, h3⟩

theorem KeysB.cell {w : World} {o : Option Addr} {ks : List K} (h : KeysB w o ks) {j : Nat} {k : K} (hk : ks[j]? = some k) : ∃ g, o = some ⟨g, 0, none⟩ ∧ g < w.heap.size ∧ ∀ t v, k.cells[t]? = some v → w.cell? ⟨g, j * 6 + t, none⟩ = some v := by
  obtain ⟨g, cur, h1, h2, h3⟩ := h j k hk
  refine ⟨g, h1, lt_of_block h2, fun t v ht => ?_⟩
  simp [World.cell?, h2, h3 t v ht]

/-- The copy of a server's keys. -/
theorem append_copy (W : World) (kb cap n : Nat) (ks : List K) (hn : ks.length = n) (hn2 : n ≤ 1000) (hk : ∀ j, j < n → ∃ k, ks[j]? = some k ∧ KeyAt kb j k W) :
    ∃ o kc w', (Builtin.append_ #[38, 38] 38 #[.slice none 0 0, .slice (some ⟨kb, 0, none⟩) n cap]).run Yba.prog W = .ok (.slice o n kc) w' ∧ W.grownBy w' none ∧ KeysB w' o ks := by
  obtain ⟨v', w', hr, h1, h2, _, _⟩ := run_append_own_at (P := Yba.prog) W 0 38 38 44 Yba.t44 _ 6 16 Yba.underlying38 z44 rfl rfl rfl rfl (by decide) (.slice none 0 0) 0 [] (World.ownsRow_nil _ _ _ _) ⟨kb, 0, none⟩ n cap (ks.flatMap K.cells)
    (by rw [flat6_len, hn]) (fun j u hu => by
      obtain ⟨t, k, s, a, b, rfl⟩ := flat6_inv ks j u hu
      obtain ⟨k', a', c⟩ := hk t (by rw [← hn]; exact (List.getElem?_eq_some_iff.1 a).1)
      rw [a] at a'
      cases a'
      have hadd : (⟨kb, 0, none⟩ : Addr).add (t * 6 + s) = ⟨kb, t * 6 + s, none⟩ := by unfold Addr.add; split <;> simp_all
      rw [hadd]
      exact c s u b)
    (fun u hu => by
      obtain ⟨k, _, hk⟩ := List.mem_flatMap.1 hu
      simp [K.cells] at hk
      rcases hk with rfl | rfl | rfl | rfl | rfl | rfl <;> rfl)
    (by unfold maxLen; omega) (by omega) (by omega)
  rw [Nat.zero_add, List.nil_append] at h1
  rcases h1.2 with ⟨rfl, hn0⟩ | ⟨g, kc, cur, rfl, _, hb, _, _, _, htk⟩
  · subst hn0
    refine ⟨none, 0, w', hr, h2, fun j k hk => ?_⟩
    have := (List.getElem?_eq_some_iff.1 hk).1
    omega
  · refine ⟨some ⟨g, 0, none⟩, kc, w', hr, h2, fun j k hk => ⟨g, cur, rfl, hb, fun t v ht => ?_⟩⟩
    have h3 := flat6 ks j k t v hk ht
    rw [← htk, List.getElem?_take] at h3
    split at h3
    · simpa using h3
    · cases h3

/-- A route appended to a row. -/
theorem append_route (A : World) (base n : Nat) (v : Value) (xs : List Value) (hown : A.ownsRow base 83 7 v n xs) (hb : base ≤ A.heap.size) (hn : n ≤ 1000000) (d o si l h pp : Int) (s : Nat) :
    ∃ g cap w', (Builtin.append_ #[76, 76] 76 #[v, .slice (some ⟨A.heap.size, 0, none⟩) 1 1]).run Yba.prog (A.drew.alloc (.cells #[.int .u32 d, .int .u32 o, .int .u8 si, .int .u16 l, .int .u16 h, .int .u8 pp, .pointer (some ⟨s, 0, none⟩)] 83)) = .ok (.slice (some ⟨g, 0, none⟩) (n + 1) cap) w' ∧
      w'.ownsRow base 83 7 (.slice (some ⟨g, 0, none⟩) (n + 1) cap) (n + 1) (xs ++ [.int .u32 d, .int .u32 o, .int .u8 si, .int .u16 l, .int .u16 h, .int .u8 pp, .pointer (some ⟨s, 0, none⟩)]) ∧
      (A.drew.alloc (.cells #[.int .u32 d, .int .u32 o, .int .u8 si, .int .u16 l, .int .u16 h, .int .u8 pp, .pointer (some ⟨s, 0, none⟩)] 83)).grownBy w' v.ownBlock ∧ (v.ownBlock = some g ∨ g = A.heap.size + 1) ∧ g < w'.heap.size := by
  refine run_append_lies (P := Yba.prog) _ 76 76 base 83 Yba.t83 _ 7 24 Yba.underlying76 z83 rfl rfl rfl rfl (by decide) v n xs ?_ ⟨A.heap.size, 0, none⟩ 1 1 _ rfl ?_ ?_ (by decide) (by unfold maxLen; omega) (by omega) (by simp; omega) (A.heap.size + 1) (by simp)
  · exact World.ownsRow.alloc (w := A.drew) hown _
  · exact World.news_of_block (heap_alloc_new A.drew _)
  · intro u hu
    simp at hu
    rcases hu with rfl | rfl | rfl | rfl | rfl | rfl | rfl <;> rfl

/-- All keys in their order, each with its server's context. -/
def flat (L : List (Int × List K)) : List (K × Int) := L.flatMap fun x => x.2.map fun k => (k, x.1)
/-- Those that the table tries. -/
def near (l : List (K × Int)) : List (K × Int) := l.filter fun r => decide (r.1.dpc ≤ 16383)
def rcs (FF : List R3) : List (K × Int) := FF.map fun r => (r.1, r.2.2)

theorem flat_succ {L : List (Int × List K)} {i : Nat} {x : Int × List K} (h : L[i]? = some x) : flat (L.take (i + 1)) = flat (L.take i) ++ x.2.map fun k => (k, x.1) := by
  obtain ⟨hlt, he⟩ := List.getElem?_eq_some_iff.1 h
  unfold flat
  rw [List.take_succ_eq_append_getElem hlt, List.flatMap_append, he]
  simp
theorem near_near {l : List (K × Int)} {ks : List K} {j : Nat} {k : K} {rc : Int} (h : ks[j]? = some k) (hk : k.dpc ≤ 16383) : near (l ++ (ks.take (j + 1)).map fun k => (k, rc)) = near (l ++ (ks.take j).map fun k => (k, rc)) ++ [(k, rc)] := by
  obtain ⟨hlt, he⟩ := List.getElem?_eq_some_iff.1 h
  unfold near
  rw [List.take_succ_eq_append_getElem hlt, List.map_append, ← List.append_assoc, List.filter_append, he]
  simp [hk]
theorem near_far {l : List (K × Int)} {ks : List K} {j : Nat} {k : K} {rc : Int} (h : ks[j]? = some k) (hk : 16383 < k.dpc) : near (l ++ (ks.take (j + 1)).map fun k => (k, rc)) = near (l ++ (ks.take j).map fun k => (k, rc)) := by
  obtain ⟨hlt, he⟩ := List.getElem?_eq_some_iff.1 h
  unfold near
  rw [List.take_succ_eq_append_getElem hlt, List.map_append, ← List.append_assoc, List.filter_append, he]
  have : ¬ k.dpc ≤ 16383 := by omega
  simp [this]

/-- What the outer loop knows. -/
structure ORel (w0 : World) (T sb gb : Nat) (L : List (Int × List K)) (i : Nat) (FF : List R3) (wr : World) : Prop where
  st : St w0 T sb gb FF (i * 300 + 1) wr
  rc : rcs FF = near (flat (L.take i))
  len : FF.length ≤ i * 300
/-- What the inner loop knows. -/
structure IRel (w0 : World) (T sb gb : Nat) (L : List (Int × List K)) (i : Nat) (rc : Int) (ks : List K) (o : Option Addr) (s : Nat) (j : Nat) (FF : List R3) (wr : World) : Prop where
  st : St w0 T sb gb FF (i * 300 + 2 + j) wr
  kb : KeysB wr o ks
  srv : Srv wr s rc
  rc : rcs FF = near (flat (L.take i) ++ (ks.take j).map fun k => (k, rc))
  len : FF.length ≤ i * 300 + j

theorem IRel.out {w0 : World} {T sb gb : Nat} {L : List (Int × List K)} {i : Nat} {rc : Int} {ks : List K} {o : Option Addr} {s : Nat} {FF : List R3} {wr : World} (h : IRel w0 T sb gb L i rc ks o s ks.length FF wr) (hL : L[i]? = some (rc, ks)) (hl : ks.length ≤ 256) : ORel w0 T sb gb L (i + 1) FF wr where
  st := h.st.mono (by omega)
  rc := by rw [h.rc, flat_succ hL, List.take_length]
  len := by have := h.len; omega

theorem grownBy_drew (w : World) : w.grownBy w.drew none := ⟨rfl, rfl, rfl, Nat.le_refl _, fun _ _ _ => rfl⟩
theorem grown_none {a b c : World} {row : Option Nat} (h : a.grownBy b none) (k : b.grownBy c row) : a.grownBy c row := (h.but row).trans k

/-- A far key: a copy of it is laid, no more. -/
theorem IRel.skip {w0 : World} {T sb gb : Nat} {L : List (Int × List K)} {i : Nat} {rc : Int} {ks : List K} {o : Option Addr} {s j : Nat} {FF : List R3} {wr : World} (h : IRel w0 T sb gb L i rc ks o s j FF wr) {k : K} (hk : ks[j]? = some k) (hf : 16383 < k.dpc) (ob : Obj) : IRel w0 T sb gb L i rc ks o s (j + 1) FF (wr.alloc ob) where
  st := (h.st.grown (World.grownBy_alloc wr ob none)).mono (by omega)
  kb := h.kb.kept (World.grownBy_alloc wr ob none) (by simp)
  srv := h.srv.kept (World.grownBy_alloc wr ob none) (by simp)
  rc := by rw [h.rc, near_far hk hf]
  len := by have := h.len; omega

theorem sel_len (FF : List R3) (p : Nat) : (sel FF p).length ≤ FF.length := List.length_filter_le _ _

/-- A near key: the route it gives, gathered. -/
theorem IRel.step {w0 : World} {T sb gb : Nat} {L : List (Int × List K)} {i : Nat} {rc : Int} {ks : List K} {oo : Option Addr} {s j : Nat} {FF : List R3} {wr : World} (h : IRel w0 T sb gb L i rc ks oo s j FF wr) (hi : i ≤ 256) (hj : j ≤ 256) {p : Nat} {o si l hh pp : Int} (hk : ks[j]? = some ⟨p, o, si, l, hh, pp⟩) (hok : K.Ok ⟨p, o, si, l, hh, pp⟩) (hp : p ≤ 16383) :
    ∃ v b, (Instr.lookup 75 (.map (some gb)) (.int .u32 p) true).run Yba.prog (wr.alloc (.cells #[.int .u32 p, .int .u32 o, .int .u8 si, .int .u16 l, .int .u16 hh, .int .u8 pp] 44)) = .ok (.tuple #[v, .bool b]) (wr.alloc (.cells #[.int .u32 p, .int .u32 o, .int .u8 si, .int .u16 l, .int .u16 hh, .int .u8 pp] 44)) ∧
    ∃ v' w1 w2, (Builtin.append_ #[76, 76] 76 #[v, .slice (some ⟨wr.heap.size + 1, 0, none⟩) 1 1]).run Yba.prog ((wr.alloc (.cells #[.int .u32 p, .int .u32 o, .int .u8 si, .int .u16 l, .int .u16 hh, .int .u8 pp] 44)).drew.alloc (.cells #[.int .u32 p, .int .u32 o, .int .u8 si, .int .u16 l, .int .u16 hh, .int .u8 pp, .pointer (some ⟨s, 0, none⟩)] 83)) = .ok v' w1 ∧
      (Instr.mapUpdate 75 (.map (some gb)) (.int .u32 p) v').run Yba.prog w1 = .ok () w2 ∧
      IRel w0 T sb gb L i rc ks oo s (j + 1) (FF ++ [(⟨p, o, si, l, hh, pp⟩, s, rc)]) w2 ∧
      w1.heap[wr.heap.size]? = some (.cells #[.int .u32 p, .int .u32 o, .int .u8 si, .int .u16 l, .int .u16 hh, .int .u8 pp] 44) ∧
      w2.heap[wr.heap.size]? = some (.cells #[.int .u32 p, .int .u32 o, .int .u8 si, .int .u16 l, .int .u16 hh, .int .u8 pp] 44) := by
  obtain ⟨g, hgm, hrows⟩ := h.st.gm
  have hlen := h.len
  have hsl := sel_len FF p
  have gA := World.grownBy_alloc wr (.cells #[.int .u32 p, .int .u32 o, .int .u8 si, .int .u16 l, .int .u16 hh, .int .u8 pp] 44) none
  have hA : (wr.alloc (.cells #[.int .u32 p, .int .u32 o, .int .u8 si, .int .u16 l, .int .u16 hh, .int .u8 pp] 44)).heap[wr.heap.size]? = some (.cells #[.int .u32 p, .int .u32 o, .int .u8 si, .int .u16 l, .int .u16 hh, .int .u8 pp] 44) := heap_alloc_new _ _
  have hAs : (wr.alloc (.cells #[.int .u32 p, .int .u32 o, .int .u8 si, .int .u16 l, .int .u16 hh, .int .u8 pp] 44)).heap.size = wr.heap.size + 1 := by simp
  generalize hAe : wr.alloc (.cells #[.int .u32 p, .int .u32 o, .int .u8 si, .int .u16 l, .int .u16 hh, .int .u8 pp] 44) = A at *
  have gW : A.grownBy (A.drew.alloc (.cells #[.int .u32 p, .int .u32 o, .int .u8 si, .int .u16 l, .int .u16 hh, .int .u8 pp, .pointer (some ⟨s, 0, none⟩)] 83)) none := (grownBy_drew A).trans (World.grownBy_alloc _ _ _)
  have gWr : wr.grownBy (A.drew.alloc (.cells #[.int .u32 p, .int .u32 o, .int .u8 si, .int .u16 l, .int .u16 hh, .int .u8 pp, .pointer (some ⟨s, 0, none⟩)] 83)) none := gA.trans gW
  have hgA : Gm A gb _ g := hgm.kept gA (by simp)
  have hgW : Gm (A.drew.alloc (.cells #[.int .u32 p, .int .u32 o, .int .u8 si, .int .u16 l, .int .u16 hh, .int .u8 pp, .pointer (some ⟨s, 0, none⟩)] 83)) gb _ g := hgm.kept gWr (by simp)
  have hrA : Rows w0.heap.size FF g A := hrows.kept gA (by simp)
  have hrW := hrows.kept gWr (by simp)
  have hstW := h.st.grown gWr
  have hbase : w0.heap.size ≤ A.heap.size := by have := h.st.size; omega
  have hown : A.ownsRow w0.heap.size 83 7 ((g p).getD (.slice none 0 0)) (sel FF p).length ((sel FF p).flatMap fun r => routeCells (pr r)) := by
    by_cases hne : sel FF p = []
    · rw [hrA.none_ p hp hne, hne]
      exact World.ownsRow_nil _ _ _ _
    · obtain ⟨rb, cap, h1, h2⟩ := hrA.some_ p hp hne
      rw [h1]
      exact h2
  obtain ⟨gg, cap, w1, hr, ho, hg1, hga, _⟩ := append_route A w0.heap.size _ _ _ hown hbase (by omega) p o si l hh pp s
  obtain ⟨es, kk, hblk⟩ := hgW.blk
  have hnb : ∀ b, Value.ownBlock ((g p).getD (.slice none 0 0)) = some b → ∃ cur, A.heap[b]? = some (.cells cur 83 (0, 0)) := by
    intro b hb
    rcases hown.2 with ⟨e0, _⟩ | ⟨g', c', cur, e0, _, hh, _⟩
    · rw [e0] at hb; simp [Value.ownBlock] at hb
    · rw [e0] at hb; simp [Value.ownBlock] at hb; subst hb; exact ⟨cur, hh⟩
  have hnbW : ∀ b, Value.ownBlock ((g p).getD (.slice none 0 0)) = some b → ∃ cur, (A.drew.alloc (.cells #[.int .u32 p, .int .u32 o, .int .u8 si, .int .u16 l, .int .u16 hh, .int .u8 pp, .pointer (some ⟨s, 0, none⟩)] 83)).heap[b]? = some (.cells cur 83 (0, 0)) := by
    intro b hb
    obtain ⟨cur, hc⟩ := hnb b hb
    exact ⟨cur, (gW.block b (lt_of_block hc) (by simp)).trans hc⟩
  have hg1b : Gm w1 gb _ g := hgW.kept hg1 (fun e => by
    obtain ⟨cur, hc⟩ := hnbW gb e.symm
    rw [hblk] at hc
    cases hc)
  obtain ⟨w2, hr2, hgm2, hg2, hsz2⟩ := hg1b.put p (by omega) (by unfold maxLen; omega) (.slice (some ⟨gg, 0, none⟩) ((sel FF p).length + 1) cap)
  obtain ⟨es1, kk1, hblk1⟩ := hg1b.blk
  have hsrvW : Srv (A.drew.alloc (.cells #[.int .u32 p, .int .u32 o, .int .u8 si, .int .u16 l, .int .u16 hh, .int .u8 pp, .pointer (some ⟨s, 0, none⟩)] 83)) s rc := h.srv.kept gWr (by simp)
  have hb1 : w1.heap[wr.heap.size]? = some (.cells #[.int .u32 p, .int .u32 o, .int .u8 si, .int .u16 l, .int .u16 hh, .int .u8 pp] 44) := by
    have e1 := gW.block wr.heap.size (by omega) (by simp)
    rw [hg1.block wr.heap.size (by have := gW.size; omega) (fun e => by
      obtain ⟨cur, hc⟩ := hnb _ e.symm
      rw [hA] at hc
      cases hc), e1]
    exact hA
  have hb2 : w2.heap[wr.heap.size]? = some (.cells #[.int .u32 p, .int .u32 o, .int .u8 si, .int .u16 l, .int .u16 hh, .int .u8 pp] 44) := by
    rw [hg2.block wr.heap.size (lt_of_block hb1) (fun e => by
      simp at e
      rw [← e, hb1] at hblk1
      cases hblk1)]
    exact hb1
  refine ⟨_, _, hgA.look p (by omega), _, w1, w2, by rw [← hAs]; exact hr, hr2, ⟨?_, ?_, ?_, ?_, ?_⟩, hb1, hb2⟩
  · have hga' : Value.ownBlock ((g p).getD (.slice none 0 0)) = some gg ∨ gg = (A.drew.alloc (.cells #[.int .u32 p, .int .u32 o, .int .u8 si, .int .u16 l, .int .u16 hh, .int .u8 pp, .pointer (some ⟨s, 0, none⟩)] 83)).heap.size := by
      rcases hga with e | e
      · exact Or.inl e
      · exact Or.inr (by rw [e]; simp)
    have := St.route (r := (⟨p, o, si, l, hh, pp⟩, s, rc)) hstW hgW hrW hp rfl hok hsrvW ho hg1 hga' hgm2 hg2
    exact this.mono (by omega)
  · exact ((h.kb.kept gWr (by simp)).kept hg1 (fun b e cur => by obtain ⟨c, hc⟩ := hnbW b e; rw [hc]; intro e; cases e)).kept hg2 (fun b e cur => by cases e; rw [hblk1]; simp)
  · exact (hsrvW.kept hg1 (fun b e cur z => by obtain ⟨c, hc⟩ := hnbW b e; rw [hc]; intro e; cases e)).kept hg2 (fun b e cur z => by cases e; rw [hblk1]; simp)
  · have : rcs (FF ++ [(⟨p, o, si, l, hh, pp⟩, s, rc)]) = rcs FF ++ [(⟨p, o, si, l, hh, pp⟩, rc)] := by simp [rcs]
    rw [this, h.rc, near_near hk (by show (p : Int) ≤ 16383; omega)]
  · rw [List.length_append]; simp; omega
end Go.Proofs.Ybulkaily
