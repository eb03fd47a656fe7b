/-
  The law's walk (function 3).
-/
import Derived.Test.YbulkailyFmtList
import Derived.LaidEql
namespace Go.Proofs.YbulkailyFmt
open Go.RowKit Go.Extern.Stop Go.Stop Go.Extern

theorem law_long (a : Option Addr) (len cap : Nat) (s fail : Int) (w : World) (hlen : 1024 < len) (hm : len ≤ maxLen) :
    Calls Ybaf.prog 3 #[.slice a len cap, .int .u8 s, .int .u16 fail] w fun e w' => e = .returned (.bool true) ∧ Below w.heap.size w w' := by
  unfold maxLen at hm
  go_enter Ybaf.func3, Ybaf.ntmps3
  go_wp2
  go_ret
  exact ⟨rfl, (Below.refl _ _).alloc (Nat.le_refl _) _⟩

theorem eql30 (a : Option Addr) (n c : Nat) (w : World) : (binOp .eql 30 (.slice a n c) (.slice none 0 0)).run Ybaf.prog w = .ok (.bool a.isNone) w :=
  Lib.run_eql_slice_nil w 30 27 a n c 0 0 Ybaf.underlying30

theorem bcell {W w1 : World} (hb : Below W.heap.size W w1) : (∀ b o, b < W.heap.size → w1.cell? ⟨b, o, none⟩ = W.cell? ⟨b, o, none⟩) :=
  fun b o h => hb.cell (p := ⟨b, o, none⟩) h

set_option maxHeartbeats 1600000 in
theorem law_bad (F : Interp) (a : Option Addr) (len cap : Nat) (s fail : Int) (size n : Nat) (w : World) (hF : F.answers w.tape) (hlen : len ≤ 1024) 
    (hsz : s % 8 + 1 = (size : Int)) (hs1 : 1 ≤ size) (hs8 : size ≤ 8) (hs0 : 0 ≤ s) (hs255 : s ≤ 255) (hf0 : 0 ≤ fail) (hf1 : fail ≤ 65535) (hdiv : (len : Int) / (size : Int) = (n : Int))
    (hbad : len = 0 ∨ (len % size ≠ 0)) :
    Calls Ybaf.prog 3 #[.slice a len cap, .int .u8 s, .int .u16 fail] w fun e w' => e = .returned (.bool true) ∧ Below w.heap.size w w' := by
  have hmf : ∀ (fn : Fn) (first cap : Array Value) (w : World), (Instr.makeFunc fn first cap).run Ybaf.prog w = .ok (.func fn first cap) w := fun _ _ _ _ => rfl
  have hn : n ≤ 1024 := by
    have : (len : Int) / (size : Int) ≤ len := Int.ediv_le_self _ (by omega)
    omega
  have HB : Hid (len = 0 ∨ (len % size ≠ 0)) := hbad
  have he := eql30
  have hcase : ((len : Int) == 0) = true ∨ (((len : Int) == 0) = false ∧ ((len : Int) % (size : Int) != 0) = true) := by
    by_cases h0 : len = 0
    · exact Or.inl (by simp [h0])
    · refine Or.inr ⟨by simp; exact h0, ?_⟩
      rw [bne_iff_ne]; omega
  clear hbad
  have hob : (fail % 2 == 1) = true ∨ (fail % 2 == 1) = false := by cases (fail % 2 == 1) <;> simp
  rcases hob with hob | hob
  all_goals
    go_enter Ybaf.func3, Ybaf.ntmps3
    go_wp2_with (go_at_call 4; refine (new_any _ _).mono ?_; rintro e w' ⟨rfl, rfl⟩)
    refine (list_bad F a len cap size _ _ (by exact hF) hlen hs1 hs8 HB.out).mono ?_
    rintro e w1 ⟨⟨g, rfl⟩, hb1⟩
    have c0 : w1.cell? ⟨w.heap.size, 0, none⟩ = some (.slice a len cap) := by rw [hb1.cell (by simp <;> omega)]; simp [go_sem]
    have c1 : w1.cell? ⟨w.heap.size + 1, 0, none⟩ = some (.int .i64 size) := by rw [hb1.cell (by simp <;> omega)]; simp [go_sem]
    have c5 : w1.cell? ⟨w.heap.size + 1 + 1 + 1 + 1 + 1, 0, none⟩ = some (.int .i64 0) := by rw [hb1.cell (by simp)]; simp [go_sem]
    have hB : Below w.heap.size w w1 := by
      refine Below.trans ?_ (hb1.mono (by simp <;> omega))
      exact ((((((((Below.refl _ _).alloc (Nat.le_refl _) _).alloc (by simp) _).alloc (by simp <;> omega) _).alloc (by simp <;> omega) _).alloc (by simp <;> omega) _).alloc (by simp <;> omega) _).alloc (by simp <;> omega) _)
    clear hb1
    rcases hcase with hc | ⟨hc, hc'⟩
    all_goals
      go_wp2
      go_ret
      exact ⟨rfl, hB⟩

/-- The world at the call of list. -/
theorem env_of (b off len cap : Nat) (l : List Int) (size : Nat) (fa : Int) (s : ByteArray) (w : World) (hb : b < w.heap.size)
    (hc : ∀ j, j < len → w.cell? ⟨b, off + j, none⟩ = some (.int .u8 (l.getD j 0))) :
    Env w.heap.size b off len cap l size fa 0 (((((((w.alloc (.cells #[.slice (some ⟨b, off, none⟩) len cap] 22)).alloc (.cells #[.int .i64 size] 3)).alloc (.cells #[.int .i64 fa] 3)).alloc (.cells #[.string s] 36)).alloc (.cells #[.iface 34 (.pointer (some ⟨w.heap.size + 1 + 1 + 1, 0, none⟩))] 25)).alloc (.cells #[.int .i64 0] 3)).alloc (.cells #[.bool false] 4)) where
  cb := by simp [go_sem]
  cs := by simp [go_sem]
  cf := by simp [go_sem]
  ce := by simp [go_sem]
  cc := by simp [go_sem]
  fc := by simp [go_sem]
  cd := by simp [go_sem]
  bytes := fun j hj => by
    have h := hc j hj
    have h0 : b < w.heap.size + 1 := by omega
    have h1 : b < w.heap.size + 1 + 1 := by omega
    have h2 : b < w.heap.size + 1 + 1 + 1 := by omega
    have h3 : b < w.heap.size + 1 + 1 + 1 + 1 := by omega
    have h4 : b < w.heap.size + 1 + 1 + 1 + 1 + 1 := by omega
    have h5 : b < w.heap.size + 1 + 1 + 1 + 1 + 1 + 1 := by omega
    simp [go_sem, World.cell?_alloc_past, hb, h0, h1, h2, h3, h4, h5, h]
end Go.Proofs.YbulkailyFmt
