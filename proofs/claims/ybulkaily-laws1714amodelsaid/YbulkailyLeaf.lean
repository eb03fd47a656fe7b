/-
  The leaf functions by their contracts: pick, pop, OnesCount8, named, Matches, sis.
-/
import Derived.Test.YbulkailyRows
import Derived.WalkKit
import Derived.WalkSpells
import Derived.WalkLawsBesides
import Derived.Lib.BitFns
namespace Go.Proofs.Ybulkaily
open Go.RowKit

/-- A routing key. -/
structure K where
  dpc : Int
  opc : Int
  si : Int
  lo : Int
  hi : Int
  parts : Int

/-- Its six cells. -/
def K.cells (k : K) : List Value := [.int .u32 k.dpc, .int .u32 k.opc, .int .u8 k.si, .int .u16 k.lo, .int .u16 k.hi, .int .u8 k.parts]
/-- .. as a value. -/
def K.val (k : K) : Value := .agg #[.int .u32 k.dpc, .int .u32 k.opc, .int .u8 k.si, .int .u16 k.lo, .int .u16 k.hi, .int .u8 k.parts]
/-- .. as a new block. -/
def K.obj (k : K) : Obj := .cells #[.int .u32 k.dpc, .int .u32 k.opc, .int .u8 k.si, .int .u16 k.lo, .int .u16 k.hi, .int .u8 k.parts] 44

/-- The bounds of its numbers. -/
structure K.Ok (k : K) : Prop where
  d0 : 0 ≤ k.dpc
  d1 : k.dpc ≤ 4294967295
  o0 : 0 ≤ k.opc
  o1 : k.opc ≤ 4294967295
  s0 : 0 ≤ k.si
  s1 : k.si ≤ 255
  l0 : 0 ≤ k.lo
  l1 : k.lo ≤ 65535
  h0 : 0 ≤ k.hi
  h1 : k.hi ≤ 65535
  p0 : 0 ≤ k.parts
  p1 : k.parts ≤ 255

/-- Does the key name the part? -/
def bitB (p : Int) (m : Int) : Bool := bits .and .u8 p m != 0

/-- The count of bits, of the first k. -/
def popL (p : Int) : Nat → Nat
  | 0 => 0
  | k + 1 => popL p k + if bits .and .u8 p (2 ^ k % 256) != 0 then 1 else 0
theorem popL_le (p : Int) : ∀ k, popL p k ≤ k
  | 0 => Nat.le_refl _
  | k + 1 => by have := popL_le p k; unfold popL; split <;> omega

theorem pop_eq : ∀ n : Fin 256, popL (n.val : Int) 8 = Lib.onesCount n.val := by decide +kernel

theorem pop_any (p : Int) (w : World) (h0 : 0 ≤ p) (h1 : p ≤ 255) :
    Calls Yba.prog 11 #[.int .u8 p] w fun e w' => e = .returned (.int .i64 (Lib.onesCount p.toNat)) ∧ w' = w := by
  have he : popL p 8 = Lib.onesCount p.toNat := by
    have := pop_eq ⟨p.toNat, by omega⟩
    simp only [Int.toNat_of_nonneg h0] at this
    exact this
  rw [← he]
  clear he
  go_enter Yba.func11, Yba.ntmps11
  go_wp2
  go_loop [3, 4] (fun n i => ∃ k : Nat, k ≤ 8 ∧ n = .int .i64 (popL p k) ∧ i = .int .i64 k) (fun _ i => 8 - (intOf i).toNat)
  case atStart => exact ⟨0, by omega, rfl, rfl⟩
  case round =>
    obtain ⟨k, hk, rfl, rfl⟩ := hrel
    have hp := popL_le p k
    by_cases hlt : k < 8
    · have hcase : (bits .and .u8 p (2 ^ k % 256) != 0) = true ∨ (bits .and .u8 p (2 ^ k % 256) != 0) = false := by cases (bits .and .u8 p (2 ^ k % 256) != 0) <;> simp
      have HS : Hid (popL p (k + 1) = popL p k + if bits .and .u8 p (2 ^ k % 256) != 0 then 1 else 0) := rfl
      rcases hcase with hb | hb
      · have HE : Hid (popL p (k + 1) = popL p k + 1) := by show _ = _; rw [HS.out, hb]; rfl
        go_wp2
        go_round
        case rel => exact ⟨k + 1, by omega, by rw [HE.out]; go_num, by go_num⟩
        case measure => simp [intOf]; omega
      · have HE : Hid (popL p (k + 1) = popL p k) := by show _ = _; rw [HS.out, hb]; rfl
        go_wp2
        go_round
        case rel => exact ⟨k + 1, by omega, by rw [HE.out], by go_num⟩
        case measure => simp [intOf]; omega
    · obtain rfl : k = 8 := by omega
      go_wp2
      go_ret
      exact ⟨rfl, rfl⟩

set_option maxRecDepth 100000 in
set_option maxHeartbeats 1600000 in
theorem ones_any (p : Int) (w : World) (h0 : 0 ≤ p) (h1 : p ≤ 255) :
    Calls Yba.prog 21 #[.int .u8 p] w fun e w' => e = .returned (.int .i64 (Lib.onesCount p.toNat)) ∧ w' = w := by
  have e : wrap64 (Lib.pop8 p) = (Lib.onesCount p.toNat : Int) := by unfold wrap64; exact Lib.pop8_int p h0 h1
  rw [← e]
  clear e
  go_enter Yba.func21, Yba.ntmps21
  go_wp2
  go_ret
  exact ⟨rfl, rfl⟩

/-- pick. -/
def pickV (sel ex ag raw : Int) : Int := if sel % 3 = 0 then ex else if sel % 3 = 1 then ag else raw
theorem pick_any (sel ex ag raw : Int) (w : World) (h0 : 0 ≤ sel) (h1 : sel ≤ 255) :
    Calls Yba.prog 8 #[.int .u8 sel, .int .u32 ex, .int .u32 ag, .int .u32 raw] w fun e w' => e = .returned (.int .u32 (pickV sel ex ag raw)) ∧ w = w' := by
  unfold pickV
  by_cases c0 : sel % 3 = 0
  · rw [if_pos c0]
    have hb : (sel % 3 == 0) = true := by simp [c0]
    clear c0
    go_enter Yba.func8, Yba.ntmps8
    go_wp2
    go_ret
    exact ⟨rfl, rfl⟩
  · rw [if_neg c0]
    have hb : (sel % 3 == 0) = false := by simp [c0]
    by_cases c1 : sel % 3 = 1
    · rw [if_pos c1]
      have hb1 : (sel % 3 == 1) = true := by simp [c1]
      clear c0 c1
      go_enter Yba.func8, Yba.ntmps8
      go_wp2
      go_ret
      exact ⟨rfl, rfl⟩
    · rw [if_neg c1]
      have hb1 : (sel % 3 == 1) = false := by simp [c1]
      clear c0 c1
      go_enter Yba.func8, Yba.ntmps8
      go_wp2
      go_ret
      exact ⟨rfl, rfl⟩

/-- How many parts the key names, its DPC counted. -/
def named (k : K) : Int := 1 + (Lib.onesCount k.parts.toNat : Int)

theorem ones_le (p : Int) (h0 : 0 ≤ p) (h1 : p ≤ 255) : Lib.onesCount p.toNat ≤ 8 := by
  have := Lib.onesCount_le8 ⟨p.toNat, by omega⟩
  exact this

theorem named_any (k : K) (w : World) (hk : k.Ok) :
    Calls Yba.prog 17 #[k.val] w fun e w' => e = .returned (.int .i64 (named k)) ∧ w' = w.alloc k.obj := by
  have h0 := hk.p0
  have h1 := hk.p1
  have hl := ones_le k.parts h0 h1
  unfold K.val K.obj named
  go_enter Yba.func17, Yba.ntmps17
  go_wp2_with (go_at_call 21; refine (ones_any k.parts _ h0 h1).mono ?_; rintro e w' ⟨rfl, rfl⟩)
  go_ret
  exact ⟨rfl, rfl⟩

/-- Does the key match the ISUP message? -/
def matchB (k : K) (D O C : Int) : Bool :=
  !(D != k.dpc) && !(bitB k.parts 1 && (O != k.opc)) && !(bitB k.parts 2 && ((5 : Int) != k.si)) && !(bitB k.parts 4 && (decide (C < k.lo) || decide (k.hi < C)))

/-- A message's block. -/
def msgObj (D O C : Int) : Obj := .cells #[.int .u32 D, .int .u32 O, .int .u8 5, .int .u16 C, .bool true] 51
def msgVal (D O C : Int) : Value := .agg #[.int .u32 D, .int .u32 O, .int .u8 5, .int .u16 C, .bool true]

end Go.Proofs.Ybulkaily
