/- THE CALLEE 'columns' (function 4) BY ITS CONTRACT, and the plain law on columns. -/
import Derived.Test.YbulkesawRows
import Derived.WalkKit
import Derived.ProofKit
import Derived.Below
namespace Go.Proofs.Ybulkesaw
open Go.ChangeShapes Go.WideShapes Go.ChangeAt Go.RowKit
set_option linter.unusedVariables false

/-- What one byte adds to 'columns'. -/
def colAt (c : Int) : Int := if c = 9 then 8 else if bits .and .u8 c 192 = 128 then 0 else 1
def cols (z : Nat → Int) : Nat → Int
  | 0 => 0
  | k + 1 => cols z k + colAt (z k)
theorem colAt_bd (c : Int) : 0 ≤ colAt c ∧ colAt c ≤ 8 := by unfold colAt; split <;> (try split) <;> omega
theorem cols_bd (z : Nat → Int) (k : Nat) : 0 ≤ cols z k ∧ cols z k ≤ 8 * k := by
  induction k with
  | zero => simp [cols]
  | succ k ih => have := colAt_bd (z k); simp only [cols]; omega
theorem cols_tab (z : Nat → Int) (k : Nat) (h : (z k == 9) = true) : cols z k + 8 = cols z (k + 1) := by
  simp at h; simp [cols, colAt, h]
theorem cols_one (z : Nat → Int) (k : Nat) (h : (z k == 9) = false) (h2 : (bits BinOp.and IntKind.u8 (z k) 192 != 128) = true) : cols z k + 1 = cols z (k + 1) := by
  simp at h h2; simp [cols, colAt, h, h2]
theorem cols_no (z : Nat → Int) (k : Nat) (h : (z k == 9) = false) (h2 : (bits BinOp.and IntKind.u8 (z k) 192 != 128) = false) : cols z k = cols z (k + 1) := by
  simp at h h2; simp [cols, colAt, h, h2]
theorem int_congr {k : IntKind} {a b : Int} (h : a = b) : Value.int k a = .int k b := by rw [h]

set_option maxHeartbeats 400000 in
theorem columns_any (a : Option Addr) (len cap : Nat) (z : Nat → Int) (w : World) (hm : len ≤ 1048576)
    (hs : ∀ i, i < len → ∃ b off, a = some ⟨b, off, none⟩ ∧ ∀ j, j < len → w.cell? ⟨b, off + j, none⟩ = some (.int .u8 (z j))) :
    Calls Yba.prog 4 #[.slice a len cap] w fun e w' => e = .returned (.int .i64 (cols z len)) ∧ w = w' := by
  go_enter Yba.func4, Yba.ntmps4
  go_wp2
  go_loop [3, 8] (fun n i => ∃ k : Nat, k ≤ len ∧ i = .int .i64 k ∧ n = .int .i64 (cols z k)) (fun _ i => len - (intOf i).toNat)
  case atStart => exact ⟨0, Nat.zero_le _, rfl, rfl⟩
  case round =>
    obtain ⟨k, hk, rfl, rfl⟩ := hrel
    have hd := cols_bd z k
    by_cases hlt : k < len
    · obtain ⟨b, off, rfl, hc⟩ := hs k hlt
      have hck := hc k hlt
      go_wp2
      all_goals
        go_round
        case rel => exact ⟨k + 1, by omega, by go_num, int_congr (by first | exact cols_tab z k ‹_› | exact cols_one z k ‹_› ‹_› | exact cols_no z k ‹_› ‹_›)⟩
        case measure => simp [intOf]; omega
    · go_wp2
      go_ret
      obtain rfl : k = len := by omega
      exact ⟨rfl, rfl⟩

/-! ### The plain law: tabs and continuation bytes, counted apart -/
def tabs (z : Nat → Int) : Nat → Int
  | 0 => 0
  | k + 1 => tabs z k + if z k = 9 then 1 else 0
def cont (z : Nat → Int) : Nat → Int
  | 0 => 0
  | k + 1 => cont z k + if z k = 9 then 0 else if 128 ≤ z k ∧ z k < 192 then 1 else 0
theorem tabs_bd (z : Nat → Int) (k : Nat) : 0 ≤ tabs z k ∧ tabs z k ≤ k := by
  induction k with
  | zero => simp [tabs]
  | succ k ih => simp only [tabs]; split <;> omega
theorem cont_bd (z : Nat → Int) (k : Nat) : 0 ≤ cont z k ∧ cont z k ≤ k := by
  induction k with
  | zero => simp [cont]
  | succ k ih => simp only [cont]; split <;> (try split) <;> omega
theorem mask_iff (c : Int) (h0 : 0 ≤ c) (h1 : c ≤ 255) : bits .and .u8 c 192 = 128 ↔ (128 ≤ c ∧ c < 192) := by
  obtain ⟨n, rfl⟩ := Int.eq_ofNat_of_zero_le h0
  have hn : n < 256 := by omega
  rw [show (192 : Int) = ((192 : Nat) : Int) from rfl, u8_and_nat n 192 hn (by omega)]
  have key : ∀ m : Fin 256, (m.val &&& 192 = 128) ↔ (128 ≤ m.val ∧ m.val < 192) := by decide +kernel
  have := key ⟨n, hn⟩
  simp only at this
  omega
theorem cols_law (z : Nat → Int) (hz : ∀ j, 0 ≤ z j ∧ z j ≤ 255) (k : Nat) : cols z k = 8 * tabs z k + (k - tabs z k - cont z k) := by
  induction k with
  | zero => simp [cols, tabs, cont]
  | succ k ih =>
    have hm := mask_iff (z k) (hz k).1 (hz k).2
    simp only [cols, tabs, cont, ih, colAt]
    by_cases h9 : z k = 9
    · simp [h9]; omega
    · rw [if_neg h9, if_neg h9, if_neg h9]
      by_cases hc : 128 ≤ z k ∧ z k < 192
      · rw [if_pos (hm.2 hc), if_pos hc]; omega
      · rw [if_neg (fun h => hc (hm.1 h)), if_neg hc]; omega
end Go.Proofs.Ybulkesaw
