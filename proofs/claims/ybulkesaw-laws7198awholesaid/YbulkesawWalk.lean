/- THE LAW's WALK. -/
import Derived.Test.YbulkesawCols
import Derived.Laws.CopyOwn
import Derived.Deep.OwnRows
import Derived.Deep.QuietTactic
import Derived.BigQuiet
namespace Go.Proofs.Ybulkesaw
open Go.ChangeShapes Go.WideShapes Go.ChangeAt Go.RowKit
set_option linter.unusedVariables false

theorem Yba.info5 : (Yba.prog.info? 5).map (fun i => (i.zero, i.size, i.bytes)) = some (some (.int .u8 0), 1, 1) := by kernel_rfl
theorem Yba.size5 : (Yba.prog.info? 5).map (·.size) = some 1 := by kernel_rfl

/-- What the call is told of the bytes that came in. -/
def RowOf (w : World) (a : Option Addr) (len : Nat) (z : Nat → Int) : Prop :=
  ∀ i, i < len → ∃ b off, a = some ⟨b, off, none⟩ ∧ b < w.heap.size ∧ ∀ j, j < len → w.cell? ⟨b, off + j, none⟩ = some (.int .u8 (z j))
theorem RowOf.below {w w' : World} {a : Option Addr} {len : Nat} {z : Nat → Int} (h : RowOf w a len z) (hb : Below w.heap.size w w') : RowOf w' a len z := by
  intro i hi
  obtain ⟨b, off, ha, hlt, hc⟩ := h i hi
  exact ⟨b, off, ha, Nat.lt_of_lt_of_le hlt hb.size, fun j hj => (hb.cell (p := ⟨b, off + j, none⟩) hlt).trans (hc j hj)⟩

def bytesOf (z : Nat → Int) (len : Nat) : List Value := (List.range len).map fun j => .int .u8 (z j)
theorem bytesOf_length (z : Nat → Int) (len : Nat) : (bytesOf z len).length = len := by simp [bytesOf]
theorem bytesOf_at (z : Nat → Int) (len j : Nat) (v : Value) (h : (bytesOf z len)[j]? = some v) : j < len ∧ v = .int .u8 (z j) := by
  simp only [bytesOf, List.getElem?_map, Option.map_eq_some_iff] at h
  obtain ⟨k, hk, rfl⟩ := h
  rw [List.getElem?_eq_some_iff] at hk
  obtain ⟨h1, h2⟩ := hk
  simp at h1 h2
  subst h2
  exact ⟨h1, rfl⟩
theorem bytesOf_one (z : Nat → Int) (len : Nat) : ∀ v ∈ bytesOf z len, v.oneCell' = true := by
  intro v hv
  simp only [bytesOf, List.mem_map] at hv
  obtain ⟨j, _, rfl⟩ := hv
  rfl
theorem row_copied {w' : World} {g len : Nat} {z : Nat → Int} {Z : List Value} (hZ : Z.length = len) (h : w'.heap[g]? = some (.cells (splice Z 0 (bytesOf z len)).toArray 5 (0, 0))) :
    w'.rowIs g 5 len (fun j => .int .u8 (z j)) := by
  have hl := length_splice Z 0 (bytesOf z len) (by simp [bytesOf_length, hZ])
  refine ⟨_, h, by rw [List.size_toArray, hl, hZ], fun i hi => ?_⟩
  simp only [splice, List.take_zero, List.nil_append, List.getElem?_toArray]
  rw [List.getElem?_append_left (by simp [bytesOf_length, hi])]
  simp [bytesOf, hi]
theorem tabs_hit (z : Nat → Int) (k : Nat) (h : (z k == 9) = true) : tabs z k + 1 = tabs z (k + 1) ∧ cont z k = cont z (k + 1) := by
  simp at h; simp [tabs, cont, h]
theorem cont_hit (z : Nat → Int) (k : Nat) (h : (z k == 9) = false) (h1 : 128 ≤ z k) (h2 : z k < 192) : tabs z k = tabs z (k + 1) ∧ cont z k + 1 = cont z (k + 1) := by
  simp at h; simp [tabs, cont, h, h1, h2]
theorem none_hit (z : Nat → Int) (k : Nat) (h : (z k == 9) = false) (h1 : ¬ (128 ≤ z k ∧ z k < 192)) : tabs z k = tabs z (k + 1) ∧ cont z k = cont z (k + 1) := by
  simp at h
  simp only [tabs, cont, if_neg h, if_neg h1]; omega

set_option maxHeartbeats 400000 in
theorem law_core (a : Option Addr) (len cap : Nat) (z : Nat → Int) (w : World) (hcap : len ≤ 1048576) (hz : ∀ j, 0 ≤ z j ∧ z j ≤ 255) (hs : RowOf w a len z) :
    Calls Yba.prog 3 #[.slice a len cap] w fun e w' => e = .returned (.bool true) ∧ Below w.heap.size w w' := by
  have hmk := run_make_row' (P := Yba.prog) 22 5 (.int .u8 0) 1 Yba.underlying22 Yba.info5 rfl .i64 .i64 len (by omega) (by omega)
  have hd0 : decide ((1048576 : Int) < (len : Int)) = false := decide_eq_false (by omega)
  obtain ⟨L, hL⟩ : ∃ L, L = bytesOf z len := ⟨_, rfl⟩
  have HL : Hid (L = bytesOf z len) := hL
  clear hL
  go_enter Yba.func3, Yba.ntmps3
  go_wp2_with (refine wpList_copy_splice rfl (.tmp 17) (.tmp 18) 22 22 rfl 5 Yba.underlying22 Yba.size5 _ _ _ _ _ _ rfl rfl w.heap.size 0 (madeCells #[.int .u8 0] len).toList 5 ?qg L ?qn ?qpos ?qfit ?q1 w.heap.size w ?qb (Nat.le_refl _) ?_)
  case qg => show (w.heap.push _)[w.heap.size]? = _; simp
  case qn => rw [HL.out, bytesOf_length]; simp
  case qpos =>
    intro h0
    rw [HL.out, bytesOf_length] at h0
    obtain ⟨b, off, rfl, hlt, hc⟩ := hs 0 h0
    refine ⟨_, rfl, fun j v hv => ?_⟩
    rw [HL.out] at hv
    obtain ⟨hj, rfl⟩ := bytesOf_at _ _ _ _ hv
    rw [add_plain, World.cell?_of_block (w := w) (Below.heap_alloc _ _ _ hlt)]
    exact hc j hj
  case qfit => rw [HL.out, bytesOf_length]; simp [size_madeCells]
  case q1 => rw [HL.out]; exact bytesOf_one _ _
  case qb => exact (Below.refl _ _).alloc (Nat.le_refl _) _
  intro w1 HG hB
  have hrow : w1.rowIs w.heap.size 5 len (fun j => .int .u8 (z j)) := row_copied (Z := (madeCells #[.int .u8 0] len).toList) (by simp [size_madeCells]) (by rw [← HL.out]; exact HG.out)
  have hs1 := hs.below hB
  clear HG HL hs hmk
  have HB : Hid (Below w.heap.size w w1) := hB
  clear hB
  go_wp2_with fail
  go_loop [4, 5, 6] (fun t c i => ∃ k : Nat, k ≤ len ∧ i = .int .i64 k ∧ t = .int .i64 (tabs z k) ∧ c = .int .i64 (cont z k)) (fun _ _ i => len - (intOf i).toNat)
  case atStart => exact ⟨0, Nat.zero_le _, rfl, rfl, rfl⟩
  case round =>
    obtain ⟨k, hk, rfl, rfl, rfl⟩ := hrel
    have ht := tabs_bd z k
    have hc := cont_bd z k
    by_cases hlt : k < len
    · have hck := hrow.cell hlt
      have hzk := hz k
      go_wp2
      · have h := tabs_hit z k ‹_›
        go_round
        case rel => exact ⟨k + 1, by omega, by go_num, int_congr h.1, int_congr h.2⟩
        case measure => simp [intOf]; omega
      · have h := cont_hit z k ‹_› ‹_› ‹_›
        go_round
        case rel => exact ⟨k + 1, by omega, by go_num, int_congr h.1, int_congr h.2⟩
        case measure => simp [intOf]; omega
      · have h := none_hit z k ‹_› (by omega)
        go_round
        case rel => exact ⟨k + 1, by omega, by go_num, int_congr h.1, int_congr h.2⟩
        case measure => simp [intOf]; omega
      · have h := none_hit z k ‹_› (by omega)
        go_round
        case rel => exact ⟨k + 1, by omega, by go_num, int_congr h.1, int_congr h.2⟩
        case measure => simp [intOf]; omega
    · obtain rfl : k = len := by omega
      have hne : (cols z k != 8 * tabs z k + ((k : Int) - tabs z k - cont z k)) = false := by rw [cols_law z hz k]; simp
      go_wp2_with (go_at_call 4; refine (columns_any _ _ _ z _ hcap ?_).mono ?_; rotate_left; rintro e w' ⟨rfl, rfl⟩)
      rotate_left
      · intro i hi
        obtain ⟨b, off, ha, _, hc⟩ := hs1 i hi
        exact ⟨b, off, ha, hc⟩
      clear hne
      go_loopw [10] (fun i wr => ∃ j : Nat, j ≤ k ∧ i = .int .i64 j ∧ ∃ n, wr = w1.drewN n) (fun i _ => k - (intOf i).toNat)
      case atStart => exact ⟨0, Nat.zero_le _, rfl, 0, rfl⟩
      case round =>
        obtain ⟨j, hj, rfl, n, rfl⟩ := hrel
        by_cases hlt2 : j < k
        · obtain ⟨b, off, rfl, hbw, hc⟩ := hs1 j hlt2
          have hcj := hc j hlt2
          have hcp := hrow.cell hlt2
          have hji : (j : Int) < (k : Int) := by omega
          go_wp2
          go_quiet (fail)
          go_wp2
          go_roundw
          case rel => exact ⟨j + 1, by omega, by go_num, _, rfl⟩
          case measure => simp [intOf]; omega
        · go_wp2
          go_ret
          exact ⟨rfl, (HB.out).trans ⟨rfl, rfl, rfl, Nat.le_refl _, fun _ _ => rfl⟩⟩

/-- More than 2^20 bytes: the law does not look. -/
theorem law_big (a : Option Addr) (len cap : Nat) (w : World) (h : 1048576 < len) (hm : len ≤ 9223372036854775807) :
    Calls Yba.prog 3 #[.slice a len cap] w fun e w' => e = .returned (.bool true) ∧ Below w.heap.size w w' := by
  have hd0 : (1048576 : Int) < (len : Int) := by omega
  go_enter Yba.func3, Yba.ntmps3
  go_wp2
  go_ret
  exact ⟨rfl, Below.refl _ _⟩
end Go.Proofs.Ybulkesaw
