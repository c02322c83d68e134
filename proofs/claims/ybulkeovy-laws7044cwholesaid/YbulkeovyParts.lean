/- WHAT THE LAW LAYS IN MEMORY, AND WHAT A ROUND DOES TO IT: lemmas outside the walk. -/
import Derived.Test.YbulkeovyRows
import Derived.WalkKit
import Derived.ProofKit
import Derived.Below
import Derived.Laws.CopyOwn
import Derived.Deep.OwnRows
namespace Go.Proofs.Ybulkeovy
open Go.ChangeShapes Go.WideShapes Go.ChangeAt Go.RowKit
set_option linter.unusedVariables false
theorem Yba.info46 : (Yba.prog.info? 46).map (fun i => (i.zero, i.size, i.bytes)) = some (some (.pointer none), 1, 8) := by kernel_rfl
theorem Yba.size46 : (Yba.prog.info? 46).map (·.size) = some 1 := by kernel_rfl

/-- What the call is told of the bools that came in. -/
def RowOf (w : World) (a : Option Addr) (len : Nat) (z : Nat → Bool) : Prop :=
  ∀ i, i < len → ∃ b off, a = some ⟨b, off, none⟩ ∧ b < w.heap.size ∧ ∀ j, j < len → w.cell? ⟨b, off + j, none⟩ = some (.bool (z j))
theorem RowOf.below {w w' : World} {a : Option Addr} {len : Nat} {z : Nat → Bool} (h : RowOf w a len z) (hb : Below w.heap.size w w') : RowOf w' a len z := by
  intro i hi
  obtain ⟨b, off, ha, hlt, hc⟩ := h i hi
  exact ⟨b, off, ha, Nat.lt_of_lt_of_le hlt hb.size, fun j hj => (hb.cell (p := ⟨b, off + j, none⟩) hlt).trans (hc j hj)⟩
theorem cell_alloc_old {w : World} {b o : Nat} {v : Value} (hb : b < w.heap.size) (h : w.cell? ⟨b, o, none⟩ = some v) (x : Obj) : (w.alloc x).cell? ⟨b, o, none⟩ = some v := by
  rw [World.cell?_of_block (w := w) (Below.heap_alloc _ _ _ hb)]; exact h

theorem heap_second (w : World) (o1 o2 : Obj) : ((w.alloc o1).alloc o2).heap[w.heap.size + 1]? = some o2 := by
  show ((w.heap.push o1).push o2)[w.heap.size + 1]? = _
  rw [Array.getElem?_push, if_pos (by simp)]
/-- A round's block: its 24 cells. -/
def rnd (k : Nat) (bg lt dn : Bool) : Array Value :=
  #[.int .i64 k, .int .u64 ((k : Int) * 7), .int .u64 0, .int .i64 0, .pointer none, .nilIface, .pointer none, .bool bg, .bool lt, .slice none 0 0, .int .i64 0, .bool dn, .int .u64 0, .int .i64 0, .pointer none, .int .u64 0, .int .i64 0,
    .pointer none, .int .i64 0, .pointer none, .map none, .int .u64 0, .int .i64 0, .pointer none]
/-- The pointer to the j-th round. -/
def ptr (N j : Nat) : Value := .pointer (some ⟨N + 1 + j, 0, none⟩)
/-- A flag that is only there below 'len'. -/
def upTo (len : Nat) (z : Nat → Bool) (j : Nat) : Bool := decide (j < len) && z j
theorem upTo_pos {len : Nat} {z : Nat → Bool} {j : Nat} (h : j < len) : upTo len z j = z j := by simp [upTo, h]
theorem upTo_neg {len : Nat} {z : Nat → Bool} {j : Nat} (h : ¬ j < len) : upTo len z j = false := by simp [upTo, h]

/-- THE FIRST LOOP's STATE behind k rounds. -/
structure Laid (w : World) (l0 l1 l2 : Nat) (z0 z1 z2 : Nat → Bool) (k : Nat) (wr : World) : Prop where
  size : wr.heap.size = w.heap.size + 1 + k
  row : wr.rowIs w.heap.size 46 l0 (fun j => if j < k then ptr w.heap.size j else .pointer none)
  rounds : ∀ j, j < k → wr.heap[w.heap.size + 1 + j]? = some (.cells (rnd j (z0 j) (upTo l2 z2 j) (upTo l1 z1 j)) 58 (0, 0))
  below : Below w.heap.size w wr
theorem Laid.start (w : World) (l0 l1 l2 : Nat) (z0 z1 z2 : Nat → Bool) : Laid w l0 l1 l2 z0 z1 z2 0 (w.alloc (.cells (madeCells #[.pointer none] l0) 46)) where
  size := by simp
  row := (World.rowIs_made w (.pointer none) l0 46).congr fun i _ => by simp
  rounds := fun j hj => absurd hj (Nat.not_lt_zero j)
  below := (Below.refl _ _).alloc (Nat.le_refl _) _
theorem Laid.step {w wr : World} {l0 l1 l2 : Nat} {z0 z1 z2 : Nat → Bool} {k : Nat} (h : Laid w l0 l1 l2 z0 z1 z2 k wr) (hk : k < l0) :
    Laid w l0 l1 l2 z0 z1 z2 (k + 1) ((wr.alloc (.cells (rnd k (z0 k) (upTo l2 z2 k) (upTo l1 z1 k)) 58)).setCell ⟨w.heap.size, k, none⟩ (.pointer (some ⟨wr.heap.size, 0, none⟩))) where
  size := by
    have := h.size
    simp only [World.setCell, Array.size_modify]
    simp; omega
  row := by
    refine ((h.row.alloc _).set k _).congr fun i _ => ?_
    by_cases e : i = k
    · subst e; simp [ptr, h.size]
    · by_cases e2 : i < k
      · simp [e, e2, show i < k + 1 from by omega]
      · simp [e, e2, show ¬ i < k + 1 from by omega]
  rounds := by
    intro j hj
    rw [Below.heap_setCell _ _ _ _ (by show w.heap.size + 1 + j ≠ w.heap.size; omega)]
    by_cases e : j = k
    · subst e
      rw [← h.size]
      show (wr.heap.push _)[wr.heap.size]? = _
      simp
    · rw [Below.heap_alloc _ _ _ (by have := h.size; omega)]
      exact h.rounds j (by omega)
  below := (h.below.alloc (by have := h.size; omega) _).setCell (Nat.le_refl _) _

/-- The pointers as a list. -/
def ptrs (N l0 : Nat) : List Value := (List.range l0).map (ptr N)
theorem ptrs_length (N l0 : Nat) : (ptrs N l0).length = l0 := by simp [ptrs]
theorem ptrs_at (N l0 j : Nat) (v : Value) (h : (ptrs N l0)[j]? = some v) : j < l0 ∧ v = ptr N j := by
  simp only [ptrs, List.getElem?_map, Option.map_eq_some_iff] at h
  obtain ⟨k, hk, rfl⟩ := h
  rw [List.getElem?_eq_some_iff] at hk
  obtain ⟨h1, h2⟩ := hk
  simp at h1 h2
  subst h2
  exact ⟨h1, rfl⟩
theorem ptrs_one (N l0 : Nat) : ∀ v ∈ ptrs N l0, v.oneCell' = true := by
  intro v hv
  simp only [ptrs, List.mem_map] at hv
  obtain ⟨j, _, rfl⟩ := hv
  rfl
theorem row_copied {w' : World} {g N len : Nat} {Z : List Value} (hZ : Z.length = len) (h : w'.heap[g]? = some (.cells (splice Z 0 (ptrs N len)).toArray 46 (0, 0))) :
    w'.rowIs g 46 len (ptr N) := by
  have hl := length_splice Z 0 (ptrs N len) (by simp [ptrs_length, hZ])
  refine ⟨_, h, by rw [List.size_toArray, hl, hZ], fun i hi => ?_⟩
  simp only [splice, List.take_zero, List.nil_append, List.getElem?_toArray]
  rw [List.getElem?_append_left (by simp [ptrs_length, hi])]
  simp [ptrs, hi]

/-- The driver's block. -/
abbrev drvO (N k : Nat) (s : Bool) : Obj := .cells #[.pointer none, .pointer none, .nilFunc, .slice (some ⟨N, 0, none⟩) k k, .pointer none, .pointer none, .bool s] 66
/-- ALL THAT IS READ BEHIND THE copy. N: the rounds' row; D: the driver's block; D + 1: the saved row. -/
structure Ready (N D l0 l1 l2 : Nat) (z0 z1 z2 : Nat → Bool) (s : Bool) (w : World) : Prop where
  d3 : w.cell? ⟨D, 3, none⟩ = some (.slice (some ⟨N, 0, none⟩) l0 l0)
  d6 : w.cell? ⟨D, 6, none⟩ = some (.bool s)
  row : ∀ j, j < l0 → w.cell? ⟨N, j, none⟩ = some (.pointer (some ⟨N + 1 + j, 0, none⟩))
  saved : ∀ j, j < l0 → w.cell? ⟨D + 1, j, none⟩ = some (.pointer (some ⟨N + 1 + j, 0, none⟩))
  index : ∀ j, j < l0 → w.cell? ⟨N + 1 + j, 0, none⟩ = some (.int .i64 j)
  session : ∀ j, j < l0 → w.cell? ⟨N + 1 + j, 1, none⟩ = some (.int .u64 ((j : Int) * 7))
  begun : ∀ j, j < l0 → w.cell? ⟨N + 1 + j, 7, none⟩ = some (.bool (z0 j))
  late : ∀ j, j < l0 → w.cell? ⟨N + 1 + j, 8, none⟩ = some (.bool (upTo l2 z2 j))
  done : ∀ j, j < l0 → w.cell? ⟨N + 1 + j, 11, none⟩ = some (.bool (upTo l1 z1 j))
theorem Laid.ready {w wr w2 : World} {l0 l1 l2 : Nat} {z0 z1 z2 : Nat → Bool} {s : Bool} {Z : List Value} (h : Laid w l0 l1 l2 z0 z1 z2 l0 wr) (hZ : Z.length = l0)
    (hg : w2.heap[wr.heap.size + 1]? = some (.cells (splice Z 0 (ptrs w.heap.size l0)).toArray 46 (0, 0))) (hb : Below (wr.heap.size + 1) (wr.alloc (drvO w.heap.size l0 s)) w2) :
    Ready w.heap.size wr.heap.size l0 l1 l2 z0 z1 z2 s w2 ∧ Below w.heap.size w w2 := by
  have hsz := h.size
  have hdrv : w2.heap[wr.heap.size]? = some (drvO w.heap.size l0 s) := by
    rw [hb.block _ (by omega)]
    show (wr.heap.push _)[wr.heap.size]? = _
    simp
  have hold : ∀ k, k < wr.heap.size → w2.heap[k]? = wr.heap[k]? := fun k hk => by rw [hb.block _ (by omega), Below.heap_alloc _ _ _ hk]
  have hrow := h.row.of_block (hold w.heap.size (by omega))
  have hrnd : ∀ j, j < l0 → w2.heap[w.heap.size + 1 + j]? = some (.cells (rnd j (z0 j) (upTo l2 z2 j) (upTo l1 z1 j)) 58 (0, 0)) := fun j hj => by rw [hold _ (by omega)]; exact h.rounds j hj
  refine ⟨⟨?_, ?_, ?_, ?_, ?_, ?_, ?_, ?_, ?_⟩, h.below.trans ⟨?_, ?_, ?_, ?_, ?_⟩⟩
  · simp [World.cell?, hdrv]
  · simp [World.cell?, hdrv]
  · intro j hj
    have := hrow.cell hj
    rw [if_pos hj] at this
    exact this
  · intro j hj
    exact (row_copied hZ hg).cell hj
  · intro j hj; simp [World.cell?, hrnd j hj, rnd]
  · intro j hj; simp [World.cell?, hrnd j hj, rnd]
  · intro j hj; simp [World.cell?, hrnd j hj, rnd]
  · intro j hj; simp [World.cell?, hrnd j hj, rnd]
  · intro j hj; simp [World.cell?, hrnd j hj, rnd]
  · exact hb.os
  · exact hb.tape
  · exact hb.output
  · have := hb.size; simp at this; omega
  · intro k hk; exact hold k (by omega)

/-! ### The plain law -/
def cnt (z : Nat → Bool) : Nat → Nat
  | 0 => 0
  | k + 1 => cnt z k + (if z k then 1 else 0)
def anyOf (z : Nat → Bool) : Nat → Bool
  | 0 => false
  | k + 1 => anyOf z k || z k
theorem cnt_le (z : Nat → Bool) (k : Nat) : cnt z k ≤ k := by
  induction k with
  | zero => simp [cnt]
  | succ k ih => simp only [cnt]; split <;> omega
theorem any_cnt (z : Nat → Bool) (k : Nat) : anyOf z k = decide ((0 : Int) < (cnt z k : Int)) := by
  induction k with
  | zero => simp [anyOf, cnt]
  | succ k ih =>
    simp only [anyOf, cnt, ih]
    by_cases h : z k = true
    · simp [h]
    · simp [h]
theorem any_ne (z : Nat → Bool) (k : Nat) : (!(anyOf z k == decide (0 < cnt z k))) = false := by rw [any_cnt]; simp
theorem any_mono {z : Nat → Bool} {j : Nat} (h : z j = true) : ∀ k, j < k → anyOf z k = true
  | 0, h0 => absurd h0 (Nat.not_lt_zero j)
  | k + 1, hk => by
    simp only [anyOf]
    by_cases e : j = k
    · subst e; simp [h]
    · simp [any_mono h k (by omega)]
end Go.Proofs.Ybulkeovy
