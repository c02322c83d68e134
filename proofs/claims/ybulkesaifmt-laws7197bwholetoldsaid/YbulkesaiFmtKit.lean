/- WORDS FOR THE WORLD: a reader in a block of the call's own; a row of bytes that came in; what a callee leaves alone. And the leaves: Uint64, Remaining, Skip. -/
import Derived.Test.YbulkesaiFmtRows
import Derived.Test.YbulkesaiFmtBits
import Derived.WalkKit
import Derived.ProofKit
import Derived.Below
import Derived.Lib.EndianBits
import Derived.Laws.CopyOwn
import Derived.Deep.OwnRows
import Derived.Deep.QuietTactic
import Derived.BigQuiet
import Derived.WalkLawsBesides
namespace Go.Proofs.YbulkesaiFmt
open Go.ChangeShapes Go.WideShapes Go.ChangeAt Go.RowKit
set_option linter.unusedVariables false

/-- The reader's block. -/
abbrev rdO (a : Option Addr) (len cap : Nat) (off e : Int) : Obj := .cells #[.slice a len cap, .int .i64 off, .int .i64 e] 38 (0, 0)
/-- The bytes behind a reader: none of them lies in its own block R. -/
def Buf (w : World) (a : Option Addr) (len : Nat) (Z : Nat → Nat) (R : Nat) : Prop :=
  ∀ i, i < len → ∃ b off, a = some ⟨b, off, none⟩ ∧ b < w.heap.size ∧ b ≠ R ∧ ∀ j, j < len → w.cell? ⟨b, off + j, none⟩ = some (.int .u8 (Z j : Nat))
/-- Nothing that was there has turned, but for block R. -/
structure Kept (R : Nat) (w w' : World) : Prop where
  os : w'.os = w.os
  tape : w'.tape = w.tape
  output : w'.output = w.output
  size : w.heap.size ≤ w'.heap.size
  block : ∀ k, k < w.heap.size → k ≠ R → w'.heap[k]? = w.heap[k]?
theorem Kept.refl (R : Nat) (w : World) : Kept R w w := ⟨rfl, rfl, rfl, Nat.le_refl _, fun _ _ _ => rfl⟩
theorem Kept.trans {R : Nat} {a b c : World} (h : Kept R a b) (k : Kept R b c) : Kept R a c :=
  ⟨k.os.trans h.os, k.tape.trans h.tape, k.output.trans h.output, Nat.le_trans h.size k.size, fun i hi hn => (k.block i (Nat.lt_of_lt_of_le hi h.size) hn).trans (h.block i hi hn)⟩
theorem Kept.of_below {R : Nat} {w w' : World} (h : Below w.heap.size w w') : Kept R w w' := ⟨h.os, h.tape, h.output, h.size, fun k hk _ => h.block k hk⟩
theorem Kept.drewN {R : Nat} {w w' : World} (h : Kept R w w') (n : Nat) : Kept R w (w'.drewN n) := ⟨h.os, h.tape, h.output, h.size, h.block⟩
theorem Kept.setCell {R : Nat} {w w' : World} (h : Kept R w w') (o : Nat) (v : Value) : Kept R w (w'.setCell ⟨R, o, none⟩ v) :=
  h.trans ⟨rfl, rfl, rfl, by simp [World.setCell], fun k _ hn => Below.heap_setCell _ _ _ _ hn⟩
theorem Kept.cell {R : Nat} {w w' : World} (h : Kept R w w') {p : Addr} (hp : p.block < w.heap.size) (hn : p.block ≠ R) : w'.cell? p = w.cell? p := World.cell?_of_block (w := w) (h.block p.block hp hn)
theorem Buf.kept {w w' : World} {a : Option Addr} {len : Nat} {Z : Nat → Nat} {R : Nat} (h : Buf w a len Z R) (k : Kept R w w') : Buf w' a len Z R := by
  intro i hi
  obtain ⟨b, off, ha, hb, hn, hc⟩ := h i hi
  exact ⟨b, off, ha, Nat.lt_of_lt_of_le hb k.size, hn, fun j hj => (k.cell (p := ⟨b, off + j, none⟩) hb hn).trans (hc j hj)⟩
theorem rd_cells {w : World} {R : Nat} {a : Option Addr} {len cap : Nat} {off e : Int} (h : w.heap[R]? = some (rdO a len cap off e)) :
    w.cell? ⟨R, 0, none⟩ = some (.slice a len cap) ∧ w.cell? ⟨R, 1, none⟩ = some (.int .i64 off) ∧ w.cell? ⟨R, 2, none⟩ = some (.int .i64 e) ∧ (∀ o, w.frozen? ⟨R, o, none⟩ = false) ∧ R < w.heap.size := by
  refine ⟨by simp [World.cell?, h], by simp [World.cell?, h], by simp [World.cell?, h], fun o => by simp [World.frozen?, h], ?_⟩
  obtain ⟨hlt, _⟩ := Array.getElem?_eq_some_iff.1 h
  exact hlt
/-- The reader's block behind a store into its offset. -/
theorem rd_set {w : World} {R : Nat} {a : Option Addr} {len cap : Nat} {off e : Int} (h : w.heap[R]? = some (rdO a len cap off e)) (v : Int) :
    (w.setCell ⟨R, 1, none⟩ (.int .i64 v)).heap[R]? = some (rdO a len cap v e) := by
  simp [World.setCell, Array.getElem?_modify, h]

/-- Draws alone part the two worlds. -/
structure Same (w w' : World) : Prop where
  heap : w'.heap = w.heap
  os : w'.os = w.os
  tape : w'.tape = w.tape
  output : w'.output = w.output
theorem Same.drewN (w : World) (n : Nat) : Same w (w.drewN n) := ⟨rfl, rfl, rfl, rfl⟩
theorem Same.blk {w w' : World} (h : Same w w') {R : Nat} {o : Obj} (hR : w.heap[R]? = some o) : w'.heap[R]? = some o := by rw [h.heap]; exact hR
theorem Same.below {w w' : World} (h : Same w w') {B : Nat} {w0 : World} (hb : Below B w0 w) : Below B w0 w' :=
  ⟨h.os.trans hb.os, h.tape.trans hb.tape, h.output.trans hb.output, by rw [h.heap]; exact hb.size, fun k hk => by rw [h.heap]; exact hb.block k hk⟩
theorem Same.size {w w' : World} (h : Same w w') : w'.heap.size = w.heap.size := by rw [h.heap]
theorem Same.cell {w w' : World} (h : Same w w') (a : Addr) : w'.cell? a = w.cell? a := by simp [World.cell?, h.heap]
open Go.Extern.Stop Go.Stop Go.Extern in
theorem Same.ans {w w' : World} (h : Same w w') {F : Interp} (hF : F.answers w.tape) : F.answers w'.tape := by rw [h.tape]; exact hF
open Go.Extern.Stop Go.Stop Go.Extern in
theorem Kept.ans {R : Nat} {w w' : World} (h : Kept R w w') {F : Interp} (hF : F.answers w.tape) : F.answers w'.tape := by rw [h.tape]; exact hF
theorem ret_int {k : IntKind} {a b : Int} (h : a = b) : Ending.returned (.int k a) = .returned (.int k b) := by rw [h]

set_option maxHeartbeats 2000000 in
set_option maxRecDepth 100000 in
/-- binary.BigEndian.Uint64 at eight bytes from place f on. -/
theorem u64_any (b o n c f : Nat) (Z : Nat → Nat) (w : World) (hn : 8 ≤ n) (hZ : ∀ j, Z j < 256) (hc : ∀ j, j < 8 → w.cell? ⟨b, o + j, none⟩ = some (.int .u8 (Z (f + j) : Nat))) :
    Calls Ybaf.prog 33 #[.agg #[], .slice (some ⟨b, o, none⟩) n c] w fun e w' => e = .returned (.int .u64 (fld Z (8 * f) 64 : Nat)) ∧ Below w.heap.size w w' := by
  have hb : b < w.heap.size := block_lt_of_cell (hc 0 (by omega))
  have d : ∀ j, j < 8 → (w.alloc (.cells #[] 86)).cell? ⟨b, o + j, none⟩ = some (.int .u8 (Z (f + j) : Nat)) := fun j hj => by
    rw [World.cell?_of_block (w := w) (Below.heap_alloc _ _ _ hb)]; exact hc j hj
  have d0 := d 0 (by omega)
  have d1 := d 1 (by omega)
  have d2 := d 2 (by omega)
  have d3 := d 3 (by omega)
  have d4 := d 4 (by omega)
  have d5 := d 5 (by omega)
  have d6 := d 6 (by omega)
  have d7 := d 7 (by omega)
  rw [Nat.add_zero, Nat.add_zero] at d0
  have hv := fld_64 Z f hZ
  have z0 := hZ f
  have z1 := hZ (f + 1)
  have z2 := hZ (f + 2)
  have z3 := hZ (f + 3)
  have z4 := hZ (f + 4)
  have z5 := hZ (f + 5)
  have z6 := hZ (f + 6)
  have z7 := hZ (f + 7)
  generalize Z f = b0 at *
  generalize Z (f + 1) = b1 at *
  generalize Z (f + 2) = b2 at *
  generalize Z (f + 3) = b3 at *
  generalize Z (f + 4) = b4 at *
  generalize Z (f + 5) = b5 at *
  generalize Z (f + 6) = b6 at *
  generalize Z (f + 7) = b7 at *
  generalize fld Z (8 * f) 64 = V at *
  have HV : Hid (V = b7 + b6 * 256 + b5 * 65536 + b4 * 16777216 + b3 * 4294967296 + b2 * 1099511627776 + b1 * 281474976710656 + b0 * 72057594037927936) := hv
  clear hv d hc hZ
  have q0 : 0 < n := by omega
  have q1 : (1 : Int) < (n : Int) := by omega
  have q2 : (2 : Int) < (n : Int) := by omega
  have q3 : (3 : Int) < (n : Int) := by omega
  have q4 : (4 : Int) < (n : Int) := by omega
  have q5 : (5 : Int) < (n : Int) := by omega
  have q6 : (6 : Int) < (n : Int) := by omega
  have q7 : (7 : Int) < (n : Int) := by omega
  go_enter Ybaf.func33, Ybaf.ntmps33
  go_wp2
  go_quiet (fail)
  go_wp2
  go_ret
  refine ⟨ret_int ?_, ((Below.refl _ w).alloc (Nat.le_refl _) _).trans ⟨rfl, rfl, rfl, Nat.le_refl _, fun _ _ => rfl⟩⟩
  rw [HV.out]
  simp (disch := omega) only [u64_or8, u64_or16, u64_or24, u64_or32, u64_or40, u64_or48, u64_or56]
  omega

set_option maxRecDepth 100000 in
/-- r.Remaining(). -/
theorem remaining_any (R : Nat) (a : Option Addr) (len cap : Nat) (off e : Int) (w : World) (h0 : 0 ≤ off) (h1 : off ≤ e) (h2 : e ≤ 8388608) (hR : w.heap[R]? = some (rdO a len cap off e)) :
    Calls Ybaf.prog 35 #[.pointer (some ⟨R, 0, none⟩)] w fun x w' => x = .returned (.int .i64 (e - off)) ∧ Same w w' := by
  obtain ⟨c0, c1, c2, _, _⟩ := rd_cells hR
  go_enter Ybaf.func35, Ybaf.ntmps35
  go_wp2
  go_quiet (fail)
  go_wp2
  go_ret
  exact ⟨rfl, Same.drewN _ _⟩

set_option maxRecDepth 100000 in
/-- r.Skip(n). -/
theorem skip_any (R : Nat) (a : Option Addr) (len cap : Nat) (off e n : Int) (w : World) (h0 : 0 ≤ off) (h1 : off ≤ 8388608) (h2 : 0 ≤ n) (h3 : n ≤ 64) (hR : w.heap[R]? = some (rdO a len cap off e)) :
    Calls Ybaf.prog 27 #[.pointer (some ⟨R, 0, none⟩), .int .i64 n] w fun x w' => x = .returned (.tuple #[]) ∧ w.setCell ⟨R, 1, none⟩ (.int .i64 (off + n)) = w' := by
  obtain ⟨c0, c1, c2, hf, _⟩ := rd_cells hR
  have hf1 := hf 1
  go_enter Ybaf.func27, Ybaf.ntmps27
  go_wp2
  go_end0
  exact ⟨rfl, rfl⟩
end Go.Proofs.YbulkesaiFmt
