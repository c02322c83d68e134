/- WHAT THE LAW LAYS IN MEMORY: lemmas outside its walk; the law's own helper. -/
import Derived.Test.YbulkesaiFmtPre
import Derived.Deep.DeepCutAuto
namespace Go.Proofs.YbulkesaiFmt
open Go.ChangeShapes Go.WideShapes Go.ChangeAt Go.RowKit
open Go.Extern.Stop Go.Stop Go.Extern
set_option linter.unusedVariables false
theorem Ybaf.info5 : (Ybaf.prog.info? 5).map (fun i => (i.zero, i.size, i.bytes)) = some (some (.int .u8 0), 1, 1) := by kernel_rfl
theorem Ybaf.size5 : (Ybaf.prog.info? 5).map (·.size) = some 1 := by kernel_rfl
abbrev zeroCs : Array Value := #[.string ⟨#[]⟩, .pointer none, .bool false, .map none, .int .i64 0, .map none, .slice none 0 0, .slice none 0 0]
theorem Ybaf.info31 : (Ybaf.prog.info? 31).map (fun i => (i.zero, i.size, i.bytes)) = some (some (.agg zeroCs), 8, 104) := by kernel_rfl
/-- make([]asn1.Component, n). -/
theorem make_comps (n : Nat) (hn : n ≤ 1048576) (w : World) :
    (Instr.makeSlice 25 (.int .i64 (n : Int)) (.int .i64 (n : Int))).run Ybaf.prog w = .ok (.slice (some ⟨w.heap.size, 0, none⟩) n n) (w.alloc (.cells (madeCells zeroCs (n * 8)) 31)) := by
  obtain ⟨i, hi, hz0, hz1, hz2⟩ := info_parts Ybaf.info31
  have hr := run_make (P := Ybaf.prog) w 25 31 i (.agg zeroCs) Ybaf.underlying25 hi hz0 .i64 .i64 n n (by omega) (Int.le_refl _) (by rw [hz2]; omega) (by omega)
  rw [hz1, show (Value.agg zeroCs).cells = zeroCs from rfl, Int.toNat_natCast] at hr
  exact hr

theorem bit_val (z r : Nat) (hz : z < 256) : bits BinOp.and IntKind.u64 (IntKind.u64.wrap ((z : Int) / 2 ^ r)) 1 = ((z / 2 ^ r % 2 : Nat) : Int) := by
  have e0 : (z : Int) / 2 ^ r = ((z / 2 ^ r : Nat) : Int) := by rw [Int.natCast_ediv, Int.natCast_pow]; rfl
  have hd := Nat.div_le_self z (2 ^ r)
  rw [e0]
  generalize z / 2 ^ r = q at *
  rw [u64_wrap_id _ (by omega) (by omega), show (1 : Int) = ((1 : Nat) : Int) from rfl, u64_and_nat _ _ (by omega) (by omega), nat_mask1]
set_option maxRecDepth 100000 in
/-- Bit p of the saved bytes. -/
theorem bit_any (S len cap p : Nat) (Z : Nat → Nat) (hZ : ∀ j, Z j < 256) (w : World) (hp : p < 8 * len) (hl : len ≤ 1048576) (hc : ∀ j, j < len → w.cell? ⟨S, j, none⟩ = some (.int .u8 (Z j : Nat))) :
    Calls Ybaf.prog 6 #[.slice (some ⟨S, 0, none⟩) len cap, .int .i64 p] w fun x w' => x = .returned (.int .u64 (bit Z p : Nat)) ∧ w = w' := by
  have hck := hc (p / 8) (by omega)
  have hz := hZ (p / 8)
  have hm : bits BinOp.and IntKind.i64 (p : Int) 7 = ((p % 8 : Nat) : Int) := by
    have h := (bits_nat .i64 63 (by decide) (fun n h0 h1 => by rw [IntKind.wrap_i64]; omega) p 7 (by omega) (by omega)).1
    rw [show (7 : Int) = ((7 : Nat) : Int) from rfl, h, nat_mask3]
  have h8 : p % 8 < 8 := by omega
  go_enter Ybaf.func6, Ybaf.ntmps6
  go_wp2
  go_ret
  exact ⟨ret_int (bit_val (Z (p / 8)) (7 - p % 8) hz), rfl⟩

/-- What the call is told of the optional flags that came in. -/
def OptOf (w : World) (a : Option Addr) (len : Nat) (z : Nat → Bool) : Prop :=
  ∀ i, i < len → ∃ b off, a = some ⟨b, off, none⟩ ∧ b < w.heap.size ∧ ∀ j, j < len → w.cell? ⟨b, off + j, none⟩ = some (.bool (z j))
theorem OptOf.below {w w' : World} {a : Option Addr} {len : Nat} {z : Nat → Bool} (h : OptOf w a len z) (hb : Below w.heap.size w w') : OptOf w' a len z := by
  intro i hi
  obtain ⟨b, off, ha, hlt, hc⟩ := h i hi
  exact ⟨b, off, ha, Nat.lt_of_lt_of_le hlt hb.size, fun j hj => (hb.cell (p := ⟨b, off + j, none⟩) hlt).trans (hc j hj)⟩
/-- .. and of the bytes. -/
def BytesOf (w : World) (a : Option Addr) (len : Nat) (Z : Nat → Nat) : Prop :=
  ∀ i, i < len → ∃ b off, a = some ⟨b, off, none⟩ ∧ b < w.heap.size ∧ ∀ j, j < len → w.cell? ⟨b, off + j, none⟩ = some (.int .u8 (Z j : Nat))

/-- THE FIRST LOOP's STATE: the components' row. -/
structure Comps (w : World) (m : Nat) (opt : Nat → Bool) (k : Nat) (wr : World) : Prop where
  size : wr.heap.size = w.heap.size + 1
  row : ∃ f, wr.rowIs w.heap.size 31 (m * 8) f ∧ ∀ i, i < k → f (i * 8 + 2) = .bool (opt i)
  below : Below w.heap.size w wr
theorem Comps.start (w : World) (m : Nat) (opt : Nat → Bool) : Comps w m opt 0 (w.alloc (.cells (madeCells zeroCs (m * 8)) 31)) where
  size := by simp
  row := ⟨fun i => (madeCells zeroCs (m * 8)).getD i undef, ⟨_, Deep.blk_alloc_new _ _, size_madeCells _ _, fun i hi => by
    have hs : i < (madeCells zeroCs (m * 8)).size := by rw [size_madeCells]; exact hi
    simp [hs]⟩, fun i hi => absurd hi (Nat.not_lt_zero i)⟩
  below := (Below.refl _ _).alloc (Nat.le_refl _) _
theorem Comps.step {w wr : World} {m : Nat} {opt : Nat → Bool} {k : Nat} (h : Comps w m opt k wr) (hk : k < m) : Comps w m opt (k + 1) (wr.setCell ⟨w.heap.size, k * 8 + 2, none⟩ (.bool (opt k))) where
  size := by simp [World.setCell, h.size]
  row := by
    obtain ⟨f, hr, hf⟩ := h.row
    refine ⟨_, hr.set (k * 8 + 2) _, fun i hi => ?_⟩
    by_cases e : i = k
    · subst e; simp
    · have : ¬ (i * 8 + 2 = k * 8 + 2) := by omega
      simp only [this, if_false]
      exact hf i (by omega)
  below := h.below.setCell (Nat.le_refl _) _


/-- The type's block. -/
abbrev tyO (C m root : Nat) (ext : Bool) : Obj := .cells #[.string ⟨#[]⟩, .int .u8 0, .int .i64 0, .int .i64 0, .bool false, .bool ext, .slice none 0 0, .slice (some ⟨C, 0, none⟩) m m, .int .i64 root, .pointer none] 35
def bytesL (Z : Nat → Nat) (len : Nat) : List Value := (List.range len).map fun j => .int .u8 (Z j : Nat)
theorem bytesL_length (Z : Nat → Nat) (len : Nat) : (bytesL Z len).length = len := by simp [bytesL]
theorem bytesL_at (Z : Nat → Nat) (len j : Nat) (v : Value) (h : (bytesL Z len)[j]? = some v) : j < len ∧ v = .int .u8 (Z j : Nat) := by
  simp only [bytesL, List.getElem?_map, Option.map_eq_some_iff] at h
  obtain ⟨k, hk, rfl⟩ := h
  rw [List.getElem?_eq_some_iff] at hk
  obtain ⟨h1, h2⟩ := hk
  simp at h1 h2
  subst h2
  exact ⟨h1, rfl⟩
theorem bytesL_one (Z : Nat → Nat) (len : Nat) : ∀ v ∈ bytesL Z len, v.oneCell' = true := by
  intro v hv
  simp only [bytesL, List.mem_map] at hv
  obtain ⟨j, _, rfl⟩ := hv
  rfl
theorem row_copied {w' : World} {g len : Nat} {Z : Nat → Nat} {Y : List Value} (hY : Y.length = len) (h : w'.heap[g]? = some (.cells (splice Y 0 (bytesL Z len)).toArray 5 (0, 0))) :
    w'.rowIs g 5 len (fun j => .int .u8 (Z j : Nat)) := by
  have hl := length_splice Y 0 (bytesL Z len) (by simp [bytesL_length, hY])
  refine ⟨_, h, by rw [List.size_toArray, hl, hY], fun i hi => ?_⟩
  simp only [splice, List.take_zero, List.nil_append, List.getElem?_toArray]
  rw [List.getElem?_append_left (by simp [bytesL_length, hi])]
  simp [bytesL, hi]
theorem heap_second (w : World) (o1 o2 : Obj) : ((w.alloc o1).alloc o2).heap[w.heap.size + 1]? = some o2 := by
  show ((w.heap.push o1).push o2)[w.heap.size + 1]? = _
  rw [Array.getElem?_push, if_pos (by simp)]

/-- ALL THAT IS READ of the call's own: T the type, C its components, S the saved bytes. -/
structure Ready (w0 : World) (l0 : Nat) (Z : Nat → Nat) (m : Nat) (opt : Nat → Bool) (T C S root : Nat) (ext : Bool) (w : World) : Prop where
  saved : ∀ j, j < l0 → w.cell? ⟨S, j, none⟩ = some (.int .u8 (Z j : Nat))
  typ : Typ w T C m root ext opt
  below : Below w0.heap.size w0 w
  slt : S < w.heap.size
  tlt : T < w.heap.size
  clt : C < w.heap.size
theorem BytesOf.below {w w' : World} {a : Option Addr} {len : Nat} {Z : Nat → Nat} (h : BytesOf w a len Z) (hb : Below w.heap.size w w') : BytesOf w' a len Z := by
  intro i hi
  obtain ⟨b, off, ha, hlt, hc⟩ := h i hi
  exact ⟨b, off, ha, Nat.lt_of_lt_of_le hlt hb.size, fun j hj => (hb.cell (p := ⟨b, off + j, none⟩) hlt).trans (hc j hj)⟩
/-- .. none of them in a block of the call's own. -/
theorem BytesOf.buf {w w' : World} {a : Option Addr} {len : Nat} {Z : Nat → Nat} {R : Nat} (h : BytesOf w a len Z) (hb : Below w.heap.size w w') (hR : w.heap.size ≤ R) : Buf w' a len Z R := by
  intro i hi
  obtain ⟨b, off, ha, hlt, hc⟩ := h i hi
  exact ⟨b, off, ha, Nat.lt_of_lt_of_le hlt hb.size, by omega, fun j hj => (hb.cell (p := ⟨b, off + j, none⟩) hlt).trans (hc j hj)⟩
theorem Comps.ready {w wr w2 : World} {l0 m root : Nat} {ext : Bool} {Z : Nat → Nat} {opt : Nat → Bool} {Y : List Value} (h : Comps w m opt m wr) (hY : Y.length = l0)
    (hg : w2.heap[wr.heap.size + 1]? = some (.cells (splice Y 0 (bytesL Z l0)).toArray 5 (0, 0))) (hb : Below (wr.heap.size + 1) (wr.alloc (tyO w.heap.size m root ext)) w2) :
    Ready w l0 Z m opt wr.heap.size w.heap.size (wr.heap.size + 1) root ext w2 := by
  have hsz := h.size
  have hty : w2.heap[wr.heap.size]? = some (tyO w.heap.size m root ext) := by
    rw [hb.block _ (by omega)]
    show (wr.heap.push _)[wr.heap.size]? = _
    simp
  have hold : ∀ k, k < wr.heap.size → w2.heap[k]? = wr.heap[k]? := fun k hk => by rw [hb.block _ (by omega), Below.heap_alloc _ _ _ hk]
  have hs2 : wr.heap.size + 1 < w2.heap.size := (Array.getElem?_eq_some_iff.1 hg).1
  have hbel : Below w.heap.size w w2 := h.below.trans ⟨hb.os, hb.tape, hb.output, by omega, fun k hk => hold k (by omega)⟩
  obtain ⟨f, hrow, hf⟩ := h.row
  refine ⟨fun j hj => (row_copied hY hg).cell hj, ⟨?_, ?_, ?_, ?_⟩, hbel, hs2, by omega, by omega⟩
  · simp [World.cell?, hty]
  · simp [World.cell?, hty]
  · simp [World.cell?, hty]
  · intro i hi
    have := (hrow.of_block (hold _ (by omega))).cell (show i * 8 + 2 < m * 8 by omega)
    rw [hf i hi] at this
    exact this
theorem Ready.kept {w0 w w' : World} {l0 m T C S root R : Nat} {ext : Bool} {Z : Nat → Nat} {opt : Nat → Bool} (h : Ready w0 l0 Z m opt T C S root ext w) (k : Kept R w w') (hR : w0.heap.size ≤ R) (nT : T ≠ R) (nC : C ≠ R) (nS : S ≠ R) : Ready w0 l0 Z m opt T C S root ext w' where
  saved := fun j hj => (k.cell (p := ⟨S, j, none⟩) h.slt nS).trans (h.saved j hj)
  typ := h.typ.kept k nT nC
  below := h.below.trans ⟨k.os, k.tape, k.output, k.size, fun i hi => k.block i (Nat.lt_of_lt_of_le hi h.below.size) (by omega)⟩
  slt := Nat.lt_of_lt_of_le h.slt k.size
  tlt := Nat.lt_of_lt_of_le h.tlt k.size
  clt := Nat.lt_of_lt_of_le h.clt k.size
theorem Ready.alloc {w0 w : World} {l0 m T C S root : Nat} {ext : Bool} {Z : Nat → Nat} {opt : Nat → Bool} (h : Ready w0 l0 Z m opt T C S root ext w) (o : Obj) : Ready w0 l0 Z m opt T C S root ext (w.alloc o) :=
  h.kept (R := w.heap.size) (Kept.of_below ((Below.refl _ _).alloc (Nat.le_refl _) o)) h.below.size (Nat.ne_of_lt h.tlt) (Nat.ne_of_lt h.clt) (Nat.ne_of_lt h.slt)

/-- WHAT ReadPreamble LEAVES, in the law's frame. -/
def Left3 (Z : Nat → Nat) (opt : Nat → Bool) (O E root : Nat) (ext : Bool) (pv av ev : Value) (P : Nat) : Prop :=
  (O + ext.toNat + cnt opt root ≤ E ∧ pv = .int .u64 (pres Z opt (O + ext.toNat) root) ∧ av = .bool (ext && bit Z O == 1) ∧ ev = .nilIface ∧ P = O + ext.toNat + cnt opt root) ∨
  (E < O + ext.toNat + cnt opt root ∧ pv = .int .u64 0 ∧ av = .bool false ∧ (∃ q, ev = .iface 81 (.pointer q)) ∧ P = errPos ext O E (cnt opt root))
end Go.Proofs.YbulkesaiFmt
