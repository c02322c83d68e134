/- r.bitsShort(n). -/
import Derived.Test.YbulkesaiFmtPeek
import Derived.Test.YbulkesaiFmtStops
namespace Go.Proofs.YbulkesaiFmt
open Go.ChangeShapes Go.WideShapes Go.ChangeAt Go.RowKit
open Go.Extern.Stop Go.Stop Go.Extern
set_option linter.unusedVariables false
attribute [local go_sem] Ybaf.call22 Ybaf.guard Ybaf.fmt0 Ybaf.fmt0r Ybaf.op3_100w Ybaf.ptr81 Ybaf.elem81 Ybaf.isError81

set_option maxHeartbeats 400000 in
set_option maxRecDepth 100000 in
/-- The field passes the end: an error, and the reader stands where it stood. -/
theorem short_err0 (F : Interp) (W : World) (R : Nat) (a : Option Addr) (len cap : Nat) (off e n : Int) (w : World) (hF : F.answers w.tape) (h0 : 0 ≤ off) (h1 : off ≤ e) (h2 : e ≤ 8388608) (n0 : 0 ≤ n) (n1 : n ≤ 32) (hno : e < off + n) (hR : w.heap[R]? = some (rdO a len cap off e)) (hB : Below W.heap.size W w) :
    Calls Ybaf.prog 28 #[.pointer (some ⟨R, 0, none⟩), .int .i64 n] w fun x w' => (∃ p, x = .returned (.tuple #[.int .u32 0, .iface 81 (.pointer p)])) ∧ Below W.heap.size W w' := by
  have hd1 : decide (n < 0) = false := decide_eq_false (by omega)
  have hd2 : decide (32 < n) = false := decide_eq_false (by omega)
  have hd3 : e - off < n := by omega
  go_enter Ybaf.func28, Ybaf.ntmps28
  go_wp2_with fail
  refine (remaining_any R a len cap off e _ h0 h1 h2 hR).mono ?_
  rintro x w1 ⟨rfl, hS⟩
  have hR1 := hS.blk hR
  have hB1 := hS.below hB
  have hF1 := hS.ans hF
  clear hR hB hF hS
  go_wp2_with fail
  refine (remaining_any R a len cap off e _ h0 h1 h2 hR1).mono ?_
  rintro x w2 ⟨rfl, hS⟩
  have hR2 := hS.blk hR1
  have hB2 := hS.below hB1
  have hF2 : ∀ i name reading k range, w2.tape i (.extern (word name reading k) range) = F name reading k := hS.ans hF1
  clear hR1 hB1 hF1 hS
  go_wp2
  go_ret2
  exact ⟨⟨_, rfl⟩, ((hB2.alloc hB2.size _).alloc (by have := hB2.size; simp; omega) _).drew⟩
theorem short_err (F : Interp) (R : Nat) (a : Option Addr) (len cap : Nat) (off e n : Int) (w : World) (hF : F.answers w.tape) (h0 : 0 ≤ off) (h1 : off ≤ e) (h2 : e ≤ 8388608) (n0 : 0 ≤ n) (n1 : n ≤ 32) (hno : e < off + n) (hR : w.heap[R]? = some (rdO a len cap off e)) :
    Calls Ybaf.prog 28 #[.pointer (some ⟨R, 0, none⟩), .int .i64 n] w fun x w' => (∃ p, x = .returned (.tuple #[.int .u32 0, .iface 81 (.pointer p)])) ∧ Below w.heap.size w w' :=
  short_err0 F w R a len cap off e n w hF h0 h1 h2 n0 n1 hno hR (Below.refl _ _)

/-- 'x & (1<<n - 1)' in 64 bits. -/
theorem and_mask (x n : Nat) (hx : x < 18446744073709551616) (hn : n ≤ 32) : bits BinOp.and IntKind.u64 (x : Int) (IntKind.u64.wrap (IntKind.u64.wrap (2 ^ n) - 1)) = ((x % 2 ^ n : Nat) : Int) := by
  have h32 : 2 ^ n ≤ 2 ^ 32 := Nat.pow_le_pow_right (by omega) hn
  have hp : 0 < 2 ^ n := Nat.pos_of_ne_zero (by simp)
  have e0 : ((2 : Int) ^ n) = ((2 ^ n : Nat) : Int) := by rw [Int.natCast_pow]; rfl
  have e1 : IntKind.u64.wrap (IntKind.u64.wrap (2 ^ n) - 1) = ((2 ^ n - 1 : Nat) : Int) := by
    rw [e0, IntKind.wrap_u64, IntKind.wrap_u64]; omega
  rw [e1, u64_and_nat _ _ hx (by omega), Nat.and_two_pow_sub_one_eq_mod]
theorem short_val (Z : Nat → Nat) (q s n r : Nat) (hn : n ≤ 32) (h : s + n + r ≤ 64) :
    bits BinOp.and IntKind.u64 ((fld Z q (s + n + r) : Nat) / 2 ^ r) (IntKind.u64.wrap (IntKind.u64.wrap (2 ^ n) - 1)) % 4294967296 = ((fld Z (q + s) n : Nat) : Int) := by
  have hl := fld_lt Z q (s + n + r)
  have h64 : 2 ^ (s + n + r) ≤ 2 ^ 64 := Nat.pow_le_pow_right (by omega) h
  rw [show (2 : Nat) ^ 64 = 18446744073709551616 from by decide] at h64
  have e0 : ((fld Z q (s + n + r) : Nat) : Int) / 2 ^ r = ((fld Z q (s + n + r) / 2 ^ r : Nat) : Int) := by rw [Int.natCast_ediv, Int.natCast_pow]; rfl
  have hd := Nat.div_le_self (fld Z q (s + n + r)) (2 ^ r)
  rw [e0, and_mask _ n (by omega) hn, fld_cut]
  have hl2 := fld_lt Z (q + s) n
  have h32 : 2 ^ n ≤ 2 ^ 32 := Nat.pow_le_pow_right (by omega) hn
  omega
theorem or_byte (V z : Nat) (hV : V < 4294967296) (hz : z < 256) : bits BinOp.or IntKind.u64 ((V : Int) * 256) (z : Int) = ((V * 256 + z : Nat) : Int) := by
  rw [bits_join .u64 64 (by decide) wraps_u64 8 _ _ (by omega) (by omega) (by omega) (by omega) (by omega) (by omega)]
  omega
theorem fld_lt32 (Z : Nat → Nat) (p k : Nat) (h : k ≤ 4) : fld Z p (8 * k) < 4294967296 := by
  have h1 := fld_lt Z p (8 * k)
  have h2 : 2 ^ (8 * k) ≤ 2 ^ 32 := Nat.pow_le_pow_right (by omega) (by omega)
  omega

set_option maxHeartbeats 400000 in
set_option maxRecDepth 100000 in
/-- The field lies within: read byte by byte. -/
theorem short_ok (R : Nat) (b o len cap : Nat) (off e n : Nat) (Z : Nat → Nat) (hZ : ∀ j, Z j < 256) (w : World) (h1 : off + n ≤ e) (h2 : e ≤ 8 * len) (h3 : len ≤ 1048576) (hcap : len ≤ cap) (n0 : 1 ≤ n) (n1 : n ≤ 32)
    (hR : w.heap[R]? = some (rdO (some ⟨b, o, none⟩) len cap off e)) (hbR : b ≠ R) (hc : ∀ j, j < len → w.cell? ⟨b, o + j, none⟩ = some (.int .u8 (Z j : Nat))) :
    Calls Ybaf.prog 28 #[.pointer (some ⟨R, 0, none⟩), .int .i64 n] w fun x w' => x = .returned (.tuple #[.int .u32 (fld Z off n : Nat), .nilIface]) ∧ Kept R w w' ∧ w'.heap[R]? = some (rdO (some ⟨b, o, none⟩) len cap ((off + n : Nat) : Int) e) := by
  have hd1 : decide ((n : Int) < 0) = false := decide_eq_false (by omega)
  have hd2 : decide (32 < (n : Int)) = false := decide_eq_false (by omega)
  have hd3 : decide ((e : Int) - off < n) = false := decide_eq_false (by omega)
  have hd4 : ((n : Int) == 0) = false := by simp; omega
  go_enter Ybaf.func28, Ybaf.ntmps28
  go_wp2_with fail
  refine (remaining_any R _ len cap off e _ (by omega) (by omega) (by omega) hR).mono ?_
  rintro x w1 ⟨rfl, hS⟩
  have hR1 := hS.blk hR
  obtain ⟨c0, c1, c2, hf, hRs⟩ := rd_cells hR1
  have hc1 : ∀ j, j < len → w1.cell? ⟨b, o + j, none⟩ = some (.int .u8 (Z j : Nat)) := fun j hj => (hS.cell _).trans (hc j hj)
  have hS0 : Hid (Same w w1) := hS
  have hf1 := hf 1
  clear hS hc hR hf
  have hcp : ¬ cap = off / 8 := by omega
  go_wp2_with fail
  go_quiet (fail)
  go_wp2_with fail
  go_loop [8, 58] (fun v i => ∃ k : Nat, k ≤ (off + n - 1) / 8 + 1 - off / 8 ∧ i = .int .i64 k ∧ v = .int .u64 (fld Z (8 * (off / 8)) (8 * k) : Nat)) (fun _ i => ((off + n - 1) / 8 + 1 - off / 8) - (intOf i).toNat)
  case atStart => exact ⟨0, Nat.zero_le _, rfl, rfl⟩
  case round =>
    obtain ⟨k, hk, rfl, rfl⟩ := hrel
    by_cases hlt : k < (off + n - 1) / 8 + 1 - off / 8
    · have hck : w1.cell? ⟨b, o + off / 8 + k, none⟩ = some (.int .u8 (Z (off / 8 + k) : Nat)) := by rw [Nat.add_assoc]; exact hc1 _ (by omega)
      have hzk := hZ (off / 8 + k)
      have hfb := fld_lt32 Z (8 * (off / 8)) k (by omega)
      have hor := or_byte (fld Z (8 * (off / 8)) (8 * k)) (Z (off / 8 + k)) (by omega) hzk
      rw [← fld_next Z (off / 8) k hzk] at hor
      have HO : Hid (bits BinOp.or IntKind.u64 ((fld Z (8 * (off / 8)) (8 * k) : Nat) * 256) (Z (off / 8 + k) : Nat) = ((fld Z (8 * (off / 8)) (8 * (k + 1)) : Nat) : Int)) := hor
      clear hor
      go_wp2_with fail
      go_round
      case rel => exact ⟨k + 1, by omega, by go_num, by rw [HO.out]⟩
      case measure => simp [intOf]; omega
    · obtain ⟨L, hL⟩ : ∃ L, L = (off + n - 1) / 8 + 1 - off / 8 := ⟨_, rfl⟩
      obtain rfl : k = L := by omega
      have hk5 : k ≤ 5 := by omega
      have hfb := fld_lt Z (8 * (off / 8)) (8 * k)
      clear hL
      go_wp2_with fail
      go_quiet (fail)
      go_wp2_with fail
      go_ret2
      refine ⟨ret_pair ?_, (((Kept.of_below ((hS0.out).below (Below.refl _ _))).drewN _).setCell 1 _).drewN _, rd_set (w := w1.drewN _) hR1 ((off + n : Nat) : Int)⟩
      have hv := short_val Z (8 * (off / 8)) (off % 8) n (8 * ((off + n - 1) / 8 + 1) - off - n) n1 (by omega)
      rw [show off % 8 + n + (8 * ((off + n - 1) / 8 + 1) - off - n) = 8 * k from by omega, show 8 * (off / 8) + off % 8 = off from by omega] at hv
      exact hv
end Go.Proofs.YbulkesaiFmt
