/- r.Peek(n). -/
import Derived.Test.YbulkesaiFmtKit
import Derived.Deep.RegionWith
namespace Go.Proofs.YbulkesaiFmt
open Go.ChangeShapes Go.WideShapes Go.ChangeAt Go.RowKit
set_option linter.unusedVariables false

set_option maxHeartbeats 400000 in
set_option maxRecDepth 100000 in
theorem peek_past (R : Nat) (a : Option Addr) (len cap : Nat) (off e n : Int) (w : World) (h0 : 0 ≤ off) (h1 : off ≤ e) (h2 : e ≤ 8388608) (n0 : 0 ≤ n) (n1 : n ≤ 64) (hno : e < off + n) (hR : w.heap[R]? = some (rdO a len cap off e)) :
    Calls Ybaf.prog 26 #[.pointer (some ⟨R, 0, none⟩), .int .i64 n] w fun x w' => x = .returned (.tuple #[.int .u32 0, .bool false]) ∧ Same w w' := by
  obtain ⟨c0, c1, c2, _, _⟩ := rd_cells hR
  have hd : decide (e < off + n) = true := decide_eq_true hno
  go_enter Ybaf.func26, Ybaf.ntmps26
  go_wp2
  go_quiet (fail)
  go_wp2
  go_ret2
  exact ⟨rfl, Same.drewN _ _⟩

set_option maxHeartbeats 400000 in
set_option maxRecDepth 100000 in
theorem peek_short (R : Nat) (a : Option Addr) (len cap : Nat) (off e n : Int) (w : World) (h0 : 0 ≤ off) (h1 : off ≤ e) (h2 : e ≤ 8388608) (n0 : 0 ≤ n) (n1 : n ≤ 64) (hno : ¬ e < off + n) (hl : len < 8) (hR : w.heap[R]? = some (rdO a len cap off e)) :
    Calls Ybaf.prog 26 #[.pointer (some ⟨R, 0, none⟩), .int .i64 n] w fun x w' => x = .returned (.tuple #[.int .u32 0, .bool false]) ∧ Same w w' := by
  obtain ⟨c0, c1, c2, _, _⟩ := rd_cells hR
  have hd : decide (e < off + n) = false := decide_eq_false hno
  have hl' : (len : Int) < 8 := by omega
  go_enter Ybaf.func26, Ybaf.ntmps26
  go_wp2
  go_quiet (fail)
  go_wp2
  go_ret2
  exact ⟨rfl, Same.drewN _ _⟩

theorem peek_val (Z : Nat → Nat) (q s n : Nat) (h : s + n ≤ 64) (hn : n ≤ 32) : IntKind.u64.wrap ((fld Z q 64 : Nat) * 2 ^ s) / 2 ^ (64 - n) % 4294967296 = ((fld Z (q + s) n : Nat) : Int) := by
  have e := fld_shifts Z q s n h
  have hl := fld_lt Z (q + s) n
  have h32 : 2 ^ n ≤ 2 ^ 32 := Nat.pow_le_pow_right (by omega) hn
  rw [show (2 : Nat) ^ 64 = 18446744073709551616 from by decide] at e
  rw [IntKind.wrap_u64]
  have e1 : ((fld Z q 64 : Nat) : Int) * 2 ^ s % 18446744073709551616 / 2 ^ (64 - n) = ((fld Z q 64 * 2 ^ s % 18446744073709551616 / 2 ^ (64 - n) : Nat) : Int) := by
    rw [Int.natCast_ediv, Int.natCast_emod, Int.natCast_mul, Int.natCast_pow, Int.natCast_pow]; rfl
  rw [e1, e]
  omega
theorem ret_pair {k : IntKind} {a b : Int} {x : Value} (h : a = b) : Ending.returned (.tuple #[.int k a, x]) = .returned (.tuple #[.int k b, x]) := by rw [h]

set_option maxHeartbeats 400000 in
set_option maxRecDepth 100000 in
theorem peek_ok (R : Nat) (b o len cap : Nat) (off e n : Nat) (Z : Nat → Nat) (hZ : ∀ j, Z j < 256) (w : World) (h1 : off + n ≤ e) (h2 : e ≤ 8 * len) (h3 : len ≤ 1048576) (hcap : len ≤ cap) (n0 : 1 ≤ n) (n1 : n ≤ 32) (hl : 8 ≤ len)
    (hR : w.heap[R]? = some (rdO (some ⟨b, o, none⟩) len cap off e)) (hc : ∀ j, j < len → w.cell? ⟨b, o + j, none⟩ = some (.int .u8 (Z j : Nat))) :
    Calls Ybaf.prog 26 #[.pointer (some ⟨R, 0, none⟩), .int .i64 n] w fun x w' => x = .returned (.tuple #[.int .u32 (fld Z off n : Nat), .bool true]) ∧ Below w.heap.size w w' := by
  obtain ⟨c0, c1, c2, _, hRs⟩ := rd_cells hR
  have hd : decide ((e : Int) < (off : Int) + n) = false := decide_eq_false (by omega)
  have hl' : decide ((len : Int) < 8) = false := decide_eq_false (by omega)
  have hm2 : bits BinOp.and IntKind.u64 (n : Int) 63 = (n : Int) := by
    rw [u64_and _ _ (by omega) (by omega) (by omega) (by omega), show ((63 : Int).toNat) = 63 from rfl, nat_mask6]; omega
  by_cases hA : off / 8 + 8 ≤ len
  · have hA' : (off : Int) / 8 ≤ (len : Int) - 8 := by omega
    have hcp : ¬ cap = off / 8 := by omega
    have hcp' : ¬ (cap : Int) = (off : Int) / 8 := by omega
    have hm1 : bits BinOp.and IntKind.u64 ((off : Int) - 8 * ((off : Int) / 8)) 63 = ((off % 8 : Nat) : Int) := by
      rw [u64_and _ _ (by omega) (by omega) (by omega) (by omega), show ((63 : Int).toNat) = 63 from rfl, nat_mask6]; omega
    have hs8 : off % 8 < 8 := by omega
    go_enter Ybaf.func26, Ybaf.ntmps26
    go_wp2
    go_quiet (fail)
    go_wp2_with fail
    go_region
    go_wp2_with fail
    have hcf : ∀ m j, j < 8 → (w.drewN m).cell? ⟨b, o + off / 8 + j, none⟩ = some (.int .u8 (Z (off / 8 + j) : Nat)) := fun m j hj => by
      rw [World.cell?_drewN, Nat.add_assoc]; exact hc _ (by omega)
    clear hc
    go_region_with (go_at_call 33; refine (u64_any b (o + off / 8) (len - off / 8) (cap - off / 8) (off / 8) Z _ (by omega) hZ (hcf _)).mono ?_; rintro x w1 ⟨rfl, hB⟩)
    all_goals
      have k1 : w1.cell? ⟨R, 1, none⟩ = some (.int .i64 (off : Nat)) := (hB.cell (p := ⟨R, 1, none⟩) hRs).trans c1
      go_wp2
      go_ret2
      refine ⟨ret_pair ?_, ⟨hB.os, hB.tape, hB.output, hB.size, hB.block⟩⟩
      have ev := peek_val Z (8 * (off / 8)) (off % 8) n (by omega) n1
      rw [show 8 * (off / 8) + off % 8 = off from by omega] at ev
      exact ev
  · have hA' : (len : Int) - 8 < (off : Int) / 8 := by omega
    have hcp : ¬ cap = len - 8 := by omega
    have hcp' : ¬ (cap : Int) = (len : Int) - 8 := by omega
    have hm1 : bits BinOp.and IntKind.u64 ((off : Int) - 8 * ((len : Int) - 8)) 63 = ((off - 8 * (len - 8) : Nat) : Int) := by
      rw [u64_and _ _ (by omega) (by omega) (by omega) (by omega), show ((63 : Int).toNat) = 63 from rfl, nat_mask6]; omega
    have hs8 : off - 8 * (len - 8) < 64 := by omega
    go_enter Ybaf.func26, Ybaf.ntmps26
    go_wp2
    go_quiet (fail)
    go_wp2_with fail
    go_region
    go_wp2_with fail
    have hcf : ∀ m j, j < 8 → (w.drewN m).cell? ⟨b, o + (len - 8) + j, none⟩ = some (.int .u8 (Z (len - 8 + j) : Nat)) := fun m j hj => by
      rw [World.cell?_drewN, Nat.add_assoc]; exact hc _ (by omega)
    clear hc
    go_region_with (go_at_call 33; refine (u64_any b (o + (len - 8)) (len - (len - 8)) (cap - (len - 8)) (len - 8) Z _ (by omega) hZ (hcf _)).mono ?_; rintro x w1 ⟨rfl, hB⟩)
    all_goals
      have k1 : w1.cell? ⟨R, 1, none⟩ = some (.int .i64 (off : Nat)) := (hB.cell (p := ⟨R, 1, none⟩) hRs).trans c1
      go_wp2
      go_ret2
      refine ⟨ret_pair ?_, ⟨hB.os, hB.tape, hB.output, hB.size, hB.block⟩⟩
      have ev := peek_val Z (8 * (len - 8)) (off - 8 * (len - 8)) n (by omega) n1
      rw [show 8 * (len - 8) + (off - 8 * (len - 8)) = off from by omega] at ev
      exact ev
end Go.Proofs.YbulkesaiFmt
