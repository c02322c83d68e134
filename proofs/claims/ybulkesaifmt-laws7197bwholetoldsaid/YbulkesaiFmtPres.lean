/- ReadPresence. -/
import Derived.Test.YbulkesaiFmtRead
namespace Go.Proofs.YbulkesaiFmt
open Go.ChangeShapes Go.WideShapes Go.ChangeAt Go.RowKit
open Go.Extern.Stop Go.Stop Go.Extern
set_option linter.unusedVariables false

theorem ret_three {k : IntKind} {a b : Int} {p q : Bool} {x : Value} (h : a = b) (h2 : p = q) : Ending.returned (.tuple #[.int k a, .bool p, x]) = .returned (.tuple #[.int k b, .bool q, x]) := by rw [h, h2]
/-- One field without the extension bit. -/
theorem one_val (Z : Nat → Nat) (p n : Nat) (hn : n ≤ 32) : bits BinOp.and IntKind.u64 ((fld Z p n : Nat) : Int) (IntKind.u64.wrap (IntKind.u64.wrap (2 ^ n) - 1)) = ((fld Z p n : Nat) : Int) := by
  have h1 := fld_lt Z p n
  have h32 : 2 ^ n ≤ 2 ^ 32 := Nat.pow_le_pow_right (by omega) hn
  rw [and_mask _ n (by omega) hn, Nat.mod_eq_of_lt h1]

theorem one_head (Z : Nat → Nat) (p n : Nat) : (((fld Z p n : Nat) : Int) / 2 ^ n == 1) = false := by
  have h1 := fld_lt Z p n
  have e : ((fld Z p n : Nat) : Int) / 2 ^ n = ((fld Z p n / 2 ^ n : Nat) : Int) := by rw [Int.natCast_ediv, Int.natCast_pow]; rfl
  rw [e, Nat.div_eq_of_lt h1]; rfl
/-- One field, the extension bit ahead. -/
theorem ext_val (Z : Nat → Nat) (p n : Nat) (hn : n + 1 ≤ 32) : bits BinOp.and IntKind.u64 ((fld Z p (n + 1) : Nat) : Int) (IntKind.u64.wrap (IntKind.u64.wrap (2 ^ n) - 1)) = ((fld Z (p + 1) n : Nat) : Int) := by
  have h1 := fld_lt Z p (n + 1)
  have h32 : 2 ^ (n + 1) ≤ 2 ^ 32 := Nat.pow_le_pow_right (by omega) hn
  rw [and_mask _ n (by omega) (by omega), Nat.add_comm n 1, (fld_head Z p n).2]
theorem ext_head (Z : Nat → Nat) (p n : Nat) : (((fld Z p (n + 1) : Nat) : Int) / 2 ^ n == 1) = (bit Z p == 1) := by
  have e : ((fld Z p (n + 1) : Nat) : Int) / 2 ^ n = ((fld Z p (n + 1) / 2 ^ n : Nat) : Int) := by rw [Int.natCast_ediv, Int.natCast_pow]; rfl
  rw [e, Nat.add_comm n 1, (fld_head Z p n).1]
  have := bit_lt Z p
  by_cases h : bit Z p = 1
  · simp [h]
  · have h0 : bit Z p = 0 := by omega
    simp [h0]

set_option maxHeartbeats 400000 in
set_option maxRecDepth 100000 in
/-- No extension bit, 1 to 32 optional components. -/
theorem pz_one_ok (R : Nat) (a : Option Addr) (len cap : Nat) (off e n : Nat) (Z : Nat → Nat) (hZ : ∀ j, Z j < 256) (w : World) (h1 : off + n ≤ e) (h2 : e ≤ 8 * len) (h3 : len ≤ 1048576) (hcap : len ≤ cap) (n0 : 1 ≤ n) (n1 : n ≤ 32)
    (hR : w.heap[R]? = some (rdO a len cap off e)) (hb : Buf w a len Z R) :
    Calls Ybaf.prog 9 #[.pointer (some ⟨R, 0, none⟩), .bool false, .int .i64 n] w fun x w' => x = .returned (.tuple #[.int .u64 (fld Z off n : Nat), .bool false, .nilIface]) ∧ Kept R w w' ∧ w'.heap[R]? = some (rdO a len cap ((off + n : Nat) : Int) e) := by
  go_enter Ybaf.func9, Ybaf.ntmps9
  go_wp2_with fail
  refine (pres_no n w n1).mono ?_
  rintro x w1 ⟨rfl, rfl⟩
  go_wp2_with fail
  refine (bits_ok R a len cap off e n Z hZ w h1 h2 h3 hcap n0 n1 hR hb).mono ?_
  rintro x w2 ⟨rfl, hK, hR2⟩
  have HK : Hid (Kept R w w2) := hK
  have HR : Hid (w2.heap[R]? = some (rdO a len cap ((off + n : Nat) : Int) e)) := hR2
  have hfl := fld_lt Z off n
  have h32 : 2 ^ n ≤ 2 ^ 32 := Nat.pow_le_pow_right (by omega) n1
  have hfb : fld Z off n < 4294967296 := by omega
  clear hK hR2 hR hb hfl h32
  go_wp2_with fail
  go_quiet (fail)
  go_wp2_with fail
  go_ret3
  refine ⟨?_, HK.out.drewN _, HR⟩
  exact ret_three (one_val Z off n n1) (one_head Z off n)

set_option maxHeartbeats 400000 in
set_option maxRecDepth 100000 in
theorem pz_one_err (F : Interp) (R : Nat) (a : Option Addr) (len cap : Nat) (off e n : Nat) (w : World) (hF : F.answers w.tape) (h1 : off ≤ e) (h2 : e ≤ 8388608) (n0 : 1 ≤ n) (n1 : n ≤ 32) (hno : e < off + n)
    (hR : w.heap[R]? = some (rdO a len cap off e)) :
    Calls Ybaf.prog 9 #[.pointer (some ⟨R, 0, none⟩), .bool false, .int .i64 n] w fun x w' => (∃ v y p, x = .returned (.tuple #[.int .u64 v, .bool y, .iface 81 (.pointer p)])) ∧ Kept R w w' ∧ w'.heap[R]? = some (rdO a len cap off e) := by
  go_enter Ybaf.func9, Ybaf.ntmps9
  go_wp2_with fail
  refine (pres_no n w n1).mono ?_
  rintro x w1 ⟨rfl, rfl⟩
  go_wp2_with fail
  refine (bits_err F R a len cap off e n w hF h1 h2 n1 hno hR).mono ?_
  rintro x w2 ⟨⟨p, rfl⟩, hK, hR2⟩
  have HK : Hid (Kept R w w2) := hK
  have HR : Hid (w2.heap[R]? = some (rdO a len cap off e)) := hR2
  clear hK hR2 hR hF
  go_wp2_with fail
  go_quiet (fail)
  go_wp2_with fail
  go_ret3
  exact ⟨⟨_, _, p, rfl⟩, HK.out.drewN _, HR⟩

set_option maxHeartbeats 400000 in
set_option maxRecDepth 100000 in
/-- The extension bit and up to 31 optional components. -/
theorem pz_ext_ok (R : Nat) (a : Option Addr) (len cap : Nat) (off e n : Nat) (Z : Nat → Nat) (hZ : ∀ j, Z j < 256) (w : World) (h1 : off + (n + 1) ≤ e) (h2 : e ≤ 8 * len) (h3 : len ≤ 1048576) (hcap : len ≤ cap) (n1 : n + 1 ≤ 32)
    (hR : w.heap[R]? = some (rdO a len cap off e)) (hb : Buf w a len Z R) :
    Calls Ybaf.prog 9 #[.pointer (some ⟨R, 0, none⟩), .bool true, .int .i64 n] w fun x w' => x = .returned (.tuple #[.int .u64 (fld Z (off + 1) n : Nat), .bool (bit Z off == 1), .nilIface]) ∧ Kept R w w' ∧ w'.heap[R]? = some (rdO a len cap ((off + (n + 1) : Nat) : Int) e) := by
  go_enter Ybaf.func9, Ybaf.ntmps9
  go_wp2_with fail
  refine (pres_ext n w n1).mono ?_
  rintro x w1 ⟨rfl, rfl⟩
  go_wp2_with fail
  refine (bits_ok R a len cap off e (n + 1) Z hZ w h1 h2 h3 hcap (by omega) n1 hR hb).mono ?_
  rintro x w2 ⟨rfl, hK, hR2⟩
  have HK : Hid (Kept R w w2) := hK
  have HR : Hid (w2.heap[R]? = some (rdO a len cap ((off + (n + 1) : Nat) : Int) e)) := hR2
  have hfl := fld_lt Z off (n + 1)
  have h32 : 2 ^ (n + 1) ≤ 2 ^ 32 := Nat.pow_le_pow_right (by omega) n1
  have hfb : fld Z off (n + 1) < 4294967296 := by omega
  clear hK hR2 hR hb hfl h32
  go_wp2_with fail
  go_quiet (fail)
  go_wp2_with fail
  go_ret3
  exact ⟨ret_three (ext_val Z off n n1) (ext_head Z off n), HK.out.drewN _, HR⟩

set_option maxHeartbeats 400000 in
set_option maxRecDepth 100000 in
theorem pz_ext_err (F : Interp) (R : Nat) (a : Option Addr) (len cap : Nat) (off e n : Nat) (w : World) (hF : F.answers w.tape) (h1 : off ≤ e) (h2 : e ≤ 8388608) (n1 : n + 1 ≤ 32) (hno : e < off + (n + 1))
    (hR : w.heap[R]? = some (rdO a len cap off e)) :
    Calls Ybaf.prog 9 #[.pointer (some ⟨R, 0, none⟩), .bool true, .int .i64 n] w fun x w' => (∃ v y p, x = .returned (.tuple #[.int .u64 v, .bool y, .iface 81 (.pointer p)])) ∧ Kept R w w' ∧ w'.heap[R]? = some (rdO a len cap off e) := by
  go_enter Ybaf.func9, Ybaf.ntmps9
  go_wp2_with fail
  refine (pres_ext n w n1).mono ?_
  rintro x w1 ⟨rfl, rfl⟩
  go_wp2_with fail
  refine (bits_err F R a len cap off e (n + 1) w hF h1 h2 n1 hno hR).mono ?_
  rintro x w2 ⟨⟨p, rfl⟩, hK, hR2⟩
  have HK : Hid (Kept R w w2) := hK
  have HR : Hid (w2.heap[R]? = some (rdO a len cap off e)) := hR2
  clear hK hR2 hR hF
  go_wp2_with fail
  go_quiet (fail)
  go_wp2_with fail
  go_ret3
  exact ⟨⟨_, _, p, rfl⟩, HK.out.drewN _, HR⟩

set_option maxHeartbeats 400000 in
set_option maxRecDepth 100000 in
/-- Nothing to read. -/
theorem pz_none (R : Nat) (w : World) :
    Calls Ybaf.prog 9 #[.pointer (some ⟨R, 0, none⟩), .bool false, .int .i64 0] w fun x w' => x = .returned (.tuple #[.int .u64 0, .bool false, .nilIface]) ∧ w = w' := by
  go_enter Ybaf.func9, Ybaf.ntmps9
  go_wp2_with fail
  refine (pres_no 0 w (by omega)).mono ?_
  rintro x w1 ⟨rfl, rfl⟩
  go_wp2_with fail
  refine wp_loop_rounds 1 ?_
  rw [rounds_succ]
  go_wp2_with fail
  go_ret3
  exact ⟨rfl, rfl⟩
end Go.Proofs.YbulkesaiFmt
