/- r.Bits(n); ReadBoolean; PresenceField. -/
import Derived.Test.YbulkesaiFmtShort
namespace Go.Proofs.YbulkesaiFmt
open Go.ChangeShapes Go.WideShapes Go.ChangeAt Go.RowKit
open Go.Extern.Stop Go.Stop Go.Extern
set_option linter.unusedVariables false

theorem Kept.of_same {R : Nat} {w w' : World} (h : Same w w') : Kept R w w' := ⟨h.os, h.tape, h.output, by rw [h.heap]; exact Nat.le_refl _, fun k _ _ => by rw [h.heap]⟩

set_option maxHeartbeats 400000 in
set_option maxRecDepth 100000 in
theorem bits_err (F : Interp) (R : Nat) (a : Option Addr) (len cap : Nat) (off e n : Nat) (w : World) (hF : F.answers w.tape) (h1 : off ≤ e) (h2 : e ≤ 8388608) (n1 : n ≤ 32) (hno : e < off + n) (hR : w.heap[R]? = some (rdO a len cap off e)) :
    Calls Ybaf.prog 17 #[.pointer (some ⟨R, 0, none⟩), .int .i64 n] w fun x w' => (∃ p, x = .returned (.tuple #[.int .u32 0, .iface 81 (.pointer p)])) ∧ Kept R w w' ∧ w'.heap[R]? = some (rdO a len cap off e) := by
  go_enter Ybaf.func17, Ybaf.ntmps17
  go_wp2_with fail
  refine (peek_past R a len cap off e n w (by omega) (by omega) (by omega) (by omega) (by omega) (by omega) hR).mono ?_
  rintro x w1 ⟨rfl, hS⟩
  have hR1 := hS.blk hR
  have hF1 := hS.ans hF
  have HK1 : Hid (Kept R w w1) := Kept.of_same hS
  clear hS hR hF
  go_wp2_with fail
  refine (short_err F R a len cap off e n w1 hF1 (by omega) (by omega) (by omega) (by omega) (by omega) (by omega) hR1).mono ?_
  rintro x w2 ⟨⟨p, rfl⟩, hB⟩
  have HK : Hid (Kept R w w2) := HK1.out.trans (Kept.of_below hB)
  have HR : Hid (w2.heap[R]? = some (rdO a len cap off e)) := (hB.block R (rd_cells hR1).2.2.2.2).trans hR1
  clear hB HK1 hR1 hF1
  go_wp2_with fail
  go_ret2
  exact ⟨⟨p, rfl⟩, HK, HR⟩

set_option maxHeartbeats 400000 in
set_option maxRecDepth 100000 in
theorem bits_ok (R : Nat) (a : Option Addr) (len cap : Nat) (off e n : Nat) (Z : Nat → Nat) (hZ : ∀ j, Z j < 256) (w : World) (h1 : off + n ≤ e) (h2 : e ≤ 8 * len) (h3 : len ≤ 1048576) (hcap : len ≤ cap) (n0 : 1 ≤ n) (n1 : n ≤ 32)
    (hR : w.heap[R]? = some (rdO a len cap off e)) (hb : Buf w a len Z R) :
    Calls Ybaf.prog 17 #[.pointer (some ⟨R, 0, none⟩), .int .i64 n] w fun x w' => x = .returned (.tuple #[.int .u32 (fld Z off n : Nat), .nilIface]) ∧ Kept R w w' ∧ w'.heap[R]? = some (rdO a len cap ((off + n : Nat) : Int) e) := by
  obtain ⟨b, o, rfl, hbs, hbR, hc⟩ := hb 0 (by omega)
  by_cases hl : 8 ≤ len
  · go_enter Ybaf.func17, Ybaf.ntmps17
    go_wp2_with fail
    refine (peek_ok R b o len cap off e n Z hZ w h1 h2 h3 hcap n0 n1 hl hR hc).mono ?_
    rintro x w1 ⟨rfl, hB⟩
    have hR1 : w1.heap[R]? = some (rdO (some ⟨b, o, none⟩) len cap off e) := (hB.block R (rd_cells hR).2.2.2.2).trans hR
    have HK1 : Hid (Kept R w w1) := Kept.of_below hB
    clear hB hR hc
    have hd1 : decide ((n : Int) - 1 < 32) = true := decide_eq_true (by omega)
    go_wp2_with fail
    refine (skip_any R (some ⟨b, o, none⟩) len cap off e n w1 (by omega) (by omega) (by omega) (by omega) hR1).mono ?_
    rintro x w2 ⟨rfl, rfl⟩
    have HK : Hid (Kept R w (w1.setCell ⟨R, 1, none⟩ (.int .i64 ((off : Int) + n)))) := HK1.out.setCell 1 _
    have HR : Hid ((w1.setCell ⟨R, 1, none⟩ (.int .i64 ((off : Int) + n))).heap[R]? = some (rdO (some ⟨b, o, none⟩) len cap ((off : Int) + n) e)) := rd_set hR1 _
    clear HK1 hR1
    go_wp2_with fail
    go_ret2
    exact ⟨rfl, HK, by exact HR⟩
  · go_enter Ybaf.func17, Ybaf.ntmps17
    go_wp2_with fail
    refine (peek_short R (some ⟨b, o, none⟩) len cap off e n w (by omega) (by omega) (by omega) (by omega) (by omega) (by omega) (by omega) hR).mono ?_
    rintro x w1 ⟨rfl, hS⟩
    have hR1 := hS.blk hR
    have hc1 : ∀ j, j < len → w1.cell? ⟨b, o + j, none⟩ = some (.int .u8 (Z j : Nat)) := fun j hj => (hS.cell _).trans (hc j hj)
    have HK1 : Hid (Kept R w w1) := Kept.of_same hS
    clear hS hR hc
    go_wp2_with fail
    refine (short_ok R b o len cap off e n Z hZ w1 h1 h2 h3 hcap n0 n1 hR1 hbR hc1).mono ?_
    rintro x w2 ⟨rfl, hK, hR2⟩
    have HK : Hid (Kept R w w2) := HK1.out.trans hK
    have HR : Hid (w2.heap[R]? = some (rdO (some ⟨b, o, none⟩) len cap ((off + n : Nat) : Int) e)) := hR2
    clear hK hR2 HK1 hR1 hc1
    go_wp2_with fail
    go_ret2
    exact ⟨rfl, HK, HR⟩

/-! PresenceField: the width where it is one field of at most 32 bits, else 0. -/
set_option maxRecDepth 100000 in
theorem pres_no (n : Nat) (w : World) (h : n ≤ 32) : Calls Ybaf.prog 16 #[.bool false, .int .i64 n] w fun x w' => x = .returned (.int .i64 n) ∧ w = w' := by
  go_enter Ybaf.func16, Ybaf.ntmps16
  go_wp2
  go_ret
  exact ⟨rfl, rfl⟩
set_option maxRecDepth 100000 in
theorem pres_no0 (n : Nat) (w : World) (h : 32 < n) (hn : n ≤ 64) : Calls Ybaf.prog 16 #[.bool false, .int .i64 n] w fun x w' => x = .returned (.int .i64 0) ∧ w = w' := by
  go_enter Ybaf.func16, Ybaf.ntmps16
  go_wp2
  go_ret
  exact ⟨rfl, rfl⟩
set_option maxRecDepth 100000 in
theorem pres_ext (n : Nat) (w : World) (h : n + 1 ≤ 32) : Calls Ybaf.prog 16 #[.bool true, .int .i64 n] w fun x w' => x = .returned (.int .i64 ((n : Int) + 1)) ∧ w = w' := by
  go_enter Ybaf.func16, Ybaf.ntmps16
  go_wp2
  go_ret
  exact ⟨rfl, rfl⟩
set_option maxRecDepth 100000 in
theorem pres_ext0 (n : Nat) (w : World) (h : 32 < n + 1) (hn : n ≤ 64) : Calls Ybaf.prog 16 #[.bool true, .int .i64 n] w fun x w' => x = .returned (.int .i64 0) ∧ w = w' := by
  go_enter Ybaf.func16, Ybaf.ntmps16
  go_wp2
  go_ret
  exact ⟨rfl, rfl⟩

theorem ret_two {a b : Bool} {x : Value} (h : a = b) : Ending.returned (.tuple #[.bool a, x]) = .returned (.tuple #[.bool b, x]) := by rw [h]
theorem fld_is_one (Z : Nat → Nat) (p : Nat) : (((fld Z p 1 : Nat) : Int) == 1) = (bit Z p == 1) := by
  rw [fld_one]
  have := bit_lt Z p
  by_cases h : bit Z p = 1
  · simp [h]
  · have h0 : bit Z p = 0 := by omega
    simp [h0]
set_option maxRecDepth 100000 in
theorem bool_ok (R : Nat) (a : Option Addr) (len cap : Nat) (off e : Nat) (Z : Nat → Nat) (hZ : ∀ j, Z j < 256) (w : World) (h1 : off + 1 ≤ e) (h2 : e ≤ 8 * len) (h3 : len ≤ 1048576) (hcap : len ≤ cap)
    (hR : w.heap[R]? = some (rdO a len cap off e)) (hb : Buf w a len Z R) :
    Calls Ybaf.prog 18 #[.pointer (some ⟨R, 0, none⟩)] w fun x w' => x = .returned (.tuple #[.bool (bit Z off == 1), .nilIface]) ∧ Kept R w w' ∧ w'.heap[R]? = some (rdO a len cap ((off + 1 : Nat) : Int) e) := by
  go_enter Ybaf.func18, Ybaf.ntmps18
  go_wp2_with fail
  refine (bits_ok R a len cap off e 1 Z hZ w h1 h2 h3 hcap (by omega) (by omega) hR hb).mono ?_
  rintro x w2 ⟨rfl, hK, hR2⟩
  have HK : Hid (Kept R w w2) := hK
  have HR : Hid (w2.heap[R]? = some (rdO a len cap ((off + 1 : Nat) : Int) e)) := hR2
  clear hK hR2 hR hb
  go_wp2_with fail
  go_ret2
  exact ⟨ret_two (fld_is_one Z off), HK, HR⟩
set_option maxRecDepth 100000 in
theorem bool_err (F : Interp) (R : Nat) (a : Option Addr) (len cap : Nat) (off e : Nat) (w : World) (hF : F.answers w.tape) (h1 : off ≤ e) (h2 : e ≤ 8388608) (hno : e < off + 1) (hR : w.heap[R]? = some (rdO a len cap off e)) :
    Calls Ybaf.prog 18 #[.pointer (some ⟨R, 0, none⟩)] w fun x w' => (∃ p, x = .returned (.tuple #[.bool false, .iface 81 (.pointer p)])) ∧ Kept R w w' ∧ w'.heap[R]? = some (rdO a len cap off e) := by
  go_enter Ybaf.func18, Ybaf.ntmps18
  go_wp2_with fail
  refine (bits_err F R a len cap off e 1 w hF h1 h2 (by omega) hno hR).mono ?_
  rintro x w2 ⟨⟨p, rfl⟩, hK, hR2⟩
  have HK : Hid (Kept R w w2) := hK
  have HR : Hid (w2.heap[R]? = some (rdO a len cap off e)) := hR2
  clear hK hR2 hR hF
  go_wp2_with fail
  go_ret2
  exact ⟨⟨p, rfl⟩, HK, HR⟩
end Go.Proofs.YbulkesaiFmt
