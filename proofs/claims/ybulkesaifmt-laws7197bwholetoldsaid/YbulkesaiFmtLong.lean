/- ReadPresence where the preamble is longer than 32 bits: a bit, then fields of at most 32. -/
import Derived.Test.YbulkesaiFmtPres
namespace Go.Proofs.YbulkesaiFmt
open Go.ChangeShapes Go.WideShapes Go.ChangeAt Go.RowKit
open Go.Extern.Stop Go.Stop Go.Extern
set_option linter.unusedVariables false

/-- Where the reader stands when a field passes the end: n at most 64. -/
def stopPos (e p n : Nat) : Nat := if e < p + min n 32 then p else p + 32
/-- The state at the loop's head. -/
def Run (Z : Nat → Nat) (R : Nat) (a : Option Addr) (len cap e p n : Nat) (W : World) (m v err : Value) (wr : World) : Prop :=
  (∃ d mm : Nat, n = d + mm ∧ m = .int .i64 mm ∧ v = .int .u64 (fld Z p d : Nat) ∧ err = .nilIface ∧ (d = 0 ∨ d = 32 ∨ mm = 0) ∧ p + d ≤ e ∧ wr.heap[R]? = some (rdO a len cap ((p + d : Nat) : Int) e) ∧ Kept R W wr) ∨
  (∃ (mm : Nat) (x : Int) (q : Option Addr), m = .int .i64 mm ∧ v = .int .u64 x ∧ err = .iface 81 (.pointer q) ∧ mm ≤ n ∧ e < p + n ∧ wr.heap[R]? = some (rdO a len cap (stopPos e p n : Nat) e) ∧ Kept R W wr)

theorem join_val (Z : Nat → Nat) (p d c : Nat) (h : d + c ≤ 64) : bits BinOp.or IntKind.u64 (IntKind.u64.wrap ((fld Z p d : Nat) * 2 ^ c)) (IntKind.u64.wrap (fld Z (p + d) c : Nat)) = ((fld Z p (d + c) : Nat) : Int) := by
  have e := fld_add Z p d c
  have h1 := fld_lt Z p (d + c)
  have h2 := fld_lt Z (p + d) c
  have h64 : 2 ^ (d + c) ≤ 2 ^ 64 := Nat.pow_le_pow_right (by omega) h
  rw [show (2 : Nat) ^ 64 = 18446744073709551616 from by decide] at h64
  have e0 : ((fld Z p d : Nat) : Int) * 2 ^ c = ((fld Z p d * 2 ^ c : Nat) : Int) := by rw [Int.natCast_mul, Int.natCast_pow]; rfl
  have e1 : ((2 : Int) ^ c) = ((2 ^ c : Nat) : Int) := by rw [Int.natCast_pow]; rfl
  have e2 : (2 : Int) ^ 64 = 18446744073709551616 := by decide
  rw [e0, u64_wrap_id _ (by omega) (by omega), u64_wrap_id _ (by omega) (by omega),
    bits_join .u64 64 (by decide) wraps_u64 c _ _ (by omega) (by rw [e1, ← Int.natCast_emod, Nat.mul_mod_left]; rfl) (by rw [e2]; omega) (by omega) (by rw [e1]; omega) (by rw [e2]; omega)]
  omega

theorem join32 (Z : Nat → Nat) (p : Nat) : bits BinOp.or IntKind.u64 (IntKind.u64.wrap ((fld Z p 0 : Nat) * 4294967296)) (IntKind.u64.wrap (fld Z p 32 : Nat)) = ((fld Z p 32 : Nat) : Int) := by
  have h := join_val Z p 0 32 (by omega)
  rw [show ((2 : Int) ^ 32) = 4294967296 from by decide, Nat.add_zero, Nat.zero_add] at h
  exact h
theorem int_congr {k : IntKind} {a b : Int} (h : a = b) : Value.int k a = .int k b := by rw [h]

set_option maxHeartbeats 800000 in
set_option maxRecDepth 100000 in
theorem pz_long_no (F : Interp) (R : Nat) (a : Option Addr) (len cap : Nat) (off e n : Nat) (Z : Nat → Nat) (hZ : ∀ j, Z j < 256) (w : World) (hF : F.answers w.tape) (h1 : off ≤ e) (h2 : e ≤ 8 * len) (h3 : len ≤ 1048576) (hcap : len ≤ cap) (n0 : 32 < n) (n1 : n ≤ 64)
    (hR : w.heap[R]? = some (rdO a len cap off e)) (hb : Buf w a len Z R) :
    Calls Ybaf.prog 9 #[.pointer (some ⟨R, 0, none⟩), .bool false, .int .i64 n] w fun x w' => Kept R w w' ∧
      ((off + n ≤ e ∧ x = .returned (.tuple #[.int .u64 (fld Z off n : Nat), .bool false, .nilIface]) ∧ w'.heap[R]? = some (rdO a len cap ((off + n : Nat) : Int) e)) ∨
       (e < off + n ∧ (∃ v y q, x = .returned (.tuple #[.int .u64 v, .bool y, .iface 81 (.pointer q)])) ∧ w'.heap[R]? = some (rdO a len cap (stopPos e off n : Nat) e))) := by
  go_enter Ybaf.func9, Ybaf.ntmps9
  go_wp2_with fail
  refine (pres_no0 n w n0 n1).mono ?_
  rintro x w1 ⟨rfl, rfl⟩
  go_wp2_with fail
  go_loopw [2, 6, 8] (fun m v err wr => Run Z R a len cap e off n w m v err wr) (fun m _ _ _ => (intOf m).toNat)
  case atStart => exact Or.inl ⟨0, n, by omega, rfl, rfl, rfl, Or.inl rfl, by omega, hR, Kept.refl _ _⟩
  case round =>
    rcases hrel with ⟨d, mm, hn, rfl, rfl, rfl, hd, hpe, hRr, hK⟩ | ⟨mm, x, q, rfl, rfl, rfl, hmm, hlt, hRr, hK⟩
    · have HN : Hid (n = d + mm) := hn
      have hmn : mm ≤ n := by omega
      have hdn : d ≤ n := by omega
      by_cases hm0 : mm = 0
      · subst hm0
        have HK : Hid (Kept R w wr) := hK
        have HR : Hid (wr.heap[R]? = some (rdO a len cap ((off + d : Nat) : Int) e)) := hRr
        clear hK hRr hb hR hn
        go_wp2_with fail
        go_ret3
        obtain rfl : d = n := by have := HN.out; omega
        exact ⟨HK, Or.inl ⟨hpe, rfl, HR⟩⟩
      · by_cases hc : mm ≤ 32
        · have hmi : (mm : Int) ≤ 32 := by omega
          have hpos : (0 : Int) < (mm : Int) := by omega
          by_cases hfit : off + d + mm ≤ e
          · have hbr := hb.kept hK
            clear hn
            go_wp2_with fail
            refine (bits_ok R a len cap (off + d) e mm Z hZ wr hfit h2 h3 hcap (by omega) hc hRr hbr).mono ?_
            rintro x w2 ⟨rfl, hK2, hR2⟩
            have HK : Hid (Kept R w w2) := hK.trans hK2
            have HR : Hid (w2.heap[R]? = some (rdO a len cap ((off + d + mm : Nat) : Int) e)) := hR2
            clear hK hK2 hR2 hRr hbr hb hR
            go_wp2_with fail
            have hv := join_val Z off d mm (by have := HN.out; omega)
            have hdm : d + mm = n := by have := HN.out; omega
            go_roundw
            case rel => exact Or.inl ⟨n, 0, by omega, rfl, by rw [hv, hdm], rfl, Or.inr (Or.inr rfl), by omega, by rw [← hdm, ← Nat.add_assoc]; exact HR, HK⟩
            case measure => simp [intOf]; omega
          · clear hn
            go_wp2_with fail
            refine (bits_err F R a len cap (off + d) e mm wr (hK.ans hF) (by omega) (by omega) hc (by omega) hRr).mono ?_
            rintro x w2 ⟨⟨q, rfl⟩, hK2, hR2⟩
            have HK : Hid (Kept R w w2) := hK.trans hK2
            have HR : Hid (w2.heap[R]? = some (rdO a len cap ((off + d : Nat) : Int) e)) := hR2
            clear hK hK2 hR2 hRr hb hR
            go_wp2_with fail
            have hs : stopPos e off n = off + d := by have := HN.out; unfold stopPos; split <;> omega
            go_roundw
            case rel => exact Or.inr ⟨0, _, q, rfl, rfl, rfl, by omega, by have := HN.out; omega, by rw [hs]; exact HR, HK⟩
            case measure => simp [intOf]; omega
        · have hmi : (32 : Int) < (mm : Int) := by omega
          obtain rfl : d = 0 := by omega
          by_cases hfit : off + 0 + 32 ≤ e
          · have hbr := hb.kept hK
            clear hn
            go_wp2_with fail
            refine (bits_ok R a len cap (off + 0) e 32 Z hZ wr hfit h2 h3 hcap (by omega) (by omega) hRr hbr).mono ?_
            rintro x w2 ⟨rfl, hK2, hR2⟩
            have HK : Hid (Kept R w w2) := hK.trans hK2
            have HR : Hid (w2.heap[R]? = some (rdO a len cap ((off + 0 + 32 : Nat) : Int) e)) := hR2
            clear hK hK2 hR2 hRr hbr hb hR
            go_wp2_with fail
            have hv := join32 Z off
            have hmn' : 32 + (mm - 32) = n := by have := HN.out; omega
            go_roundw
            case rel => exact Or.inl ⟨32, mm - 32, hmn'.symm, int_congr (by omega), int_congr hv, rfl, Or.inr (Or.inl rfl), by omega, HR, HK⟩
            case measure => simp [intOf]; omega
          · clear hn
            go_wp2_with fail
            refine (bits_err F R a len cap (off + 0) e 32 wr (hK.ans hF) (by omega) (by omega) (by omega) (by omega) hRr).mono ?_
            rintro x w2 ⟨⟨q, rfl⟩, hK2, hR2⟩
            have HK : Hid (Kept R w w2) := hK.trans hK2
            have HR : Hid (w2.heap[R]? = some (rdO a len cap ((off + 0 : Nat) : Int) e)) := hR2
            clear hK hK2 hR2 hRr hb hR
            go_wp2_with fail
            have hs : stopPos e off n = off := by have := HN.out; unfold stopPos; split <;> omega
            go_roundw
            case rel => exact Or.inr ⟨mm - 32, _, q, int_congr (by omega), rfl, rfl, by omega, by have := HN.out; omega, by rw [hs]; exact HR, HK⟩
            case measure => simp [intOf]; omega
    · have HK : Hid (Kept R w wr) := hK
      have HR : Hid (wr.heap[R]? = some (rdO a len cap (stopPos e off n : Nat) e)) := hRr
      clear hK hRr hb hR
      by_cases hm0 : mm = 0
      · subst hm0
        go_wp2_with fail
        go_ret3
        exact ⟨HK, Or.inr ⟨hlt, ⟨_, _, q, rfl⟩, HR⟩⟩
      · have hpos : (0 : Int) < (mm : Int) := by omega
        go_wp2_with fail
        go_ret3
        exact ⟨HK, Or.inr ⟨hlt, ⟨_, _, q, rfl⟩, HR⟩⟩

set_option maxHeartbeats 800000 in
set_option maxRecDepth 100000 in
theorem pz_long_ext0 (F : Interp) (R : Nat) (a : Option Addr) (len cap : Nat) (off e n : Nat) (Z : Nat → Nat) (hZ : ∀ j, Z j < 256) (w : World) (hF : F.answers w.tape) (p : Nat) (hp : p = off + 1) (ad : Bool) (had : ad = (bit Z off == 1)) (h1 : p ≤ e) (h2 : e ≤ 8 * len) (h3 : len ≤ 1048576) (hcap : len ≤ cap) (n0 : 32 ≤ n) (n1 : n ≤ 64)
    (hR : w.heap[R]? = some (rdO a len cap off e)) (hb : Buf w a len Z R) :
    Calls Ybaf.prog 9 #[.pointer (some ⟨R, 0, none⟩), .bool true, .int .i64 n] w fun x w' => Kept R w w' ∧
      ((p + n ≤ e ∧ x = .returned (.tuple #[.int .u64 (fld Z p n : Nat), .bool ad, .nilIface]) ∧ w'.heap[R]? = some (rdO a len cap ((p + n : Nat) : Int) e)) ∨
       (e < p + n ∧ (∃ v y q, x = .returned (.tuple #[.int .u64 v, .bool y, .iface 81 (.pointer q)])) ∧ w'.heap[R]? = some (rdO a len cap (stopPos e p n : Nat) e))) := by
  have HP : Hid (p = off + 1) := hp
  have HA : Hid (ad = (bit Z off == 1)) := had
  clear hp had
  go_enter Ybaf.func9, Ybaf.ntmps9
  go_wp2_with fail
  refine (pres_ext0 n w (by omega) n1).mono ?_
  rintro x w1 ⟨rfl, rfl⟩
  go_wp2_with fail
  refine (bool_ok R a len cap off e Z hZ w (by rw [← HP.out]; exact h1) h2 h3 hcap hR hb).mono ?_
  rintro x w2 ⟨rfl, hK0, hR0⟩
  have HK0 : Hid (Kept R w w2) := hK0
  clear hR hK0
  rw [← HP.out] at hR0
  rw [← HA.out]
  have hR := hR0
  clear hR0 HP HA
  go_wp2_with fail
  go_loopw [2, 6, 8] (fun m v err wr => Run Z R a len cap e p n w m v err wr) (fun m _ _ _ => (intOf m).toNat)
  case atStart => exact Or.inl ⟨0, n, by omega, rfl, rfl, rfl, Or.inl rfl, by omega, hR, HK0⟩
  case round =>
    rcases hrel with ⟨d, mm, hn, rfl, rfl, rfl, hd, hpe, hRr, hK⟩ | ⟨mm, x, q, rfl, rfl, rfl, hmm, hlt, hRr, hK⟩
    · have HN : Hid (n = d + mm) := hn
      have hmn : mm ≤ n := by omega
      have hdn : d ≤ n := by omega
      by_cases hm0 : mm = 0
      · subst hm0
        have HK : Hid (Kept R w wr) := hK
        have HR : Hid (wr.heap[R]? = some (rdO a len cap ((p + d : Nat) : Int) e)) := hRr
        clear hK hRr hb hR hn
        go_wp2_with fail
        go_ret3
        obtain rfl : d = n := by have := HN.out; omega
        exact ⟨HK, Or.inl ⟨hpe, rfl, HR⟩⟩
      · by_cases hc : mm ≤ 32
        · have hmi : (mm : Int) ≤ 32 := by omega
          have hpos : (0 : Int) < (mm : Int) := by omega
          by_cases hfit : p + d + mm ≤ e
          · have hbr := hb.kept hK
            clear hn
            go_wp2_with fail
            refine (bits_ok R a len cap (p + d) e mm Z hZ wr hfit h2 h3 hcap (by omega) hc hRr hbr).mono ?_
            rintro x w2 ⟨rfl, hK2, hR2⟩
            have HK : Hid (Kept R w w2) := hK.trans hK2
            have HR : Hid (w2.heap[R]? = some (rdO a len cap ((p + d + mm : Nat) : Int) e)) := hR2
            clear hK hK2 hR2 hRr hbr hb hR
            go_wp2_with fail
            have hv := join_val Z p d mm (by have := HN.out; omega)
            have hdm : d + mm = n := by have := HN.out; omega
            go_roundw
            case rel => exact Or.inl ⟨n, 0, by omega, rfl, by rw [hv, hdm], rfl, Or.inr (Or.inr rfl), by omega, by rw [← hdm, ← Nat.add_assoc]; exact HR, HK⟩
            case measure => simp [intOf]; omega
          · clear hn
            go_wp2_with fail
            refine (bits_err F R a len cap (p + d) e mm wr (hK.ans hF) (by omega) (by omega) hc (by omega) hRr).mono ?_
            rintro x w2 ⟨⟨q, rfl⟩, hK2, hR2⟩
            have HK : Hid (Kept R w w2) := hK.trans hK2
            have HR : Hid (w2.heap[R]? = some (rdO a len cap ((p + d : Nat) : Int) e)) := hR2
            clear hK hK2 hR2 hRr hb hR
            go_wp2_with fail
            have hs : stopPos e p n = p + d := by have := HN.out; unfold stopPos; split <;> omega
            go_roundw
            case rel => exact Or.inr ⟨0, _, q, rfl, rfl, rfl, by omega, by have := HN.out; omega, by rw [hs]; exact HR, HK⟩
            case measure => simp [intOf]; omega
        · have hmi : (32 : Int) < (mm : Int) := by omega
          obtain rfl : d = 0 := by omega
          by_cases hfit : p + 0 + 32 ≤ e
          · have hbr := hb.kept hK
            clear hn
            go_wp2_with fail
            refine (bits_ok R a len cap (p + 0) e 32 Z hZ wr hfit h2 h3 hcap (by omega) (by omega) hRr hbr).mono ?_
            rintro x w2 ⟨rfl, hK2, hR2⟩
            have HK : Hid (Kept R w w2) := hK.trans hK2
            have HR : Hid (w2.heap[R]? = some (rdO a len cap ((p + 0 + 32 : Nat) : Int) e)) := hR2
            clear hK hK2 hR2 hRr hbr hb hR
            go_wp2_with fail
            have hv := join32 Z p
            have hmn' : 32 + (mm - 32) = n := by have := HN.out; omega
            go_roundw
            case rel => exact Or.inl ⟨32, mm - 32, hmn'.symm, int_congr (by omega), int_congr hv, rfl, Or.inr (Or.inl rfl), by omega, HR, HK⟩
            case measure => simp [intOf]; omega
          · clear hn
            go_wp2_with fail
            refine (bits_err F R a len cap (p + 0) e 32 wr (hK.ans hF) (by omega) (by omega) (by omega) (by omega) hRr).mono ?_
            rintro x w2 ⟨⟨q, rfl⟩, hK2, hR2⟩
            have HK : Hid (Kept R w w2) := hK.trans hK2
            have HR : Hid (w2.heap[R]? = some (rdO a len cap ((p + 0 : Nat) : Int) e)) := hR2
            clear hK hK2 hR2 hRr hb hR
            go_wp2_with fail
            have hs : stopPos e p n = p := by have := HN.out; unfold stopPos; split <;> omega
            go_roundw
            case rel => exact Or.inr ⟨mm - 32, _, q, int_congr (by omega), rfl, rfl, by omega, by have := HN.out; omega, by rw [hs]; exact HR, HK⟩
            case measure => simp [intOf]; omega
    · have HK : Hid (Kept R w wr) := hK
      have HR : Hid (wr.heap[R]? = some (rdO a len cap (stopPos e p n : Nat) e)) := hRr
      clear hK hRr hb hR
      by_cases hm0 : mm = 0
      · subst hm0
        go_wp2_with fail
        go_ret3
        exact ⟨HK, Or.inr ⟨hlt, ⟨_, _, q, rfl⟩, HR⟩⟩
      · have hpos : (0 : Int) < (mm : Int) := by omega
        go_wp2_with fail
        go_ret3
        exact ⟨HK, Or.inr ⟨hlt, ⟨_, _, q, rfl⟩, HR⟩⟩
theorem pz_long_ext (F : Interp) (R : Nat) (a : Option Addr) (len cap : Nat) (off e n : Nat) (Z : Nat → Nat) (hZ : ∀ j, Z j < 256) (w : World) (hF : F.answers w.tape) (h1 : off + 1 ≤ e) (h2 : e ≤ 8 * len) (h3 : len ≤ 1048576) (hcap : len ≤ cap) (n0 : 32 ≤ n) (n1 : n ≤ 64)
    (hR : w.heap[R]? = some (rdO a len cap off e)) (hb : Buf w a len Z R) :
    Calls Ybaf.prog 9 #[.pointer (some ⟨R, 0, none⟩), .bool true, .int .i64 n] w fun x w' => Kept R w w' ∧
      ((off + 1 + n ≤ e ∧ x = .returned (.tuple #[.int .u64 (fld Z (off + 1) n : Nat), .bool (bit Z off == 1), .nilIface]) ∧ w'.heap[R]? = some (rdO a len cap ((off + 1 + n : Nat) : Int) e)) ∨
       (e < off + 1 + n ∧ (∃ v y q, x = .returned (.tuple #[.int .u64 v, .bool y, .iface 81 (.pointer q)])) ∧ w'.heap[R]? = some (rdO a len cap (stopPos e (off + 1) n : Nat) e))) :=
  pz_long_ext0 F R a len cap off e n Z hZ w hF (off + 1) rfl _ rfl h1 h2 h3 hcap n0 n1 hR hb

set_option maxHeartbeats 400000 in
set_option maxRecDepth 100000 in
/-- Not even the extension bit is there. -/
theorem pz_long_ext_err (F : Interp) (R : Nat) (a : Option Addr) (len cap : Nat) (off e n : Nat) (w : World) (hF : F.answers w.tape) (h1 : off ≤ e) (h2 : e ≤ 8388608) (hno : e < off + 1) (n0 : 32 ≤ n) (n1 : n ≤ 64)
    (hR : w.heap[R]? = some (rdO a len cap off e)) :
    Calls Ybaf.prog 9 #[.pointer (some ⟨R, 0, none⟩), .bool true, .int .i64 n] w fun x w' => (∃ v y q, x = .returned (.tuple #[.int .u64 v, .bool y, .iface 81 (.pointer q)])) ∧ Kept R w w' ∧ w'.heap[R]? = some (rdO a len cap off e) := by
  go_enter Ybaf.func9, Ybaf.ntmps9
  go_wp2_with fail
  refine (pres_ext0 n w (by omega) n1).mono ?_
  rintro x w1 ⟨rfl, rfl⟩
  go_wp2_with fail
  refine (bool_err F R a len cap off e w hF h1 h2 hno hR).mono ?_
  rintro x w2 ⟨⟨q, rfl⟩, hK, hR2⟩
  have HK : Hid (Kept R w w2) := hK
  have HR : Hid (w2.heap[R]? = some (rdO a len cap off e)) := hR2
  clear hK hR2 hR hF
  go_wp2_with fail
  go_ret3
  exact ⟨⟨_, _, q, rfl⟩, HK, HR⟩
end Go.Proofs.YbulkesaiFmt
