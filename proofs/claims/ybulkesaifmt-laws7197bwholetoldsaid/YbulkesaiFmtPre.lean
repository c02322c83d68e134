/- ReadPresence in one contract; ReadPreamble. -/
import Derived.Test.YbulkesaiFmtLong
namespace Go.Proofs.YbulkesaiFmt
open Go.ChangeShapes Go.WideShapes Go.ChangeAt Go.RowKit
open Go.Extern.Stop Go.Stop Go.Extern
set_option linter.unusedVariables false

/-- Where the reader stands behind a preamble that passes the end. -/
def errPos (ext : Bool) (off e n : Nat) : Nat :=
  if n + ext.toNat ≤ 32 then off else if ext = true ∧ e < off + 1 then off else stopPos e (off + ext.toNat) n
theorem presence_all (F : Interp) (R : Nat) (a : Option Addr) (len cap : Nat) (off e n : Nat) (ext : Bool) (Z : Nat → Nat) (hZ : ∀ j, Z j < 256) (w : World) (hF : F.answers w.tape) (h1 : off ≤ e) (h2 : e ≤ 8 * len) (h3 : len ≤ 1048576) (hcap : len ≤ cap) (n1 : n ≤ 64)
    (hR : w.heap[R]? = some (rdO a len cap off e)) (hb : Buf w a len Z R) :
    Calls Ybaf.prog 9 #[.pointer (some ⟨R, 0, none⟩), .bool ext, .int .i64 n] w fun x w' => Kept R w w' ∧
      ((off + ext.toNat + n ≤ e ∧ x = .returned (.tuple #[.int .u64 (fld Z (off + ext.toNat) n : Nat), .bool (ext && bit Z off == 1), .nilIface]) ∧ w'.heap[R]? = some (rdO a len cap ((off + ext.toNat + n : Nat) : Int) e)) ∨
       (e < off + ext.toNat + n ∧ (∃ v y q, x = .returned (.tuple #[.int .u64 v, .bool y, .iface 81 (.pointer q)])) ∧ w'.heap[R]? = some (rdO a len cap (errPos ext off e n : Nat) e))) := by
  cases ext
  · by_cases hl : n ≤ 32
    · have ep : errPos false off e n = off := by simp [errPos, hl]
      by_cases h0 : n = 0
      · subst h0
        refine (pz_none R w).mono ?_
        rintro x w' ⟨rfl, rfl⟩
        exact ⟨Kept.refl _ _, Or.inl ⟨by simpa using h1, rfl, by simpa using hR⟩⟩
      · by_cases hfit : off + n ≤ e
        · refine (pz_one_ok R a len cap off e n Z hZ w hfit h2 h3 hcap (by omega) hl hR hb).mono ?_
          rintro x w' ⟨rfl, hK, hR2⟩
          exact ⟨hK, Or.inl ⟨by simpa using hfit, rfl, hR2⟩⟩
        · refine (pz_one_err F R a len cap off e n w hF h1 (by omega) (by omega) hl (by omega) hR).mono ?_
          rintro x w' ⟨hx, hK, hR2⟩
          exact ⟨hK, Or.inr ⟨by simp; omega, hx, by rw [ep]; exact hR2⟩⟩
    · have ep : errPos false off e n = stopPos e off n := by simp [errPos, hl]
      refine (pz_long_no F R a len cap off e n Z hZ w hF h1 h2 h3 hcap (by omega) n1 hR hb).mono ?_
      rintro x w' ⟨hK, ⟨hfit, rfl, hR2⟩ | ⟨hno, hx, hR2⟩⟩
      · exact ⟨hK, Or.inl ⟨by simpa using hfit, rfl, hR2⟩⟩
      · exact ⟨hK, Or.inr ⟨by simpa using hno, hx, by rw [ep]; exact hR2⟩⟩
  · by_cases hl : n + 1 ≤ 32
    · have ep : errPos true off e n = off := by simp [errPos, hl]
      by_cases hfit : off + (n + 1) ≤ e
      · refine (pz_ext_ok R a len cap off e n Z hZ w hfit h2 h3 hcap hl hR hb).mono ?_
        rintro x w' ⟨rfl, hK, hR2⟩
        exact ⟨hK, Or.inl ⟨by simp; omega, rfl, by rw [show off + true.toNat + n = off + (n + 1) from by simp; omega]; exact hR2⟩⟩
      · refine (pz_ext_err F R a len cap off e n w hF h1 (by omega) hl (by omega) hR).mono ?_
        rintro x w' ⟨hx, hK, hR2⟩
        exact ⟨hK, Or.inr ⟨by simp; omega, hx, by rw [ep]; exact hR2⟩⟩
    · by_cases hb1 : off + 1 ≤ e
      · have ep : errPos true off e n = stopPos e (off + 1) n := by
          unfold errPos
          rw [if_neg (by simpa using hl), if_neg (by simp; omega)]; rfl
        refine (pz_long_ext F R a len cap off e n Z hZ w hF hb1 h2 h3 hcap (by omega) n1 hR hb).mono ?_
        rintro x w' ⟨hK, ⟨hfit, rfl, hR2⟩ | ⟨hno, hx, hR2⟩⟩
        · exact ⟨hK, Or.inl ⟨by simpa using hfit, rfl, hR2⟩⟩
        · exact ⟨hK, Or.inr ⟨by simpa using hno, hx, by rw [ep]; exact hR2⟩⟩
      · have ep : errPos true off e n = off := by
          unfold errPos
          rw [if_neg (by simpa using hl), if_pos ⟨rfl, by omega⟩]
        refine (pz_long_ext_err F R a len cap off e n w hF h1 (by omega) (by omega) (by omega) n1 hR).mono ?_
        rintro x w' ⟨hx, hK, hR2⟩
        exact ⟨hK, Or.inr ⟨by simp; omega, hx, by rw [ep]; exact hR2⟩⟩

/-- How many of the first k components are optional. -/
def cnt (opt : Nat → Bool) : Nat → Nat
  | 0 => 0
  | k + 1 => cnt opt k + (if opt k then 1 else 0)
theorem cnt_le (opt : Nat → Bool) (k : Nat) : cnt opt k ≤ k := by
  induction k with
  | zero => simp [cnt]
  | succ k ih => simp only [cnt]; split <;> omega
theorem cnt_mono (opt : Nat → Bool) {j k : Nat} (h : j ≤ k) : cnt opt j ≤ cnt opt k := by
  induction k with
  | zero => simp [Nat.le_zero.1 h]
  | succ k ih =>
    by_cases e : j = k + 1
    · subst e; exact Nat.le_refl _
    · have := ih (by omega); simp only [cnt]; omega
/-- What component k holds, as a bit. -/
def hold (Z : Nat → Nat) (opt : Nat → Bool) (p k : Nat) : Nat := if opt k then bit Z (p + cnt opt k) else 1
/-- The bits 'present' behind k components, in the text's own operations. -/
def pres (Z : Nat → Nat) (opt : Nat → Bool) (p : Nat) : Nat → Int
  | 0 => 0
  | k + 1 => bits BinOp.or IntKind.u64 (pres Z opt p k) (IntKind.u64.wrap ((hold Z opt p k : Nat) * 2 ^ k))
/-- What is read of the type: T its block, C the components' row (8 cells each). -/
structure Typ (w : World) (T C m : Nat) (root : Nat) (ext : Bool) (opt : Nat → Bool) : Prop where
  ext5 : w.cell? ⟨T, 5, none⟩ = some (.bool ext)
  comps : w.cell? ⟨T, 7, none⟩ = some (.slice (some ⟨C, 0, none⟩) m m)
  root8 : w.cell? ⟨T, 8, none⟩ = some (.int .i64 root)
  opts : ∀ i, i < m → w.cell? ⟨C, i * 8 + 2, none⟩ = some (.bool (opt i))
theorem Typ.kept {R : Nat} {w w' : World} {T C m root : Nat} {ext : Bool} {opt : Nat → Bool} (h : Typ w T C m root ext opt) (k : Kept R w w') (hT : T ≠ R) (hC : C ≠ R) : Typ w' T C m root ext opt where
  ext5 := (k.cell (p := ⟨T, 5, none⟩) (block_lt_of_cell h.ext5) hT).trans h.ext5
  comps := (k.cell (p := ⟨T, 7, none⟩) (block_lt_of_cell h.comps) hT).trans h.comps
  root8 := (k.cell (p := ⟨T, 8, none⟩) (block_lt_of_cell h.root8) hT).trans h.root8
  opts := fun i hi => (k.cell (p := ⟨C, i * 8 + 2, none⟩) (block_lt_of_cell (h.opts i hi)) hC).trans (h.opts i hi)

theorem cnt_succ_yes {opt : Nat → Bool} {k : Nat} (h : opt k = true) : cnt opt (k + 1) = cnt opt k + 1 := by simp [cnt, h]
theorem cnt_succ_no {opt : Nat → Bool} {k : Nat} (h : opt k = false) : cnt opt (k + 1) = cnt opt k := by simp [cnt, h]
theorem pres_miss (Z : Nat → Nat) {opt : Nat → Bool} (p : Nat) {j : Nat} (h : opt j = false) : bits BinOp.or IntKind.u64 (pres Z opt p j) (IntKind.u64.wrap (2 ^ j)) = pres Z opt p (j + 1) := by
  simp [pres, hold, h]
theorem and_bit (Z : Nat → Nat) (p n i : Nat) (h : i < n) (hn : n ≤ 64) : bits BinOp.and IntKind.u64 ((fld Z p n : Nat) / 2 ^ (n - i - 1)) 1 = ((bit Z (p + i) : Nat) : Int) := by
  have hl := fld_lt Z p n
  have h64 : 2 ^ n ≤ 2 ^ 64 := Nat.pow_le_pow_right (by omega) hn
  rw [show (2 : Nat) ^ 64 = 18446744073709551616 from by decide] at h64
  have e0 : ((fld Z p n : Nat) : Int) / 2 ^ (n - i - 1) = ((fld Z p n / 2 ^ (n - i - 1) : Nat) : Int) := by rw [Int.natCast_ediv, Int.natCast_pow]; rfl
  have hd := Nat.div_le_self (fld Z p n) (2 ^ (n - i - 1))
  rw [e0, show (1 : Int) = ((1 : Nat) : Int) from rfl, u64_and_nat _ _ (by omega) (by omega), nat_mask1, show n - i - 1 = n - 1 - i from by omega, fld_bit Z p n i h]
theorem pres_hit (Z : Nat → Nat) {opt : Nat → Bool} (p : Nat) {j n : Nat} (h : opt j = true) (hc : cnt opt j < n) (hn : n ≤ 64) :
    bits BinOp.or IntKind.u64 (pres Z opt p j) (IntKind.u64.wrap (bits BinOp.and IntKind.u64 ((fld Z p n : Nat) / 2 ^ (n - cnt opt j - 1)) 1 * 2 ^ j)) = pres Z opt p (j + 1) := by
  rw [and_bit Z p n (cnt opt j) hc hn]
  simp [pres, hold, h]
theorem cnt_hit {opt : Nat → Bool} {k : Nat} (h : opt k = true) : Value.int .i64 ((cnt opt k : Int) + 1) = .int .i64 (cnt opt (k + 1) : Nat) := by simp [cnt, h]
theorem cnt_miss {opt : Nat → Bool} {k : Nat} (h : opt k = false) : Value.int .i64 (cnt opt k : Nat) = .int .i64 (cnt opt (k + 1) : Nat) := by simp [cnt, h]

set_option maxHeartbeats 800000 in
set_option maxRecDepth 100000 in
theorem preamble_any (F : Interp) (R T C : Nat) (a : Option Addr) (len cap : Nat) (off e m root : Nat) (ext : Bool) (opt : Nat → Bool) (Z : Nat → Nat) (hZ : ∀ j, Z j < 256) (w : World) (hF : F.answers w.tape) (h1 : off ≤ e) (h2 : e ≤ 8 * len) (h3 : len ≤ 1048576) (hcap : len ≤ cap)
    (r1 : root ≤ 64) (r2 : root ≤ m) (m1 : m ≤ 1048576) (hR : w.heap[R]? = some (rdO a len cap off e)) (hb : Buf w a len Z R) (hT : Typ w T C m root ext opt) (nT : T ≠ R) (nC : C ≠ R) :
    Calls Ybaf.prog 5 #[.pointer (some ⟨R, 0, none⟩), .pointer (some ⟨T, 0, none⟩)] w fun x w' => Kept R w w' ∧
      ((off + ext.toNat + cnt opt root ≤ e ∧ x = .returned (.tuple #[.int .u64 (pres Z opt (off + ext.toNat) root), .bool (ext && bit Z off == 1), .nilIface]) ∧ w'.heap[R]? = some (rdO a len cap ((off + ext.toNat + cnt opt root : Nat) : Int) e)) ∨
       (e < off + ext.toNat + cnt opt root ∧ (∃ q, x = .returned (.tuple #[.int .u64 0, .bool false, .iface 81 (.pointer q)])) ∧ w'.heap[R]? = some (rdO a len cap (errPos ext off e (cnt opt root) : Nat) e))) := by
  obtain ⟨t5, t7, t8, ht⟩ := hT
  go_enter Ybaf.func5, Ybaf.ntmps5
  go_wp2_with fail
  go_loop [7, 16] (fun c i => ∃ k : Nat, k ≤ root ∧ i = .int .i64 k ∧ c = .int .i64 (cnt opt k : Nat)) (fun _ i => root - (intOf i).toNat)
  case atStart => exact ⟨0, Nat.zero_le _, rfl, rfl⟩
  case round =>
    obtain ⟨k, hk, rfl, rfl⟩ := hrel
    have hcl := cnt_le opt k
    by_cases hlt : k < root
    · have hck := ht k (by omega)
      have hkm : (k : Int) < (m : Int) := by omega
      clear hR hb hF hZ
      go_wp2_with fail
      · go_round
        case rel => exact ⟨k + 1, by omega, by go_num, cnt_hit ‹_›⟩
        case measure => simp [intOf]; omega
      · go_round
        case rel => exact ⟨k + 1, by omega, by go_num, cnt_miss ‹_›⟩
        case measure => simp [intOf]; omega
    · obtain rfl : k = root := by omega
      have ht8 : Hid (∀ i, i < m → w.cell? ⟨C, i * 8 + 2, none⟩ = some (.bool (opt i))) := ht
      obtain ⟨n, hn⟩ : ∃ n, n = cnt opt k := ⟨_, rfl⟩
      rw [← hn]
      have HN : Hid (n = cnt opt k) := hn
      have hn64 : n ≤ 64 := by omega
      clear hn hcl
      go_wp2_with fail
      refine (presence_all F R a len cap off e n ext Z hZ w hF h1 h2 h3 hcap hn64 hR hb).mono ?_
      rintro x w2 ⟨hK, ⟨hfit, rfl, hR2⟩ | ⟨hno, ⟨v, y, q, rfl⟩, hR2⟩⟩
      · have hT2 := Typ.kept ⟨t5, t7, t8, ht⟩ hK nT nC
        obtain ⟨s5, s7, s8, hs⟩ := hT2
        have HK : Hid (Kept R w w2) := hK
        have HR : Hid (w2.heap[R]? = some (rdO a len cap ((off + ext.toNat + n : Nat) : Int) e)) := hR2
        clear hK hR2 hR hb hF t5 t7 t8 ht ht8
        have hfl := fld_lt Z (off + ext.toNat) n
        have h64 : 2 ^ n ≤ 2 ^ 64 := Nat.pow_le_pow_right (by omega) hn64
        rw [show (2 : Nat) ^ 64 = 18446744073709551616 from by decide] at h64
        have hfb : fld Z (off + ext.toNat) n < 18446744073709551616 := by omega
        clear hfl h64
        go_wp2_with fail
        go_loop [4, 7, 48] (fun v c i => ∃ j : Nat, j ≤ k ∧ i = .int .i64 j ∧ c = .int .i64 ((n : Int) - (cnt opt j : Nat)) ∧ v = .int .u64 (pres Z opt (off + ext.toNat) j)) (fun _ _ i => k - (intOf i).toNat)
        case atStart => exact ⟨0, Nat.zero_le _, rfl, by simp [cnt], rfl⟩
        case round =>
          obtain ⟨j, hj, rfl, rfl, rfl⟩ := hrel
          have hcl := cnt_le opt j
          by_cases hlt2 : j < k
          · have hck := hs j (by omega)
            have hjm : (j : Int) < (m : Int) := by omega
            have hj64 : j < 64 := by omega
            cases ho : opt j
            · rw [ho] at hck
              have HO : Hid (opt j = false) := ho
              clear ho
              go_wp2_with fail
              go_round
              case rel => exact ⟨j + 1, by omega, by go_num, int_congr (by rw [cnt_succ_no HO.out]), int_congr (pres_miss Z (off + ext.toNat) HO.out)⟩
              case measure => simp [intOf]; omega
            · rw [ho] at hck
              have hcn : cnt opt j < n := by
                have h1 := cnt_mono opt (show j + 1 ≤ k from hlt2)
                have h2 : cnt opt (j + 1) = cnt opt j + 1 := by simp [cnt, ho]
                have := HN.out
                omega
              have HO : Hid (opt j = true) := ho
              clear ho
              go_wp2_with fail
              go_round
              case rel => exact ⟨j + 1, by omega, by go_num, int_congr (by rw [cnt_succ_yes HO.out]; omega), int_congr (pres_hit Z (off + ext.toNat) HO.out hcn hn64)⟩
              case measure => simp [intOf]; omega
          · obtain rfl : j = k := by omega
            go_wp2_with fail
            go_ret3
            obtain rfl := HN.out
            exact ⟨HK, Or.inl ⟨hfit, rfl, HR⟩⟩
      · have HK : Hid (Kept R w w2) := hK
        have HR : Hid (w2.heap[R]? = some (rdO a len cap (errPos ext off e n : Nat) e)) := hR2
        clear hK hR2 hR hb hF
        go_wp2_with fail
        go_ret3
        obtain rfl := HN.out
        exact ⟨HK, Or.inr ⟨hno, ⟨q, rfl⟩, HR⟩⟩
end Go.Proofs.YbulkesaiFmt
