/- THE WALKS: 'driver.begun' by its contract; the law. -/
import Derived.Test.YbulkeovyParts
import Derived.Deep.QuietTactic
import Derived.BigQuiet
import Derived.LaidEqlPtr
namespace Go.Proofs.Ybulkeovy
open Go.ChangeShapes Go.WideShapes Go.ChangeAt Go.RowKit
set_option linter.unusedVariables false

/-- 'r != s' at one and the same round. -/
theorem run_neq_ptr_same {P : Program} (w : World) {tp te : TypeId} {j : TypeInfo} (a : Addr) (hp : P.underlying tp = some (.pointer te)) (hte : P.info? te = some j) :
    (binOp .neq tp (.pointer (some a)) (.pointer (some a))).run P w = .ok (.bool false) w := by
  have h : ∀ d : Nat, (Op.equalIn (d + 1) tp (.pointer (some a)) (.pointer (some a))).run P w = .ok true w := fun d => by
    simp [Op.equalIn, run_underlying hp, sizeOf, typeInfo, hte, run_sameAddr_same]
  simp only [binOp]
  simp [Op.equal, Op.maxDepth, h 9999]
theorem Yba.has58 : (Yba.prog.info? 58).isSome = true := by kernel_rfl
theorem Yba.neq46 (w : World) (a : Addr) : (binOp .neq 46 (.pointer (some a)) (.pointer (some a))).run Yba.prog w = .ok (.bool false) w := by
  obtain ⟨j, hj⟩ := Option.isSome_iff_exists.1 Yba.has58
  exact run_neq_ptr_same w a Yba.underlying46 hj
theorem ret_bool {a b : Bool} (h : a = b) : Ending.returned (.bool a) = .returned (.bool b) := by rw [h]
theorem any_no {z : Nat → Bool} {k : Nat} (h : anyOf z k = false) (h2 : z k = false) : anyOf z (k + 1) = false := by simp [anyOf, h, h2]

set_option maxHeartbeats 400000 in
set_option maxRecDepth 100000 in
/-- 'd.begun()': whether one of the rounds is begun. -/
theorem begun_any (D N l0 : Nat) (z0 : Nat → Bool) (w : World) (hcap : l0 ≤ 1048576)
    (hd : w.cell? ⟨D, 3, none⟩ = some (.slice (some ⟨N, 0, none⟩) l0 l0))
    (hr : ∀ j, j < l0 → w.cell? ⟨N, j, none⟩ = some (.pointer (some ⟨N + 1 + j, 0, none⟩)))
    (hb : ∀ j, j < l0 → w.cell? ⟨N + 1 + j, 7, none⟩ = some (.bool (z0 j))) :
    Calls Yba.prog 15 #[.pointer (some ⟨D, 0, none⟩)] w fun e w' => e = .returned (.bool (anyOf z0 l0)) ∧ w = w' := by
  go_enter Yba.func15, Yba.ntmps15
  go_wp2
  go_loop [10] (fun i => ∃ k : Nat, k ≤ l0 ∧ i = .int .i64 k ∧ anyOf z0 k = false) (fun i => l0 - (intOf i).toNat)
  case atStart => exact ⟨0, Nat.zero_le _, rfl, rfl⟩
  case round =>
    obtain ⟨k, hk, rfl, hno⟩ := hrel
    have HN : Hid (anyOf z0 k = false) := hno
    clear hno
    by_cases hlt : k < l0
    · have h1 := hr k hlt
      have h2 := hb k hlt
      go_wp2
      · go_ret
        exact ⟨ret_bool (any_mono ‹_› _ hlt).symm, rfl⟩
      · go_round
        case rel => exact ⟨k + 1, by omega, by go_num, any_no HN.out ‹_›⟩
        case measure => simp [intOf]; omega
    · go_wp2
      go_ret
      obtain rfl : k = l0 := by omega
      exact ⟨ret_bool HN.out.symm, rfl⟩
end Go.Proofs.Ybulkeovy
