/-
  The walks of equalFoldASCII (23) and its shim (12).
-/
import Derived.Test.Qxb6602404aRows
import Derived.Test.Qxb6602404aPlain
import Derived.WalkKit
import Derived.ProofKit
import Derived.OpenShut
import Derived.ShutString
import Derived.WalkLawsBesides
import Derived.WalkSpells
import Derived.Deep.QuietTactic
import Derived.BigQuiet
namespace Go.Proofs.Qxb6602404a
open Go.ChangeShapes Go.WideShapes Go.ChangeAt Go.RowKit

theorem ret_bool {a b : Bool} (h : a = b) : Ending.returned (.bool a) = .returned (.bool b) := by rw [h]

theorem ne_of_bne {a b : Int} (h : (a != b) = true) : ¬ a = b := by simpa using h
theorem eq_of_bne {a b : Int} (h : (a != b) = false) : a = b := by simpa using h

set_option maxHeartbeats 2000000 in
theorem fold_any (a b : ByteArray) (w : World) (ha : a.size ≤ 1048576) (_hb : b.size ≤ 1048576) :
    Calls Try.prog 23 #[.string a, .string b] w fun e w' => e = .returned (.bool (efB a b)) ∧ ∃ m, w' = w.drewN m := by
  by_cases hs : a.size = b.size
  · have hsb : ((a.size : Int) != (b.size : Int)) = false := by simp [hs]
    have HS : Hid (a.size = b.size) := hs
    have hs1 : a.size ≤ b.size := by omega
    have hs2 : b.size ≤ a.size := by omega
    clear hs
    go_enter Try.func23, Try.ntmps23
    go_wp2
    go_loopw [15] (fun ii wr => ∃ k : Nat, k ≤ a.size ∧ ii = .int .i64 k ∧ Hid (efTo a b k = true) ∧ ∃ m, wr = w.drewN m) (fun ii _ => a.size - (intOf ii).toNat)
    case atStart => exact ⟨0, Nat.zero_le _, rfl, rfl, 0, rfl⟩
    case round =>
      obtain ⟨k, hk, rfl, he, m, rfl⟩ := hrel
      by_cases hlt : k < a.size
      · have hlt' : k < b.size := by omega
        have hki : (0 : Int) ≤ (k : Int) := by omega
        have hka : (k : Int) < (a.size : Int) := by omega
        have hkb : (k : Int) < (b.size : Int) := by omega
        have ea := bt_at a k hlt
        have eb := bt_at b k hlt'
        have la := bt_lt a k
        have lb := bt_lt b k
        clear hsb
        go_wp2_with fail
        go_quiet (fail)
        go_wp2
        all_goals first
          | (have hne := ne_of_bne ‹((_ : Int) != _) = true›
             go_ret
             exact ⟨ret_bool (efTo_miss a b k hlt (by unfold lo; split <;> split <;> omega)).symm, _, rfl⟩)
          | (have heq := eq_of_bne ‹((_ : Int) != _) = false›
             go_roundw
             case rel => exact ⟨k + 1, by omega, by go_num, efTo_next a b k he.out (by unfold lo; split <;> split <;> omega), _, rfl⟩
             case measure => simp [intOf]; omega)
      · have he' : Hid (efB a b = true) := by
          show efB a b = true
          rw [efB, decide_eq_true HS.out, show a.size = k by omega, he.out]; rfl
        go_wp2
        go_ret
        exact ⟨ret_bool he'.out.symm, _, rfl⟩
  · have hsb : ((a.size : Int) != (b.size : Int)) = true := by simp; omega
    have he := efB_size a b hs
    go_enter Try.func23, Try.ntmps23
    go_wp2
    go_ret
    exact ⟨ret_bool he.symm, 0, rfl⟩

set_option maxHeartbeats 2000000 in
theorem zzfold_any (a b : ByteArray) (w : World) (ha : a.size ≤ 1048576) (hb : b.size ≤ 1048576) :
    Calls Try.prog 12 #[.string a, .string b] w fun e w' => e = .returned (.bool (efB a b)) ∧ ∃ m, w' = w.drewN m := by
  go_enter Try.func12, Try.ntmps12
  go_wp2_with fail
  refine (fold_any a b w ha hb).mono ?_
  rintro e w' ⟨rfl, m, rfl⟩
  go_wp2
  go_ret
  exact ⟨rfl, m, rfl⟩

end Go.Proofs.Qxb6602404a
