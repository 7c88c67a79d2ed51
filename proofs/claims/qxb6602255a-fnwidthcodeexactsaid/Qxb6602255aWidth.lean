/-
  The walks of widthCode (14) and its shim (8), widthsInDomain (6), significantBytes (7).
-/
import Derived.Test.Qxb6602255aRows
import Derived.Test.Qxb6602255aPlain
import Derived.WalkKit
import Derived.ProofKit
import Derived.OpenShut
import Derived.WalkLawsBesides
import Derived.WalkSpells
import Derived.Deep.QuietTactic
import Derived.BigQuiet
namespace Go.Proofs.Qxb6602255a
open Go.ChangeShapes Go.WideShapes Go.ChangeAt Go.RowKit

theorem ret_bool {a b : Bool} (h : a = b) : Ending.returned (.bool a) = .returned (.bool b) := by rw [h]

/-- The four widths behind the pointer. -/
def Wid (w : World) (b off : Nat) (f : Nat → Int) : Prop := ∀ k, k < 4 → w.cell? ⟨b, off + k, none⟩ = some (.int .i64 (f k))
/-- Each lies in its domain. -/
def Dom (f : Nat → Int) (k : Nat) : Prop := ∀ i, i < k → 0 ≤ f i ∧ f i ≤ 1152921504606846975
/-- Does width f i hold N? -/
def holdsB (f : Nat → Int) (N : Nat) (i : Nat) : Bool := decide ((sg 8 N : Int) ≤ f i)
def NoneB (p : Nat → Bool) (k : Nat) : Prop := ∀ i, i < k → p i = false
theorem NoneB.next {p : Nat → Bool} {k : Nat} (h : NoneB p k) (h1 : p k = false) : NoneB p (k + 1) := by
  intro i hi
  by_cases e : i = k
  · subst e; exact h1
  · exact h i (by omega)

theorem shift_run (n v : Int) (h : 0 ≤ v) (W : World) : (Op.shift .shr .u64 n .i64 (8 * v)).run Try.prog W = .ok (.int .u64 (shrB n v)) W := by
  unfold Op.shift shrB
  rw [if_neg (by omega)]
  rfl

set_option maxHeartbeats 1000000 in
theorem widthCode_any (b off : Nat) (f : Nat → Int) (N : Nat) (w : World) (hw : Wid w b off f) (hf : Dom f 4) (hN : N < 18446744073709551616) :
    Calls Try.prog 14 #[.pointer (some ⟨b, off, none⟩), .int .u64 N] w fun e w' => ∃ c ok, e = .returned (.tuple #[.int .u8 (c : Nat), .bool ok]) ∧ First (holdsB f N) c ok ∧ Below w.heap.size w w' := by
  have HW : Hid (Wid w b off f) := hw
  have HF : Hid (Dom f 4) := hf
  clear hw hf
  go_enter Try.func14, Try.ntmps14
  go_wp2
  go_loopw [9] (fun ii wr => ∃ k : Nat, k ≤ 4 ∧ ii = .int .i64 k ∧ NoneB (holdsB f N) k ∧ ∃ m, wr = w.drewN m) (fun ii _ => 4 - (intOf ii).toNat)
  case atStart => exact ⟨0, by omega, rfl, fun i h => absurd h (Nat.not_lt_zero i), 0, rfl⟩
  case round =>
    obtain ⟨k, hk, rfl, hno, m, rfl⟩ := hrel
    have HNO : Hid (NoneB (holdsB f N) k) := hno
    clear hno
    by_cases hlt : k < 4
    · have hc : w.cell? ⟨b, off + k, none⟩ = some (.int .i64 (f k)) := HW.out k hlt
      obtain ⟨f0, f1⟩ := HF.out k hlt
      have hki : (0 : Int) ≤ (k : Int) := by omega
      have hkj : (k : Int) < 4 := by omega
      have hsh := shift_run (N : Int) (f k) f0
      have hz := shr_zero N (f k) hN f0
      by_cases hh : holdsB f N k = true
      · have hz' : (shrB (N : Int) (f k) == 0) = true := hz.trans hh
        clear hz
        go_wp2_with fail
        go_quiet (fail)
        go_wp2
        go_ret2
        exact ⟨k, true, rfl, Or.inl ⟨rfl, hlt, hh, HNO.out⟩, below_drewN (Below.refl _ _) _⟩
      · have hh' : holdsB f N k = false := by simpa using hh
        have hz' : (shrB (N : Int) (f k) == 0) = false := hz.trans hh'
        have HNO' : Hid (NoneB (holdsB f N) (k + 1)) := HNO.out.next hh'
        clear hz hh hh'
        go_wp2_with fail
        go_quiet (fail)
        go_wp2
        go_roundw
        case rel => exact ⟨k + 1, by omega, by go_num, HNO'.out, _, rfl⟩
        case measure => simp [intOf]; omega
    · obtain rfl : k = 4 := by omega
      go_wp2
      go_ret2
      exact ⟨0, false, rfl, Or.inr ⟨rfl, rfl, HNO.out⟩, below_drewN (Below.refl _ _) _⟩

set_option maxHeartbeats 1000000 in
theorem zzwidth_any (b off : Nat) (f : Nat → Int) (N : Nat) (w : World) (hw : Wid w b off f) (hf : Dom f 4) (hN : N < 18446744073709551616) :
    Calls Try.prog 8 #[.pointer (some ⟨b, off, none⟩), .int .u64 N] w fun e w' => ∃ c ok, e = .returned (.tuple #[.int .u8 (c : Nat), .bool ok]) ∧ First (holdsB f N) c ok ∧ Below w.heap.size w w' := by
  have HW : Hid (Wid w b off f) := hw
  have HF : Hid (Dom f 4) := hf
  clear hw hf
  go_enter Try.func8, Try.ntmps8
  go_wp2_with fail
  refine (widthCode_any b off f N _ HW.out HF.out hN).mono ?_
  rintro e w' ⟨c, ok, rfl, hfi, hb⟩
  have HFI : Hid (First (holdsB f N) c ok) := hfi
  clear hfi
  go_wp2
  go_ret2
  exact ⟨c, ok, rfl, HFI.out, hb⟩

set_option maxHeartbeats 1000000 in
theorem domain_any (b off : Nat) (f : Nat → Int) (w : World) (hw : Wid w b off f) (hf : ∀ k, k < 4 → -9223372036854775808 ≤ f k ∧ f k ≤ 9223372036854775807) :
    Calls Try.prog 6 #[.pointer (some ⟨b, off, none⟩)] w fun e w' => ((e = .returned (.bool true) ∧ Dom f 4) ∨ e = .returned (.bool false)) ∧ w = w' := by
  have HW : Hid (Wid w b off f) := hw
  have HF : Hid (∀ k, k < 4 → -9223372036854775808 ≤ f k ∧ f k ≤ 9223372036854775807) := hf
  clear hw hf
  go_enter Try.func6, Try.ntmps6
  go_wp2
  go_loop [3] (fun ii => ∃ k : Nat, k ≤ 4 ∧ ii = .int .i64 k ∧ Hid (Dom f k)) (fun ii => 4 - (intOf ii).toNat)
  case atStart => exact ⟨0, by omega, rfl, fun i h => absurd h (Nat.not_lt_zero i)⟩
  case round =>
    obtain ⟨k, hk, rfl, hd⟩ := hrel
    by_cases hlt : k < 4
    · have hc : w.cell? ⟨b, off + k, none⟩ = some (.int .i64 (f k)) := HW.out k hlt
      by_cases h0 : 0 ≤ f k
      · by_cases h1 : f k ≤ 1152921504606846975
        · have hd' : Hid (Dom f (k + 1)) := by
            intro i hi
            by_cases e : i = k
            · subst e; exact ⟨h0, h1⟩
            · exact hd.out i (by omega)
          clear hd
          go_wp2
          go_round
          case rel => exact ⟨k + 1, by omega, by go_num, hd'⟩
          case measure => simp [intOf]; omega
        · go_wp2
          go_ret
          exact ⟨Or.inr rfl, rfl⟩
      · go_wp2
        go_ret
        exact ⟨Or.inr rfl, rfl⟩
    · obtain rfl : k = 4 := by omega
      go_wp2
      go_ret
      exact ⟨Or.inl ⟨rfl, hd.out⟩, rfl⟩

theorem lt_256 (N : Nat) (hN : N < 18446744073709551616) : N < 256 ^ 8 := by
  have : (256 ^ 8 : Nat) = 18446744073709551616 := by decide
  omega

set_option maxHeartbeats 1000000 in
theorem sigB_any (N : Nat) (w : World) (hN : N < 18446744073709551616) : Calls Try.prog 7 #[.int .u64 N] w fun e w' => e = .returned (.int .i64 (sg 8 N)) ∧ w = w' := by
  go_enter Try.func7, Try.ntmps7
  go_wp2
  go_loop [3, 4] (fun kk mm => ∃ k m g : Nat, m < 256 ^ g ∧ m ≤ N ∧ kk = .int .i64 k ∧ mm = .int .u64 m ∧ k + g ≤ 8 ∧ Hid (k + sg g m = sg 8 N)) (fun _ mm => (intOf mm).toNat)
  case atStart => exact ⟨0, N, 8, lt_256 N hN, Nat.le_refl _, rfl, rfl, by omega, by show 0 + _ = _; omega⟩
  case round =>
    obtain ⟨k, m, g, hm, hmN, rfl, rfl, hkg, hs⟩ := hrel
    by_cases hz : m = 0
    · subst hz
      have HK : Hid (k = sg 8 N) := by show _ = _; rw [← hs.out, sg_zero]; rfl
      go_wp2
      go_ret
      exact ⟨by rw [← HK.out]; rfl, rfl⟩
    · have hzb : ((m : Int) != 0) = true := by simp; omega
      obtain ⟨g', rfl⟩ : ∃ g', g = g' + 1 := by
        cases g with
        | zero => simp at hm; omega
        | succ g' => exact ⟨g', rfl⟩
      have hs' : Hid (k + 1 + sg g' (m / 256) = sg 8 N) := by show _ = _; rw [← hs.out, sg_step g' m hz]; omega
      have hm' : Hid (m / 256 < 256 ^ g') := by
        rw [Nat.pow_succ] at hm
        exact Nat.div_lt_of_lt_mul (by omega)
      clear hs hm
      go_wp2
      go_round
      case rel => exact ⟨k + 1, m / 256, g', hm'.out, by omega, by go_num, by go_num, by omega, hs'⟩
      case measure => simp [intOf]; omega
end Go.Proofs.Qxb6602255a
