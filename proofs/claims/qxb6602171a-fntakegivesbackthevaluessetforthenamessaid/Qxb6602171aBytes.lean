/-
  The walk of zzBytes (11).
-/
import Derived.Test.Qxb6602171aZplaces
namespace Go.Proofs.Qxb6602171a
open Go.ChangeShapes Go.WideShapes Go.ChangeAt Go.RowKit

/-- A slice of segments that came in. -/
def SegIn (w : World) (a : Option Addr) (n : Nat) (ks : Nat → Int) (ts : Nat → ByteArray) : Prop :=
  ∀ i, i < n → ∃ b off, a = some ⟨b, off, none⟩ ∧ w.cell? ⟨b, off + i * 2, none⟩ = some (.int .u8 (ks i)) ∧ w.cell? ⟨b, off + i * 2 + 1, none⟩ = some (.string (ts i)) ∧ 0 ≤ ks i ∧ ks i ≤ 255 ∧ (ts i).size ≤ maxLen

/-- A slice of strings that came in. -/
def StrIn (w : World) (a : Option Addr) (n : Nat) (vs : Nat → ByteArray) : Prop :=
  ∀ i, i < n → ∃ b off, a = some ⟨b, off, none⟩ ∧ w.cell? ⟨b, off + i, none⟩ = some (.string (vs i)) ∧ (vs i).size ≤ maxLen

/-- Each of the first k strings is no longer than 2^20. -/
def Short (ts : Nat → ByteArray) (k : Nat) : Prop := ∀ i, i < k → (ts i).size ≤ 1048576
theorem short_zero (ts : Nat → ByteArray) : Short ts 0 := fun i h => absurd h (Nat.not_lt_zero i)
theorem Short.next {ts : Nat → ByteArray} {k : Nat} (h : Short ts k) (h1 : ((ts k).size : Int) ≤ 1048576) : Short ts (k + 1) := by
  intro i hi
  by_cases e : i = k
  · subst e; omega
  · exact h i (by omega)

/-- It returns one bool or the other; true only where every string is short. -/
def SomeBool (ts vs : Nat → ByteArray) (n m : Nat) (e : Ending) : Prop := e = .returned (.bool false) ∨ (e = .returned (.bool true) ∧ Short ts n ∧ Short vs m)

set_option maxHeartbeats 2000000 in
theorem bytes_any (a v : Option Addr) (n c m d : Nat) (ks : Nat → Int) (ts vs : Nat → ByteArray) (w : World) (hs : SegIn w a n ks ts) (hv : StrIn w v m vs) (hn : n ≤ maxLen) (hm : m ≤ maxLen) :
    Calls Try.prog 11 #[.slice a n c, .slice v m d] w fun e w' => SomeBool ts vs n m e ∧ w = w' := by
  unfold maxLen at hn hm
  have HS : Hid (SegIn w a n ks ts) := hs
  have HV : Hid (StrIn w v m vs) := hv
  clear hs hv
  go_enter Try.func11, Try.ntmps11
  go_wp2
  · go_ret
    exact ⟨Or.inl rfl, rfl⟩
  · go_loop [5, 6] (fun zz ii => ∃ (k : Nat) (z : Int), k ≤ n ∧ 0 ≤ z ∧ z ≤ 1048576 ∧ ii = .int .i64 k ∧ zz = .int .i64 z ∧ Hid (Short ts k)) (fun _ ii => n - (intOf ii).toNat)
    case atStart => exact ⟨0, _, Nat.zero_le _, by omega, by omega, rfl, rfl, short_zero ts⟩
    case round =>
      obtain ⟨k, z, hk, hz0, hz1, rfl, rfl, hsh⟩ := hrel
      by_cases hlt : k < n
      · obtain ⟨b, off, rfl, hc0, hc1, h0, h1, ht⟩ := HS.out k hlt
        unfold maxLen at ht
        go_wp2
        · go_ret
          exact ⟨Or.inl rfl, rfl⟩
        · go_ret
          exact ⟨Or.inl rfl, rfl⟩
        · go_round
          case rel => exact ⟨k + 1, _, by omega, by omega, by assumption, by go_num, rfl, hsh.out.next (by assumption)⟩
          case measure => simp [intOf]; omega
      · go_wp2
        · go_ret
          exact ⟨Or.inl rfl, rfl⟩
        · go_ret
          exact ⟨Or.inl rfl, rfl⟩
        · go_loop [5, 7] (fun zz ii => ∃ (k : Nat) (z : Int), k ≤ m ∧ 0 ≤ z ∧ z ≤ 1048576 ∧ ii = .int .i64 k ∧ zz = .int .i64 z ∧ Hid (Short vs k)) (fun _ ii => m - (intOf ii).toNat)
          case atStart => exact ⟨0, _, Nat.zero_le _, by omega, by assumption, rfl, rfl, short_zero vs⟩
          case round =>
            obtain ⟨k', z', hk', hz0', hz1', rfl, rfl, hsv⟩ := hrel
            by_cases hlt' : k' < m
            · obtain ⟨b, off, rfl, hc0, ht⟩ := HV.out k' hlt'
              unfold maxLen at ht
              go_wp2
              · go_ret
                exact ⟨Or.inl rfl, rfl⟩
              · go_ret
                exact ⟨Or.inl rfl, rfl⟩
              · go_round
                case rel => exact ⟨k' + 1, _, by omega, by omega, by assumption, by go_num, rfl, hsv.out.next (by assumption)⟩
                case measure => simp [intOf]; omega
            · go_wp2
              go_ret
              exact ⟨Or.inr ⟨rfl, by rw [show n = k by omega]; exact hsh.out, by rw [show m = k' by omega]; exact hsv.out⟩, rfl⟩

end Go.Proofs.Qxb6602171a
