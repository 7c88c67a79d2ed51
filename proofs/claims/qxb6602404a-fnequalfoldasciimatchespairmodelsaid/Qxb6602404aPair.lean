/-
  The walk of foldPairModel (11).
-/
import Derived.Test.Qxb6602404aFold
import Derived.Test.Qxb6602404aBits
namespace Go.Proofs.Qxb6602404a
open Go.ChangeShapes Go.WideShapes Go.ChangeAt Go.RowKit

set_option maxHeartbeats 1000000 in
theorem pair_any (x y : Nat) (w : World) (hx : x < 256) (hy : y < 256) :
    Calls Try.prog 11 #[.int .u8 x, .int .u8 y] w fun e w' => e = .returned (.bool (lo x == lo y)) ∧ w' = w := by
  have hxor := u8_xor_nat x y hx hy
  have hor : bits .or .u8 (x : Int) 32 = ((x ||| 32 : Nat) : Int) := u8_or_nat x 32 hx (by omega)
  by_cases e : x = y
  · have H : Hid ((lo x == lo y) = true) := beq_true_of (by rw [e])
    have eb : ((x : Int) == (y : Int)) = true := by simp [e]
    clear e
    go_enter Try.func11, Try.ntmps11
    go_wp2
    go_ret
    exact ⟨ret_bool H.out.symm, rfl⟩
  · have eb : ((x : Int) == (y : Int)) = false := by simp; omega
    by_cases h32 : x ^^^ y = 32
    · have HP : Hid ((lo x = lo y) ↔ (97 ≤ (x ||| 32) ∧ (x ||| 32) ≤ 122)) := pair_near x y hx h32
      have hb : (((x ^^^ y : Nat) : Int) != 32) = false := by rw [h32]; rfl
      clear e h32
      generalize x ^^^ y = z at hxor hb
      generalize x ||| 32 = l at hor HP
      by_cases h1 : 97 ≤ l
      · by_cases h2 : l ≤ 122
        · have H : Hid ((lo x == lo y) = true) := beq_true_of (HP.out.2 ⟨h1, h2⟩)
          go_enter Try.func11, Try.ntmps11
          go_wp2
          go_ret
          exact ⟨ret_bool ((decide_eq_true (by omega)).trans H.out.symm), rfl⟩
        · have H : Hid ((lo x == lo y) = false) := beq_false_of (fun h => h2 (HP.out.1 h).2)
          go_enter Try.func11, Try.ntmps11
          go_wp2
          go_ret
          exact ⟨ret_bool ((decide_eq_false (by omega)).trans H.out.symm), rfl⟩
      · have H : Hid ((lo x == lo y) = false) := beq_false_of (fun h => h1 (HP.out.1 h).1)
        go_enter Try.func11, Try.ntmps11
        go_wp2
        go_ret
        exact ⟨ret_bool H.out.symm, rfl⟩
    · have H : Hid ((lo x == lo y) = false) := beq_false_of (pair_far x y hx hy e h32)
      have hb : (((x ^^^ y : Nat) : Int) != 32) = true := by simp; omega
      clear e h32
      generalize x ^^^ y = z at hxor hb
      go_enter Try.func11, Try.ntmps11
      go_wp2
      go_ret
      exact ⟨ret_bool H.out.symm, rfl⟩

/-- What the law gathers: the same. -/
theorem efTo_eq (a b : ByteArray) (k : Nat) : efTo a b (k + 1) = (efTo a b k && (lo (bt a k) == lo (bt b k))) := rfl

set_option maxHeartbeats 4000000 in
theorem pair_walk (a0 : ByteArray) (a1 : ByteArray) (w0 : a0.size ≤ maxLen) (w1 : a1.size ≤ maxLen) (w : World) :
    Calls Try.prog 3 #[.string a0, .string a1] w fun e w' => e = .returned (.bool true) ∧ Below w.heap.size w w' := by
  unfold maxLen at w0 w1
  by_cases h0 : a0.size ≤ 1048576
  · by_cases h1 : a0.size + a1.size ≤ 1048576
    · have s1 : a1.size ≤ 1048576 := by omega
      by_cases hs : a0.size = a1.size
      · have hsb : ((a0.size : Int) == (a1.size : Int)) = true := by simp [hs]
        have HS : Hid (a0.size = a1.size) := hs
        have hs1 : a0.size ≤ a1.size := by omega
        have hs2 : a1.size ≤ a0.size := by omega
        clear hs
        go_enter Try.func3, Try.ntmps3
        go_wp2
        go_loopw [5, 6] (fun bb ii wr => ∃ k : Nat, k ≤ a0.size ∧ bb = .bool true ∧ ii = .int .i64 k ∧ Hid (efTo a0 a1 k = true) ∧ Below w.heap.size w wr) (fun _ ii _ => a0.size - (intOf ii).toNat)
        case atStart => exact ⟨0, Nat.zero_le _, rfl, rfl, rfl, Below.refl _ _⟩
        case round =>
          obtain ⟨k, hk, rfl, rfl, he, hbel⟩ := hrel
          by_cases hlt : k < a0.size
          · have hlt' : k < a1.size := by omega
            have hki : (0 : Int) ≤ (k : Int) := by omega
            have hka : (k : Int) < (a0.size : Int) := by omega
            have hkb : (k : Int) < (a1.size : Int) := by omega
            have ea := bt_at a0 k hlt
            have eb := bt_at a1 k hlt'
            have la := bt_lt a0 k
            have lb := bt_lt a1 k
            by_cases hh : lo (bt a0 k) = lo (bt a1 k)
            · have hq := beq_true_of hh
              have he' : Hid (efTo a0 a1 (k + 1) = true) := efTo_next a0 a1 k he.out hh
              clear hh he
              go_wp2_with fail
              go_quiet ((go_at_call 11; exact Calls.quiet_of_same (pair_any _ _ _ la lb)))
              go_wp2
              go_roundw
              case rel => exact ⟨k + 1, by omega, rfl, by go_num, he', below_drewN hbel _⟩
              case measure => simp [intOf]; omega
            · have hq := beq_false_of hh
              have HE : Hid (efB a0 a1 = false) := efTo_miss a0 a1 k hlt hh
              clear hh he
              go_wp2_with fail
              go_quiet ((go_at_call 11; exact Calls.quiet_of_same (pair_any _ _ _ la lb)))
              go_wp2_with (go_at_call 12; refine (zzfold_any _ _ _ (by omega) (by omega)).mono ?_; rintro e w' ⟨rfl, m, rfl⟩)
              go_ret
              exact ⟨ret_bool (by rw [HE.out]; rfl), below_drewN hbel _⟩
          · have HE : Hid (efB a0 a1 = true) := by
              show efB a0 a1 = true
              rw [efB, decide_eq_true HS.out, show a0.size = k by omega, he.out]; rfl
            go_wp2_with (go_at_call 12; refine (zzfold_any _ _ _ (by omega) (by omega)).mono ?_; rintro e w' ⟨rfl, m, rfl⟩)
            go_ret
            exact ⟨ret_bool (by rw [HE.out]), below_drewN hbel _⟩
      · have hsb : ((a0.size : Int) == (a1.size : Int)) = false := by simp; omega
        have HE : Hid (efB a0 a1 = false) := efB_size a0 a1 hs
        go_enter Try.func3, Try.ntmps3
        go_wp2_with (first | (go_at_call 12; refine (zzfold_any _ _ _ (by omega) (by omega)).mono ?_; rintro e w' ⟨rfl, m, rfl⟩) | go_in)
        go_ret
        exact ⟨ret_bool (by rw [HE.out]; rfl), below_drewN (Below.refl _ _) _⟩
    · go_enter Try.func3, Try.ntmps3
      go_wp2
      all_goals
        go_ret
        exact ⟨rfl, Below.refl _ _⟩
  · go_enter Try.func3, Try.ntmps3
    go_wp2
    all_goals
      go_ret
      exact ⟨rfl, Below.refl _ _⟩

end Go.Proofs.Qxb6602404a
