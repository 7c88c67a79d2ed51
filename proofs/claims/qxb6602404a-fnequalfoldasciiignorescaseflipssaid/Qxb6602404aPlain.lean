/-
  The plain mathematics of equalFoldASCII: no Go in sight.
-/
import Derived.Lib.Strings
namespace Go.Proofs.Qxb6602404a

/-- The byte at place i, 0 behind the end. -/
def bt (s : ByteArray) (i : Nat) : Nat := if h : i < s.size then s[i].toNat else 0
theorem bt_at (s : ByteArray) (i : Nat) (h : i < s.size) : s[i].toNat = bt s i := by
  unfold bt; rw [dif_pos h]
theorem bt_lt (s : ByteArray) (i : Nat) : bt s i < 256 := by
  unfold bt
  split
  · exact UInt8.toNat_lt _
  · omega

/-- The lower case of an ASCII letter. -/
def lo (n : Nat) : Nat := if 65 ≤ n ∧ n ≤ 90 then n + 32 else n
theorem lo_up (n : Nat) (h : 65 ≤ n ∧ n ≤ 90) : lo n = n + 32 := by rw [lo, if_pos h]
theorem lo_id (n : Nat) (h : ¬ (65 ≤ n ∧ n ≤ 90)) : lo n = n := by rw [lo, if_neg h]

/-- Do the first k bytes match but for case? -/
def efTo (a b : ByteArray) : Nat → Bool
  | 0 => true
  | k + 1 => efTo a b k && (lo (bt a k) == lo (bt b k))
/-- Do the strings match but for case? -/
def efB (a b : ByteArray) : Bool := decide (a.size = b.size) && efTo a b a.size

theorem efTo_iff (a b : ByteArray) (k : Nat) : efTo a b k = true ↔ ∀ i, i < k → lo (bt a i) = lo (bt b i) := by
  induction k with
  | zero => simp [efTo]
  | succ k ih =>
    rw [efTo, Bool.and_eq_true, ih, beq_iff_eq]
    constructor
    · rintro ⟨h1, h2⟩ i hi
      by_cases e : i = k
      · subst e; exact h2
      · exact h1 i (by omega)
    · intro h
      exact ⟨fun i hi => h i (by omega), h k (by omega)⟩

theorem efB_iff (a b : ByteArray) : efB a b = true ↔ a.size = b.size ∧ ∀ i, i < a.size → lo (bt a i) = lo (bt b i) := by
  rw [efB, Bool.and_eq_true, decide_eq_true_eq, efTo_iff]

theorem efTo_miss (a b : ByteArray) (k : Nat) (h : k < a.size) (hn : ¬ lo (bt a k) = lo (bt b k)) : efB a b = false := by
  rw [Bool.eq_false_iff]
  intro e
  exact hn ((efB_iff a b).1 e |>.2 k h)

theorem efTo_next (a b : ByteArray) (k : Nat) (h : efTo a b k = true) (hn : lo (bt a k) = lo (bt b k)) : efTo a b (k + 1) = true := by
  rw [efTo, h, hn]; simp

theorem efB_refl (a : ByteArray) : efB a a = true := (efB_iff a a).2 ⟨rfl, fun _ _ => rfl⟩
theorem efB_symm (a b : ByteArray) : efB a b = efB b a := by
  rw [Bool.eq_iff_iff, efB_iff, efB_iff]
  constructor
  · rintro ⟨h1, h2⟩; exact ⟨h1.symm, fun i hi => (h2 i (by omega)).symm⟩
  · rintro ⟨h1, h2⟩; exact ⟨h1.symm, fun i hi => (h2 i (by omega)).symm⟩
theorem efB_trans (a b c : ByteArray) (h : efB a b = true) (h' : efB b c = true) : efB a c = true := by
  rw [efB_iff] at *
  exact ⟨h.1.trans h'.1, fun i hi => (h.2 i hi).trans (h'.2 i (by omega))⟩
theorem efB_size (a b : ByteArray) (h : ¬ a.size = b.size) : efB a b = false := by
  rw [efB, decide_eq_false h]; rfl

end Go.Proofs.Qxb6602404a
