/-
  The plain mathematics of widthCode: significant bytes and shifts. No Go in sight.
-/
import Derived.WalkKit
namespace Go.Proofs.Qxb6602255a

/-- The bytes that m needs, counted with fuel. -/
def sg : Nat → Nat → Nat
  | 0, _ => 0
  | f + 1, m => if m = 0 then 0 else sg f (m / 256) + 1

theorem sg_zero (f : Nat) : sg f 0 = 0 := by cases f <;> simp [sg]
theorem sg_step (f m : Nat) (h : ¬ m = 0) : sg (f + 1) m = sg f (m / 256) + 1 := by rw [sg, if_neg h]

theorem sg_le (f m : Nat) : sg f m ≤ f := by
  induction f generalizing m with
  | zero => exact Nat.le_refl 0
  | succ f ih =>
    by_cases h : m = 0
    · subst h; rw [sg_zero]; omega
    · rw [sg_step f m h]; have := ih (m / 256); omega

theorem sg_iff (f m w : Nat) (h : m < 256 ^ f) : sg f m ≤ w ↔ m < 256 ^ w := by
  induction f generalizing m w with
  | zero =>
    have : m = 0 := by simp at h; exact h
    subst this
    simp [sg]
    exact Nat.pow_pos (by omega)
  | succ f ih =>
    by_cases hm : m = 0
    · subst hm
      rw [sg_zero]
      simp
      exact Nat.pow_pos (by omega)
    · rw [sg_step f m hm]
      cases w with
      | zero => simp; omega
      | succ w =>
        have h' : m / 256 < 256 ^ f := by
          rw [Nat.pow_succ] at h
          exact Nat.div_lt_of_lt_mul (by omega)
        have := ih (m / 256) w h'
        rw [Nat.succ_le_succ_iff, this, Nat.pow_succ]
        rw [Nat.div_lt_iff_lt_mul (by omega)]

/-- What n >> (8 * w) is. -/
def shrB (n w : Int) : Int := n.fdiv (2 ^ (min (8 * w).toNat 64))

theorem shr_zero (N : Nat) (w : Int) (hN : N < 18446744073709551616) (hw : 0 ≤ w) : (shrB (N : Int) w == 0) = decide ((sg 8 N : Int) ≤ w) := by
  have hN' : N < 256 ^ 8 := by
    have : (256 ^ 8 : Nat) = 18446744073709551616 := by decide
    omega
  obtain ⟨W, rfl⟩ : ∃ W : Nat, w = W := ⟨w.toNat, by omega⟩
  have e : (8 * (W : Int)).toNat = 8 * W := by omega
  unfold shrB
  rw [e]
  have key : (sg 8 N ≤ W) ↔ N < 2 ^ (min (8 * W) 64) := by
    rw [sg_iff 8 N W hN']
    by_cases h8 : W ≤ 8
    · rw [Nat.min_eq_left (by omega), Nat.pow_mul]
    · rw [Nat.min_eq_right (by omega)]
      constructor
      · intro _
        have : (2 ^ 64 : Nat) = 18446744073709551616 := by decide
        omega
      · intro _
        exact Nat.lt_of_lt_of_le hN' (Nat.pow_le_pow_right (by omega) (by omega))
  have hfd : (N : Int).fdiv (2 ^ (min (8 * W) 64)) = ((N / 2 ^ (min (8 * W) 64) : Nat) : Int) := by
    have : ((2 : Int) ^ (min (8 * W) 64)) = ((2 ^ (min (8 * W) 64) : Nat) : Int) := by simp
    rw [this]
    exact (Int.fdiv_eq_ediv_of_nonneg _ (Int.natCast_nonneg _)).trans (by simp)
  rw [hfd, Bool.eq_iff_iff]
  simp only [beq_iff_eq, decide_eq_true_eq]
  constructor
  · intro h
    have h0 : N / 2 ^ (min (8 * W) 64) = 0 := by omega
    have := key.2 (by
      rcases Nat.div_eq_zero_iff.1 h0 with h1 | h1
      · exact absurd h1 (Nat.ne_of_gt (Nat.pow_pos (by omega)))
      · exact h1)
    omega
  · intro h
    have := key.1 (by omega)
    rw [Nat.div_eq_of_lt this]; rfl

/-- c is the first of four that p takes, or none is. -/
def First (p : Nat → Bool) (c : Nat) (ok : Bool) : Prop :=
  (ok = true ∧ c < 4 ∧ p c = true ∧ ∀ i, i < c → p i = false) ∨ (ok = false ∧ c = 0 ∧ ∀ i, i < 4 → p i = false)

theorem first_one {p : Nat → Bool} {c c' : Nat} {ok ok' : Bool} (h : First p c ok) (h' : First p c' ok') : c = c' ∧ ok = ok' := by
  rcases h with ⟨a1, a2, a3, a4⟩ | ⟨a1, a2, a3⟩ <;> rcases h' with ⟨b1, b2, b3, b4⟩ | ⟨b1, b2, b3⟩
  · refine ⟨?_, by rw [a1, b1]⟩
    rcases Nat.lt_trichotomy c c' with l | l | l
    · rw [b4 c l] at a3; cases a3
    · exact l
    · rw [a4 c' l] at b3; cases b3
  · rw [b3 c a2] at a3; cases a3
  · rw [a3 c' b2] at b3; cases b3
  · exact ⟨by omega, by rw [a1, b1]⟩

end Go.Proofs.Qxb6602255a
