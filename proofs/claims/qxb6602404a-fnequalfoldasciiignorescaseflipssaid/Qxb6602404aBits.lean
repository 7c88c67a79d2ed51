/-
  The plain mathematics of the case bit: no Go in sight.
-/
import Derived.Test.Qxb6602404aPlain
import Derived.Laws.BitsAllLaws
namespace Go.Proofs.Qxb6602404a

set_option maxRecDepth 100000 in
theorem flip_fin : ∀ x : Fin 256, (lo x.val = lo (x.val ^^^ 32)) ↔ (97 ≤ (x.val ||| 32) ∧ (x.val ||| 32) ≤ 122) := by decide
set_option maxRecDepth 100000 in
theorem up_fin : ∀ x : Fin 256, (65 ≤ x.val ∧ x.val ≤ 90) → x.val ^^^ (x.val + 32) = 32 := by decide
set_option maxRecDepth 100000 in
theorem flip_lt : ∀ x : Fin 256, x.val ^^^ 32 < 256 := by decide

theorem flip_iff (x : Nat) (h : x < 256) : (lo x = lo (x ^^^ 32)) ↔ (97 ≤ (x ||| 32) ∧ (x ||| 32) ≤ 122) := flip_fin ⟨x, h⟩

theorem xor_flip (x y : Nat) (h : x ^^^ y = 32) : y = x ^^^ 32 := by
  rw [← h, ← Nat.xor_assoc, Nat.xor_self, Nat.zero_xor]

theorem pair_far (x y : Nat) (hx : x < 256) (hy : y < 256) (h1 : ¬ x = y) (h2 : ¬ x ^^^ y = 32) : ¬ lo x = lo y := by
  intro e
  by_cases ux : 65 ≤ x ∧ x ≤ 90
  · by_cases uy : 65 ≤ y ∧ y ≤ 90
    · rw [lo_up x ux, lo_up y uy] at e; omega
    · rw [lo_up x ux, lo_id y uy] at e
      have := up_fin ⟨x, hx⟩ ux
      rw [← e] at h2
      exact h2 this
  · by_cases uy : 65 ≤ y ∧ y ≤ 90
    · rw [lo_id x ux, lo_up y uy] at e
      have := up_fin ⟨y, hy⟩ uy
      rw [e, Nat.xor_comm] at h2
      exact h2 this
    · rw [lo_id x ux, lo_id y uy] at e; exact h1 e

theorem pair_near (x y : Nat) (hx : x < 256) (h : x ^^^ y = 32) : (lo x = lo y) ↔ (97 ≤ (x ||| 32) ∧ (x ||| 32) ≤ 122) := by
  rw [xor_flip x y h]; exact flip_iff x hx

theorem beq_false_of {a b : Nat} (h : ¬ a = b) : (a == b) = false := by simp [h]
theorem beq_true_of {a b : Nat} (h : a = b) : (a == b) = true := by simp [h]

end Go.Proofs.Qxb6602404a
