/-
  The plain mathematics of the decoded offset: no Go in sight.
-/
import Derived.Test.Qxb6602171aPlain
namespace Go.Proofs.Qxb6602171a

/-- A hex digit. -/
def hexB (n : Int) : Bool := decide ((48 ≤ n ∧ n ≤ 57) ∨ (97 ≤ n ∧ n ≤ 102) ∨ (65 ≤ n ∧ n ≤ 70))

theorem hexB_not (n : Nat) (h : hexB n = true) : ¬ n = 37 ∧ ¬ n = 47 := by
  unfold hexB at h
  have := of_decide_eq_true h
  omega

/-- Every percent sign ahead of k begins a whole escape. -/
def GoodTo (s : ByteArray) (k : Nat) : Prop :=
  ∀ i, i < k → bt s i = 37 → i + 2 < s.size ∧ hexB (bt s (i + 1)) = true ∧ hexB (bt s (i + 2)) = true

theorem goodTo_zero (s : ByteArray) : GoodTo s 0 := fun i h => absurd h (Nat.not_lt_zero i)

theorem goodTo_pct (s : ByteArray) (k : Nat) (h : GoodTo s k) (h1 : k + 2 < s.size) (h2 : hexB (bt s (k + 1)) = true) (h3 : hexB (bt s (k + 2)) = true) : GoodTo s (k + 1) := by
  intro i hi hp
  by_cases e : i = k
  · subst e; exact ⟨h1, h2, h3⟩
  · exact h i (by omega) hp

theorem goodTo_other (s : ByteArray) (k : Nat) (h : GoodTo s k) (h1 : ¬ bt s k = 37) : GoodTo s (k + 1) := by
  intro i hi hp
  by_cases e : i = k
  · subst e; exact absurd hp h1
  · exact h i (by omega) hp

/-- The percent signs ahead of k. -/
def cnt (s : ByteArray) : Nat → Nat
  | 0 => 0
  | k + 1 => cnt s k + if bt s k = 37 then 1 else 0

theorem cnt_pct (s : ByteArray) (k : Nat) (h : bt s k = 37) : cnt s (k + 1) = cnt s k + 1 := by rw [cnt, if_pos h]
theorem cnt_other (s : ByteArray) (k : Nat) (h : ¬ bt s k = 37) : cnt s (k + 1) = cnt s k := by rw [cnt, if_neg h]; rfl
theorem cnt_le (s : ByteArray) (k : Nat) : cnt s k ≤ k := by
  induction k with
  | zero => exact Nat.le_refl 0
  | succ k ih =>
    by_cases h : bt s k = 37
    · rw [cnt_pct s k h]; omega
    · rw [cnt_other s k h]; omega

theorem cnt_escape (s : ByteArray) (g : GoodTo s s.size) (k : Nat) (hk : k < s.size) (h : bt s k = 37) : cnt s (k + 3) = cnt s k + 1 := by
  have ⟨_, h2, h3⟩ := g k hk h
  rw [show k + 3 = (k + 1 + 1) + 1 from rfl, cnt_other s _ (hexB_not _ h3).1, cnt_other s _ (hexB_not _ h2).1, cnt_pct s k h]

/-- One step more, taken last. -/
theorem adv_last_pct (s : ByteArray) (c i : Nat) (h : adv s c i < s.size) (hp : bt s (adv s c i) = 37) : adv s (c + 1) i = adv s c i + 3 := by
  induction c generalizing i with
  | zero =>
    have h' : i < s.size := h
    have hp' : bt s i = 37 := hp
    rw [adv_pct s 0 i h' hp']; rfl
  | succ c ih =>
    by_cases hi : i < s.size
    · by_cases q : bt s i = 37
      · rw [adv_pct s c i hi q] at h hp
        rw [adv_pct s (c + 1) i hi q, adv_pct s c i hi q]
        exact ih _ h hp
      · rw [adv_one s c i hi q] at h hp
        rw [adv_one s (c + 1) i hi q, adv_one s c i hi q]
        exact ih _ h hp
    · rw [adv_out s _ i (by omega)] at h
      omega

theorem adv_last_one (s : ByteArray) (c i : Nat) (h : adv s c i < s.size) (hp : ¬ bt s (adv s c i) = 37) : adv s (c + 1) i = adv s c i + 1 := by
  induction c generalizing i with
  | zero =>
    have h' : i < s.size := h
    have hp' : ¬ bt s i = 37 := hp
    rw [adv_one s 0 i h' hp']; rfl
  | succ c ih =>
    by_cases hi : i < s.size
    · by_cases q : bt s i = 37
      · rw [adv_pct s c i hi q] at h hp
        rw [adv_pct s (c + 1) i hi q, adv_pct s c i hi q]
        exact ih _ h hp
      · rw [adv_one s c i hi q] at h hp
        rw [adv_one s (c + 1) i hi q, adv_one s c i hi q]
        exact ih _ h hp
    · rw [adv_out s _ i (by omega)] at h
      omega

/-- Place k is where an escape or a plain byte begins, and its decoded offset is the steps to it. -/
def Start (s : ByteArray) (k : Nat) : Prop := ∃ c, adv s c 0 = k ∧ k = c + 2 * cnt s k

theorem start_zero (s : ByteArray) : Start s 0 := ⟨0, rfl, rfl⟩

theorem start_one (s : ByteArray) (k : Nat) (h : Start s k) (hk : k < s.size) (hp : ¬ bt s k = 37) : Start s (k + 1) := by
  obtain ⟨c, h1, h2⟩ := h
  refine ⟨c + 1, ?_, ?_⟩
  · rw [adv_last_one s c 0 (by rw [h1]; exact hk) (by rw [h1]; exact hp), h1]
  · rw [cnt_other s k hp]; omega

theorem start_pct (s : ByteArray) (g : GoodTo s s.size) (k : Nat) (h : Start s k) (hk : k < s.size) (hp : bt s k = 37) : Start s (k + 3) := by
  obtain ⟨c, h1, h2⟩ := h
  refine ⟨c + 1, ?_, ?_⟩
  · rw [adv_last_pct s c 0 (by rw [h1]; exact hk) (by rw [h1]; exact hp), h1]
  · rw [cnt_escape s g k hk hp]; omega

/-- Each place is a start, or the first or second byte behind a percent sign. -/
theorem start_or (s : ByteArray) (g : GoodTo s s.size) (k : Nat) (hk : k ≤ s.size) :
    Start s k ∨ (∃ i, k = i + 1 ∧ Start s i ∧ bt s i = 37) ∨ (∃ i, k = i + 2 ∧ Start s i ∧ bt s i = 37) := by
  induction k with
  | zero => exact Or.inl (start_zero s)
  | succ k ih =>
    rcases ih (by omega) with h | ⟨i, e, h, hp⟩ | ⟨i, e, h, hp⟩
    · by_cases hp : bt s k = 37
      · exact Or.inr (Or.inl ⟨k, rfl, h, hp⟩)
      · exact Or.inl (start_one s k h (by omega) hp)
    · exact Or.inr (Or.inr ⟨i, by omega, h, hp⟩)
    · subst e
      exact Or.inl (start_pct s g i h (by omega) hp)

theorem start_slash (s : ByteArray) (g : GoodTo s s.size) (k : Nat) (hk : k < s.size) (h : bt s k = 47) : Start s k := by
  rcases start_or s g k (by omega) with h' | ⟨i, e, h', hp⟩ | ⟨i, e, h', hp⟩
  · exact h'
  · subst e
    exact absurd h (hexB_not _ (g i (by omega) hp).2.1).2
  · subst e
    exact absurd h (hexB_not _ (g i (by omega) hp).2.2).2

theorem start_adv (s : ByteArray) (g : GoodTo s s.size) (c : Nat) (h : adv s c 0 < s.size) : adv s c 0 = c + 2 * cnt s (adv s c 0) := by
  induction c with
  | zero => rfl
  | succ c ih =>
    by_cases hc : adv s c 0 < s.size
    · have e := ih hc
      by_cases hp : bt s (adv s c 0) = 37
      · rw [adv_last_pct s c 0 hc hp, cnt_escape s g _ hc hp]; omega
      · rw [adv_last_one s c 0 hc hp, cnt_other s _ hp]; omega
    · exfalso
      have hb := adv_bounds s (c + 1) 0 h
      apply hc
      have : ∀ c i, adv s c i ≤ adv s (c + 1) i := by
        intro c
        induction c with
        | zero =>
          intro i
          by_cases hi : i < s.size
          · by_cases q : bt s i = 37
            · rw [adv_pct s 0 i hi q]; show i ≤ i + 3; omega
            · rw [adv_one s 0 i hi q]; show i ≤ i + 1; omega
          · rw [adv_out s _ i (by omega), adv_out s _ i (by omega)]; exact Nat.le_refl _
        | succ c ih =>
          intro i
          by_cases hi : i < s.size
          · by_cases q : bt s i = 37
            · rw [adv_pct s c i hi q, adv_pct s (c + 1) i hi q]; exact ih _
            · rw [adv_one s c i hi q, adv_one s (c + 1) i hi q]; exact ih _
          · rw [adv_out s _ i (by omega), adv_out s _ i (by omega)]; exact Nat.le_refl _
      exact Nat.lt_of_le_of_lt (this c 0) h

/-- No literal slash of decoded offset t ahead of k. -/
def NoHit (s : ByteArray) (t : Int) (k : Nat) : Prop := ∀ i, i < k → bt s i = 47 → ¬ (i : Int) - 2 * (cnt s i : Int) = t

theorem noHit_zero (s : ByteArray) (t : Int) : NoHit s t 0 := fun i h => absurd h (Nat.not_lt_zero i)

theorem noHit_other (s : ByteArray) (t : Int) (k : Nat) (h : NoHit s t k) (h1 : ¬ bt s k = 47) : NoHit s t (k + 1) := by
  intro i hi hp
  by_cases e : i = k
  · subst e; exact absurd hp h1
  · exact h i (by omega) hp

theorem noHit_off (s : ByteArray) (t : Int) (k : Nat) (h : NoHit s t k) (h1 : ¬ (k : Int) - 2 * (cnt s k : Int) = t) : NoHit s t (k + 1) := by
  intro i hi hp
  by_cases e : i = k
  · subst e; exact h1
  · exact h i (by omega) hp

/-- A hit: it is where the steps lead. -/
theorem hit_adv (s : ByteArray) (g : GoodTo s s.size) (t : Int) (k : Nat) (hk : k < s.size) (h : bt s k = 47) (e : (k : Int) - 2 * (cnt s k : Int) = t) : k = adv s t.toNat 0 := by
  obtain ⟨c, h1, h2⟩ := start_slash s g k hk h
  rw [show t.toNat = c by omega, h1]

/-- No hit: the steps lead to no slash. -/
theorem miss_adv (s : ByteArray) (g : GoodTo s s.size) (t : Int) (h0 : 0 ≤ t) (h : NoHit s t s.size) (h1 : adv s t.toNat 0 < s.size) : ¬ bt s (adv s t.toNat 0) = 47 := by
  intro hb
  have e := start_adv s g t.toNat h1
  exact h _ h1 hb (by omega)

end Go.Proofs.Qxb6602171a
