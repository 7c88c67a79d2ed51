/-
  The plain mathematics of cutRawPath: no Go in sight.
-/
import Derived.Lib.Strings
import Derived.Lib.IndexBytes
namespace Go.Proofs.Qxb6602171a

/-- The byte at place i, 0 behind the end. -/
def bt (s : ByteArray) (i : Nat) : Nat := if h : i < s.size then s[i].toNat else 0

theorem bt_at (s : ByteArray) (i : Nat) (h : i < s.size) : s[i].toNat = bt s i := by
  unfold bt; rw [dif_pos h]

theorem bt_atI (s : ByteArray) (i : Nat) (h : i < s.size) : (s[i].toNat : Int) = (bt s i : Int) := by
  rw [bt_at]

theorem bt_list (s : ByteArray) (i : Nat) (h : i < s.size) : ∃ c : UInt8, s.data.toList[i]? = some c ∧ c.toNat = bt s i := by
  refine ⟨s[i], ?_, bt_at s i h⟩
  have : i < s.data.toList.length := by rw [← Lib.size_eq]; exact h
  rw [List.getElem?_eq_getElem this]
  rfl

def adv (s : ByteArray) : Nat → Nat → Nat
  | 0, i => i
  | c + 1, i => if i < s.size then adv s c (if bt s i = 37 then i + 3 else i + 1) else i

theorem adv_out (s : ByteArray) (c i : Nat) (h : s.size ≤ i) : adv s c i = i := by
  cases c with
  | zero => rfl
  | succ c => unfold adv; rw [if_neg (by omega)]

theorem adv_pct (s : ByteArray) (c i : Nat) (h : i < s.size) (hp : bt s i = 37) : adv s (c + 1) i = adv s c (i + 3) := by
  rw [adv, if_pos h, if_pos hp]

theorem adv_one (s : ByteArray) (c i : Nat) (h : i < s.size) (hp : ¬ bt s i = 37) : adv s (c + 1) i = adv s c (i + 1) := by
  rw [adv, if_pos h, if_neg hp]

/-- Where the walk has not come to the end it has made all its steps, each of one to three bytes. -/
theorem adv_bounds (s : ByteArray) (c i : Nat) (h : adv s c i < s.size) : i + c ≤ adv s c i ∧ adv s c i ≤ i + 3 * c := by
  induction c generalizing i with
  | zero => simp [adv]
  | succ c ih =>
    by_cases hi : i < s.size
    · by_cases hp : bt s i = 37
      · rw [adv_pct s c i hi hp] at h ⊢
        have := ih _ h
        omega
      · rw [adv_one s c i hi hp] at h ⊢
        have := ih _ h
        omega
    · rw [adv_out s _ i (by omega)] at h
      omega

theorem extract_one (s : ByteArray) (h : 1 ≤ s.size) : ((s.extract 0 1).toList == [47]) = (bt s 0 == 47) := by
  obtain ⟨c, h1, h2⟩ := bt_list s 0 (by omega)
  rw [Lib.extract_toList]
  cases hl : s.data.toList with
  | nil => rw [hl] at h1; simp at h1
  | cons a l =>
    rw [hl] at h1
    simp at h1
    subst h1
    rw [← h2]
    simp
    rw [Bool.eq_iff_iff]
    simp
    constructor
    · intro e; rw [e]; rfl
    · intro e; exact UInt8.toNat_inj.mp (by rw [e]; rfl)

theorem bt_extract (s : ByteArray) (a i : Nat) (h : a + i < s.size) : bt (s.extract a s.size) i = bt s (a + i) := by
  obtain ⟨c, h1, h2⟩ := bt_list s (a + i) h
  obtain ⟨c', h1', h2'⟩ := bt_list (s.extract a s.size) i (by simp; omega)
  rw [Lib.extract_to_end, List.getElem?_drop] at h1'
  rw [h1] at h1'
  simp at h1'
  subst h1'
  omega

theorem extract_self (s : ByteArray) : s.extract 0 s.size = s := by simp

end Go.Proofs.Qxb6602171a
