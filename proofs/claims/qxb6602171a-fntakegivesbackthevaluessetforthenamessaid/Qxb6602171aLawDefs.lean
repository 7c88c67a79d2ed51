/-
  The law on take: the plain words and small laws of its stages.
-/
import Derived.Test.Qxb6602171aBytes
import Derived.Test.Qxb6602171aTake
import Derived.Deep.Cut
namespace Go.Proofs.Qxb6602171a
open Go.ChangeShapes Go.WideShapes Go.ChangeAt Go.RowKit

/-- The lengths of the first k strings, added up. -/
def tsum (ts : Nat → ByteArray) : Nat → Nat
  | 0 => 0
  | k + 1 => tsum ts k + (ts k).size
theorem tsum_le (ts : Nat → ByteArray) (i j : Nat) (h : i ≤ j) : tsum ts i ≤ tsum ts j := by
  induction j with
  | zero => rw [show i = 0 by omega]; exact Nat.le_refl _
  | succ j ih =>
    by_cases e : i = j + 1
    · rw [e]; exact Nat.le_refl _
    · have := ih (by omega)
      rw [tsum]; omega

theorem tsum_bound (ts : Nat → ByteArray) (k : Nat) (z : Int) (h : k = 0 ∨ z + (tsum ts k : Int) ≤ 1048576) (hz : 0 ≤ z) : tsum ts k ≤ 1048576 := by
  rcases h with rfl | h
  · exact Nat.zero_le _
  · omega

/-- Kinds up to 3; a catch-all and an optional parameter stand last alone. -/
def KindOK (ks : Nat → Int) (n k : Nat) : Prop := ∀ i, i < k → 0 ≤ ks i ∧ ks i ≤ 3 ∧ (ks i = 2 ∨ ks i = 3 → i + 1 = n)
theorem KindOK.next {ks : Nat → Int} {n k : Nat} (h : KindOK ks n k) (h1 : 0 ≤ ks k ∧ ks k ≤ 3 ∧ (ks k = 2 ∨ ks k = 3 → k + 1 = n)) : KindOK ks n (k + 1) := by
  intro i hi
  by_cases e : i = k
  · subst e; exact h1
  · exact h i (by omega)

/-- The values of the names among the first k segments: not empty and free of slashes, but for a catch-all's. -/
def ValOK (ks : Nat → Int) (vs : Nat → ByteArray) (k : Nat) : Prop :=
  ∀ i, i < k → ¬ ks i = 0 → ¬ ks i = 2 → (vs (nm ks i)).toList.isEmpty = false ∧ hasSlB (vs (nm ks i)) (vs (nm ks i)).size = false
theorem ValOK.next {ks : Nat → Int} {vs : Nat → ByteArray} {k : Nat} (h : ValOK ks vs k) (h1 : ¬ ks k = 0 → ¬ ks k = 2 → (vs (nm ks k)).toList.isEmpty = false ∧ hasSlB (vs (nm ks k)) (vs (nm ks k)).size = false) : ValOK ks vs (k + 1) := by
  intro i hi
  by_cases e : i = k
  · subst e; exact h1
  · exact h i (by omega)

/-- The law's text without its first k statements; its k-th statement. -/
def tailN : Nat → Code → Code
  | 0, c => c
  | k + 1, .seq _ b => tailN k b
  | _ + 1, c => c
def headN (k : Nat) (c : Code) : Code := match tailN k c with
  | .seq x _ => x
  | x => x

theorem info5 : (Try.prog.info? 5).map (fun i => (i.zero, i.size, i.bytes)) = some (some (.int .u8 0), 1, 1) := by kernel_rfl
theorem info9 : (Try.prog.info? 9).map (fun i => (i.zero, i.size, i.bytes)) = some (some (.string ⟨#[]⟩), 1, 16) := by kernel_rfl

/-- The first k kinds and texts lie in blocks p and q. -/
def KT (w : World) (p q n k : Nat) (ks : Nat → Int) (ts : Nat → ByteArray) : Prop :=
  (∀ i, i < k → w.cell? ⟨p, i, none⟩ = some (.int .u8 (ks i)) ∧ w.cell? ⟨q, i, none⟩ = some (.string (ts i))) ∧ Free w p n ∧ Free w q n

theorem KT.step {w : World} {p q n k : Nat} {ks : Nat → Int} {ts : Nat → ByteArray} (h : KT w p q n k ks ts) (hk : k < n) (hne : ¬ p = q) :
    KT ((w.setCell ⟨p, k, none⟩ (.int .u8 (ks k))).setCell ⟨q, k, none⟩ (.string (ts k))) p q n (k + 1) ks ts := by
  obtain ⟨h1, h2, h3⟩ := h
  obtain ⟨⟨u, hu⟩, _⟩ := h2 k hk
  obtain ⟨⟨u', hu'⟩, _⟩ := (h3.setOther k (.int .u8 (ks k)) hne) k hk
  have hne' : ¬ q = p := fun e => hne e.symm
  refine ⟨?_, (h2.set k _).setOther k _ hne', (h3.setOther k _ hne).set k _⟩
  intro i hi
  by_cases e : i = k
  · subst e
    exact ⟨by rw [World.cell?_setCell_other _ _ _ _ (block_ne hne')]; exact World.cell?_setCell_same _ _ _ hu, World.cell?_setCell_same _ _ _ hu'⟩
  · obtain ⟨q1, q2⟩ := h1 i (by omega)
    rw [World.cell?_setCell_other _ _ _ _ (block_ne hne'), World.cell?_setCell_other _ _ _ _ (addr_ne (by omega)), World.cell?_setCell_other _ _ _ _ (addr_ne (by omega)), World.cell?_setCell_other _ _ _ _ (block_ne hne)]
    exact ⟨q1, q2⟩


end Go.Proofs.Qxb6602171a
