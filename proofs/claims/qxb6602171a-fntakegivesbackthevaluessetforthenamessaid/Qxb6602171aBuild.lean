/-
  The law on take: pattern and path as plain lists of bytes; appending to the two rows that hold them.
-/
import Derived.Test.Qxb6602171aLawDefs
namespace Go.Proofs.Qxb6602171a
open Go.ChangeShapes Go.WideShapes Go.ChangeAt Go.RowKit

/-- The pattern's text of segment i. -/
def segP (ks : Nat → Int) (ts : Nat → ByteArray) (i : Nat) : List UInt8 :=
  if ks i = 0 then 47 :: (ts i).data.toList
  else if ks i = 2 then 47 :: 42 :: (ts i).data.toList
  else if ks i = 3 then (47 :: 58 :: (ts i).data.toList) ++ [63]
  else 47 :: 58 :: (ts i).data.toList
/-- The path's text of segment i. -/
def segR (ks : Nat → Int) (ts vs : Nat → ByteArray) (i : Nat) : List UInt8 :=
  if ks i = 0 then 47 :: (ts i).data.toList else 47 :: (vs (nm ks i)).data.toList
/-- The pattern of the first k segments. -/
def patL (ks : Nat → Int) (ts : Nat → ByteArray) : Nat → List UInt8
  | 0 => []
  | k + 1 => patL ks ts k ++ segP ks ts k
/-- The path of the first k segments. -/
def pthL (ks : Nat → Int) (ts vs : Nat → ByteArray) : Nat → List UInt8
  | 0 => []
  | k + 1 => pthL ks ts vs k ++ segR ks ts vs k
/-- Where the last value ends in the path of the first k segments. -/
def tlN (ks : Nat → Int) (ts vs : Nat → ByteArray) : Nat → Nat
  | 0 => 0
  | k + 1 => if ks k = 0 then tlN ks ts vs k else (pthL ks ts vs (k + 1)).length

theorem data_length (s : ByteArray) : s.data.toList.length = s.size := by rw [Lib.size_eq]

theorem patL_le (ks : Nat → Int) (ts : Nat → ByteArray) (k : Nat) : (patL ks ts k).length ≤ 3 * k + tsum ts k := by
  induction k with
  | zero => exact Nat.le_refl 0
  | succ k ih =>
    rw [patL, tsum, List.length_append]
    have : (segP ks ts k).length ≤ 3 + (ts k).size := by
      unfold segP
      split
      · simp; omega
      · split
        · simp; omega
        · split
          · simp; omega
          · simp; omega
    omega

theorem pthL_le (ks : Nat → Int) (ts vs : Nat → ByteArray) (k : Nat) : (pthL ks ts vs k).length ≤ k + tsum ts k + tsum vs (nm ks k) := by
  induction k with
  | zero => exact Nat.zero_le _
  | succ k ih =>
    rw [pthL, tsum, List.length_append]
    by_cases h : ks k = 0
    · rw [nm_static ks k h, segR, if_pos h]
      simp; omega
    · rw [nm_named ks k h, tsum, segR, if_neg h]
      simp; omega

theorem tlN_le (ks : Nat → Int) (ts vs : Nat → ByteArray) (k : Nat) : tlN ks ts vs k ≤ (pthL ks ts vs k).length := by
  induction k with
  | zero => exact Nat.le_refl 0
  | succ k ih =>
    rw [tlN]
    split
    · rw [pthL, List.length_append]; omega
    · exact Nat.le_refl _

/-- Bytes as cells. -/
def byteCells (l : List UInt8) : List Value := l.map fun b => Value.int .u8 (b.toNat : Int)

theorem byteCells_append (l r : List UInt8) : byteCells (l ++ r) = byteCells l ++ byteCells r := List.map_append

/-- The two rows: block P holds xs, block R holds ys, each with room for Z bytes; everything below B is as in w0. -/
structure Two (w0 : World) (B : Nat) (w : World) (P R Z n : Nat) (xs : List UInt8) (m : Nat) (ys : List UInt8) : Prop where
  fst : w.ownsRow B 5 1 (.slice (some ⟨P, 0, none⟩) n Z) n (byteCells xs)
  snd : w.ownsRow B 5 1 (.slice (some ⟨R, 0, none⟩) m Z) m (byteCells ys)
  ne : ¬ P = R
  below : Below B w0 w
  size : B ≤ w.heap.size

theorem Two.alloc {w0 : World} {B : Nat} {w : World} {P R Z n : Nat} {xs : List UInt8} {m : Nat} {ys : List UInt8} (h : Two w0 B w P R Z n xs m ys) (o : Obj) : Two w0 B (w.alloc o) P R Z n xs m ys :=
  ⟨h.fst.alloc _, h.snd.alloc _, h.ne, h.below.alloc h.size _, by have := h.size; simp; omega⟩

section
variable {w0 : World} {B : Nat} {W : World} {P R Z n : Nat} {xs : List UInt8} {m : Nat} {ys : List UInt8} {ops : Array Oper} {rest : List Oper} {o : Oper} {a : Act} {Q : Exit → Act → World → Prop}

/-- append(pattern, c). -/
theorem app_byte_fst (s x : Operand) (hgd : o.guard = none) (ho : o.op = Op.call { callee := Callee.builtin Builtin.append, args := #[s, x], argTypes := #[33, 33] }) (hT : Two w0 B W P R Z n xs m ys)
    (hs : a.eval s = .slice (some ⟨P, 0, none⟩) n Z) (H : Nat) (c : UInt8) (hx : a.eval x = .slice (some ⟨H, 0, none⟩) 1 1) (hc : W.cell? ⟨H, 0, none⟩ = some (.int .u8 (c.toNat : Int))) (hroom : n + 1 ≤ Z)
    (h : ∀ w', Two w0 B w' P R Z (n + 1) (xs ++ [c]) m ys → wpList Try.prog ops Q rest (a.put o.dst (.slice (some ⟨P, 0, none⟩) (n + 1) Z)) w') : wpList Try.prog ops Q (o :: rest) a W := by
  obtain ⟨i0, hi, hz0, hz1, hz2⟩ := info_parts info5
  refine wpList_append_fits W hgd s x 33 ho B 5 i0 1 Try.underlying33 hi hz1 P n Z (byteCells xs) hs hT.fst ⟨H, 0, none⟩ 1 1 [.int .u8 (c.toNat : Int)] hx rfl ?_ ?_ hroom ?_
  · intro j u hj
    match j, hj with
    | 0, hj => simp at hj; subst hj; exact hc
  · intro u hu
    simp at hu
    subst hu
    rfl
  · intro w' hown hgrow
    refine h w' ⟨by rw [byteCells_append]; exact hown, hT.snd.kept hgrow (Or.inr (by simp [Value.ownBlock]; exact fun e => hT.ne e.symm)), hT.ne, hT.below.grown hgrow hT.size ?_, Nat.le_trans hT.size hgrow.size⟩
    intro k hk
    cases hk
    exact (hT.fst.lt P rfl).1

/-- append(path, c). -/
theorem app_byte_snd (s x : Operand) (hgd : o.guard = none) (ho : o.op = Op.call { callee := Callee.builtin Builtin.append, args := #[s, x], argTypes := #[33, 33] }) (hT : Two w0 B W P R Z n xs m ys)
    (hs : a.eval s = .slice (some ⟨R, 0, none⟩) m Z) (H : Nat) (c : UInt8) (hx : a.eval x = .slice (some ⟨H, 0, none⟩) 1 1) (hc : W.cell? ⟨H, 0, none⟩ = some (.int .u8 (c.toNat : Int))) (hroom : m + 1 ≤ Z)
    (h : ∀ w', Two w0 B w' P R Z n xs (m + 1) (ys ++ [c]) → wpList Try.prog ops Q rest (a.put o.dst (.slice (some ⟨R, 0, none⟩) (m + 1) Z)) w') : wpList Try.prog ops Q (o :: rest) a W := by
  obtain ⟨i0, hi, hz0, hz1, hz2⟩ := info_parts info5
  refine wpList_append_fits W hgd s x 33 ho B 5 i0 1 Try.underlying33 hi hz1 R m Z (byteCells ys) hs hT.snd ⟨H, 0, none⟩ 1 1 [.int .u8 (c.toNat : Int)] hx rfl ?_ ?_ hroom ?_
  · intro j u hj
    match j, hj with
    | 0, hj => simp at hj; subst hj; exact hc
  · intro u hu
    simp at hu
    subst hu
    rfl
  · intro w' hown hgrow
    refine h w' ⟨hT.fst.kept hgrow (Or.inr (by simp [Value.ownBlock]; exact hT.ne)), by rw [byteCells_append]; exact hown, hT.ne, hT.below.grown hgrow hT.size ?_, Nat.le_trans hT.size hgrow.size⟩
    intro k hk
    cases hk
    exact (hT.snd.lt R rfl).1

/-- append(pattern, t...). -/
theorem app_str_fst (s x : Operand) (hgd : o.guard = none) (ho : o.op = .call { callee := .builtin .append, args := #[s, x], argTypes := #[33, 9] }) (hT : Two w0 B W P R Z n xs m ys)
    (hs : a.eval s = .slice (some ⟨P, 0, none⟩) n Z) (t : ByteArray) (hx : a.eval x = .string t) (h0 : 0 < Z) (hroom : n + t.size ≤ Z)
    (h : ∀ w', Two w0 B w' P R Z (n + t.size) (xs ++ t.data.toList) m ys → wpList Try.prog ops Q rest (a.put o.dst (.slice (some ⟨P, 0, none⟩) (n + t.size) Z)) w') : wpList Try.prog ops Q (o :: rest) a W := by
  obtain ⟨i0, hi, hz0, hz1, hz2⟩ := info_parts info5
  refine Lib.wpList_append_fits_string W hgd s x 33 9 ho B 5 i0 Try.underlying33 Try.underlying9 hi hz1 (some ⟨P, 0, none⟩) n Z (byteCells xs) hs hT.fst t hx h0 hroom ?_
  intro w' hown hgrow
  refine h w' ⟨by rw [byteCells_append]; exact hown, hT.snd.kept hgrow (Or.inr (by simp [Value.ownBlock]; exact fun e => hT.ne e.symm)), hT.ne, hT.below.grown hgrow hT.size ?_, Nat.le_trans hT.size hgrow.size⟩
  intro k hk
  cases hk
  exact (hT.fst.lt P rfl).1

/-- append(path, t...). -/
theorem app_str_snd (s x : Operand) (hgd : o.guard = none) (ho : o.op = .call { callee := .builtin .append, args := #[s, x], argTypes := #[33, 9] }) (hT : Two w0 B W P R Z n xs m ys)
    (hs : a.eval s = .slice (some ⟨R, 0, none⟩) m Z) (t : ByteArray) (hx : a.eval x = .string t) (h0 : 0 < Z) (hroom : m + t.size ≤ Z)
    (h : ∀ w', Two w0 B w' P R Z n xs (m + t.size) (ys ++ t.data.toList) → wpList Try.prog ops Q rest (a.put o.dst (.slice (some ⟨R, 0, none⟩) (m + t.size) Z)) w') : wpList Try.prog ops Q (o :: rest) a W := by
  obtain ⟨i0, hi, hz0, hz1, hz2⟩ := info_parts info5
  refine Lib.wpList_append_fits_string W hgd s x 33 9 ho B 5 i0 Try.underlying33 Try.underlying9 hi hz1 (some ⟨R, 0, none⟩) m Z (byteCells ys) hs hT.snd t hx h0 hroom ?_
  intro w' hown hgrow
  refine h w' ⟨hT.fst.kept hgrow (Or.inr (by simp [Value.ownBlock]; exact hT.ne)), by rw [byteCells_append]; exact hown, hT.ne, hT.below.grown hgrow hT.size ?_, Nat.le_trans hT.size hgrow.size⟩
  intro k hk
  cases hk
  exact (hT.snd.lt R rfl).1

end

theorem one_new (w : World) (v : Value) (t : TypeId) : (w.alloc (.cells #[v] t)).cell? ⟨w.heap.size, 0, none⟩ = some v := by
  rw [cell_of_row _ _ _ _ _ _ (heap_alloc_new w _)]; rfl

end Go.Proofs.Qxb6602171a
