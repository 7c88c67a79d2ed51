/-
  The law on take: what the lists of bytes give at each name. No Go in sight.
-/
import Derived.Test.Qxb6602171aBuild
namespace Go.Proofs.Qxb6602171a

theorem bt_get (s : ByteArray) (i : Nat) (c : UInt8) (h : s.data.toList[i]? = some c) : bt s i = c.toNat := by
  have hi : i < s.size := by
    rw [Lib.size_eq]
    exact (List.getElem?_eq_some_iff.1 h).1
  obtain ⟨c', h1, h2⟩ := bt_list s i hi
  rw [h] at h1
  cases h1
  exact h2.symm

theorem segP_static (ks : Nat → Int) (ts : Nat → ByteArray) (i : Nat) (h : ks i = 0) : segP ks ts i = 47 :: (ts i).data.toList := by rw [segP, if_pos h]
theorem segR_static (ks : Nat → Int) (ts vs : Nat → ByteArray) (i : Nat) (h : ks i = 0) : segR ks ts vs i = 47 :: (ts i).data.toList := by rw [segR, if_pos h]
theorem segR_named (ks : Nat → Int) (ts vs : Nat → ByteArray) (i : Nat) (h : ¬ ks i = 0) : segR ks ts vs i = 47 :: (vs (nm ks i)).data.toList := by rw [segR, if_neg h]

/-- A name's segment in the pattern: a slash, the sign, the name, and what may follow it. -/
theorem segP_named (ks : Nat → Int) (ts : Nat → ByteArray) (i : Nat) (h : ¬ ks i = 0) :
    ∃ c T, segP ks ts i = 47 :: c :: ((ts i).data.toList ++ T) ∧ (ks i = 2 → c = 42) ∧ (¬ ks i = 2 → c = 58) ∧ (¬ ks i = 3 → T = []) := by
  rw [segP, if_neg h]
  by_cases h2 : ks i = 2
  · rw [if_pos h2]
    exact ⟨42, [], by simp, fun _ => rfl, fun h => absurd h2 h, fun _ => rfl⟩
  · rw [if_neg h2]
    by_cases h3 : ks i = 3
    · rw [if_pos h3]
      exact ⟨58, [63], by simp, fun h => absurd h h2, fun _ => rfl, fun h => absurd h3 h⟩
    · rw [if_neg h3]
      exact ⟨58, [], by simp, fun h => absurd h h2, fun _ => rfl, fun _ => rfl⟩

theorem en_pat (ks : Nat → Int) (ts : Nat → ByteArray) (i : Nat) (h : ∀ x, x < i → ¬ ks x = 3) : en ks ts i = (patL ks ts i).length := by
  induction i with
  | zero => rfl
  | succ i ih =>
    have e := ih (fun x hx => h x (by omega))
    rw [patL, List.length_append]
    by_cases h0 : ks i = 0
    · rw [en_static ks ts i h0, segP_static ks ts i h0, e]
      simp; omega
    · obtain ⟨c, T, h1, _, _, h4⟩ := segP_named ks ts i h0
      rw [en_named ks ts i h0, h1, h4 (h i (by omega)), e]
      simp; omega

theorem static_stretch (ks : Nat → Int) (ts vs : Nat → ByteArray) (j i : Nat) (hij : j ≤ i) (h : ∀ x, j ≤ x → x < i → ks x = 0) :
    ∃ X, patL ks ts i = patL ks ts j ++ X ∧ pthL ks ts vs i = pthL ks ts vs j ++ X := by
  induction i with
  | zero => exact ⟨[], by rw [show j = 0 by omega]; simp, by rw [show j = 0 by omega]; simp⟩
  | succ i ih =>
    by_cases e : j = i + 1
    · subst e; exact ⟨[], by simp, by simp⟩
    · obtain ⟨X, h1, h2⟩ := ih (by omega) (fun x a b => h x a (by omega))
      have h0 := h i (by omega) (by omega)
      exact ⟨X ++ 47 :: (ts i).data.toList, by rw [patL, h1, segP_static ks ts i h0, List.append_assoc], by rw [pthL, h2, segR_static ks ts vs i h0, List.append_assoc]⟩

theorem pat_more (ks : Nat → Int) (ts : Nat → ByteArray) (i n : Nat) (h : i ≤ n) : ∃ Y, patL ks ts n = patL ks ts i ++ Y := by
  induction n with
  | zero => exact ⟨[], by rw [show i = 0 by omega]; simp⟩
  | succ n ih =>
    by_cases e : i = n + 1
    · subst e; exact ⟨[], by simp⟩
    · obtain ⟨Y, hY⟩ := ih (by omega)
      exact ⟨Y ++ segP ks ts n, by rw [patL, hY, List.append_assoc]⟩

theorem segR_head (ks : Nat → Int) (ts vs : Nat → ByteArray) (i : Nat) : ∃ l, segR ks ts vs i = 47 :: l := by
  by_cases h : ks i = 0
  · exact ⟨_, segR_static ks ts vs i h⟩
  · exact ⟨_, segR_named ks ts vs i h⟩

theorem pth_more (ks : Nat → Int) (ts vs : Nat → ByteArray) (i n : Nat) (h : i ≤ n) : ∃ Y, pthL ks ts vs n = pthL ks ts vs i ++ Y ∧ (i = n → Y = []) ∧ (Y = [] ∨ ∃ l, Y = 47 :: l) := by
  induction n with
  | zero => exact ⟨[], by rw [show i = 0 by omega]; simp, fun _ => rfl, Or.inl rfl⟩
  | succ n ih =>
    by_cases e : i = n + 1
    · subst e; exact ⟨[], by simp, fun _ => rfl, Or.inl rfl⟩
    · obtain ⟨Y, hY, _, hh⟩ := ih (by omega)
      refine ⟨Y ++ segR ks ts vs n, by rw [pthL, hY, List.append_assoc], fun h => absurd h e, Or.inr ?_⟩
      rcases hh with rfl | ⟨l, rfl⟩
      · exact segR_head ks ts vs n
      · exact ⟨l ++ segR ks ts vs n, rfl⟩

/-- The next name behind segment j. -/
theorem next_name (ks : Nat → Int) (j n : Nat) (hj : j ≤ n) (h : nm ks j < nm ks n) : ∃ i, j ≤ i ∧ i < n ∧ nm ks i = nm ks j ∧ ¬ ks i = 0 ∧ ∀ x, j ≤ x → x < i → ks x = 0 := by
  induction n with
  | zero => rw [show j = 0 by omega] at h; omega
  | succ n ih =>
    by_cases e : j = n + 1
    · subst e; omega
    · by_cases hlt : nm ks j < nm ks n
      · obtain ⟨i, h1, h2, h3⟩ := ih (by omega) hlt
        exact ⟨i, h1, by omega, h3⟩
      · have hm := nm_mono ks j n (by omega)
        have hn0 : ¬ ks n = 0 := by intro h0; rw [nm_static ks n h0] at h; omega
        refine ⟨n, by omega, by omega, by omega, hn0, ?_⟩
        intro x hx1 hx2
        by_cases h0 : ks x = 0
        · exact h0
        · have q1 := nm_named ks x h0
          have q2 := nm_mono ks j x hx1
          have q3 := nm_mono ks (x + 1) n (by omega)
          omega

theorem plc_at (ks : Nat → Int) (ts : Nat → ByteArray) (i n : Nat) (hi : i < n) (h : ¬ ks i = 0) :
    (plc ks ts n)[nm ks i * 2]? = some (.int .u32 ((en ks ts i + 2 : Nat) : Int)) ∧ (plc ks ts n)[nm ks i * 2 + 1]? = some (.int .u32 ((en ks ts i + 2 + (ts i).size : Nat) : Int)) := by
  induction n with
  | zero => omega
  | succ n ih =>
    have hl := plc_length ks ts n
    by_cases e : i = n
    · subst e
      rw [plc_named ks ts i h, List.getElem?_append_right (by omega), List.getElem?_append_right (by omega), hl]
      exact ⟨by rw [Nat.sub_self]; rfl, by rw [Nat.add_sub_cancel_left]; rfl⟩
    · have q1 := nm_named ks i h
      have q3 := nm_mono ks (i + 1) n (by omega)
      obtain ⟨a, b⟩ := ih (by omega)
      by_cases h0 : ks n = 0
      · rw [plc_static ks ts n h0]; exact ⟨a, b⟩
      · rw [plc_named ks ts n h0, List.getElem?_append_left (by omega), List.getElem?_append_left (by omega)]
        exact ⟨a, b⟩

/-- What the tail is: behind the last name. -/
theorem tlN_last (ks : Nat → Int) (ts vs : Nat → ByteArray) (j n : Nat) (hj : j ≤ n) (h : nm ks j = nm ks n) (hl : j = 0 ∨ ∃ x, j = x + 1 ∧ ¬ ks x = 0) (h0 : 0 < nm ks n) : tlN ks ts vs n = (pthL ks ts vs j).length := by
  induction n with
  | zero => simp [nm] at h0
  | succ n ih =>
    by_cases e : j = n + 1
    · rcases hl with rfl | ⟨x, rfl, hx⟩
      · omega
      · obtain rfl : x = n := by omega
        rw [tlN, if_neg hx]
    · have hm := nm_mono ks j n (by omega)
      have hz : ks n = 0 := by
        by_cases hz : ks n = 0
        · exact hz
        · have := nm_named ks n hz; omega
      rw [nm_static ks n hz] at h h0
      rw [tlN, if_pos hz]
      exact ih (by omega) h h0

theorem drop_len {α : Type} (a b : List α) : (a ++ b).drop a.length = b := List.drop_left

theorem ba_ext (s t : ByteArray) (h : s.data.toList = t.data.toList) : s = t := by
  apply ByteArray.ext
  exact Array.toList_inj.1 h

theorem get_mid {α : Type} (X : List α) (c : α) (Y : List α) : (X ++ c :: Y)[X.length]? = some c := by simp

/-- WHAT HOLDS AT THE NEXT NAME. -/
theorem take_facts (ks : Nat → Int) (ts vs : Nat → ByteArray) (n j : Nat) (pat rs : ByteArray) (hko : KindOK ks n n) (hvo : ValOK ks vs n) (hj : j ≤ n) (hk : nm ks j < nm ks n)
    (hp : pat.data.toList = patL ks ts n) (hr : rs.data.toList = (pthL ks ts vs n).drop (pthL ks ts vs j).length) :
    ∃ i L t, j ≤ i ∧ i < n ∧ nm ks i = nm ks j ∧ ¬ ks i = 0 ∧ en ks ts j + L = en ks ts i ∧ L < rs.size ∧ (rs.extract 0 L).toList = (pat.extract (en ks ts j) (en ks ts i)).toList ∧ bt rs L = 47 ∧
      en ks ts i + 2 + (ts i).size ≤ pat.size ∧ L + 1 ≤ t ∧ t ≤ rs.size ∧ rs.extract (L + 1) t = vs (nm ks j) ∧ (rs.extract t rs.size).data.toList = (pthL ks ts vs n).drop (pthL ks ts vs (i + 1)).length ∧
      ((ks i = 2 ∧ bt pat (en ks ts i + 1) = 42 ∧ t = rs.size) ∨ (¬ bt pat (en ks ts i + 1) = 42 ∧ L + 1 < t ∧ (∀ x, L < x → x < t → ¬ bt rs x = 47) ∧ (t < rs.size → bt rs t = 47))) := by
  obtain ⟨i, h1, h2, h3, h4, h5⟩ := next_name ks j n hj hk
  obtain ⟨X, hX1, hX2⟩ := static_stretch ks ts vs j i h1 h5
  obtain ⟨Y, hY1, hY2, hY3⟩ := pth_more ks ts vs (i + 1) n (by omega)
  obtain ⟨V, hV⟩ := pat_more ks ts (i + 1) n (by omega)
  obtain ⟨c, T, hc1, hc2, hc3, hc4⟩ := segP_named ks ts i h4
  have no3 : ∀ x, x < i → ¬ ks x = 3 := fun x hx e => by have := (hko x (by omega)).2.2 (Or.inr e); omega
  have ei := en_pat ks ts i no3
  have ej := en_pat ks ts j (fun x hx => no3 x (by omega))
  have hpi : pthL ks ts vs (i + 1) = pthL ks ts vs j ++ (X ++ 47 :: (vs (nm ks j)).data.toList) := by
    rw [pthL, hX2, segR_named ks ts vs i h4, h3, List.append_assoc]
  have hrs : rs.data.toList = X ++ 47 :: ((vs (nm ks j)).data.toList ++ Y) := by
    rw [hr, hY1, hpi, List.append_assoc, drop_len, List.append_assoc]
    rfl
  have hpat : pat.data.toList = patL ks ts j ++ (X ++ 47 :: c :: ((ts i).data.toList ++ (T ++ V))) := by
    rw [hp, hV, patL, hX1, hc1]
    simp
  have hen : en ks ts j + X.length = en ks ts i := by rw [ei, ej, hX1, List.length_append]
  have hsz : rs.size = X.length + 1 + (vs (nm ks j)).size + Y.length := by
    rw [Lib.size_eq, hrs]; simp; omega
  have hpsz : pat.size = (patL ks ts j).length + X.length + 2 + (ts i).size + (T ++ V).length := by
    rw [Lib.size_eq, hpat]; simp; omega
  have hbL : bt rs X.length = 47 := bt_get rs _ 47 (by rw [hrs]; exact get_mid X 47 _)
  have hbp : bt pat (en ks ts i + 1) = c.toNat := by
    apply bt_get
    rw [hpat, ← List.append_assoc, List.getElem?_append_right (by rw [List.length_append]; omega)]
    rw [List.length_append, show en ks ts i + 1 - ((patL ks ts j).length + X.length) = 1 by omega]
    rfl
  refine ⟨i, X.length, X.length + 1 + (vs (nm ks j)).size, h1, h2, h3, h4, hen, by omega, ?_, hbL, by omega, by omega, by omega, ?_, ?_, ?_⟩
  · rw [Lib.toList_data, Lib.toList_data, Lib.extract_data, Lib.extract_data, hrs, hpat, ej, drop_len]
    rw [show en ks ts i - (patL ks ts j).length = X.length by omega]
    simp
  · apply ba_ext
    rw [Lib.extract_data, hrs, show X.length + 1 + (vs (nm ks j)).size - (X.length + 1) = (vs (nm ks j)).data.toList.length by rw [data_length]; omega]
    rw [show X ++ 47 :: ((vs (nm ks j)).data.toList ++ Y) = (X ++ [47]) ++ ((vs (nm ks j)).data.toList ++ Y) by simp, show X.length + 1 = (X ++ [47]).length by simp, drop_len]
    exact List.take_left
  · rw [Lib.extract_to_end, hrs, hY1, drop_len]
    rw [show X ++ 47 :: ((vs (nm ks j)).data.toList ++ Y) = (X ++ 47 :: (vs (nm ks j)).data.toList) ++ Y by simp, show X.length + 1 + (vs (nm ks j)).size = (X ++ 47 :: (vs (nm ks j)).data.toList).length by simp; omega, drop_len]
  · by_cases hk2 : ks i = 2
    · left
      refine ⟨hk2, by rw [hbp, hc2 hk2]; rfl, ?_⟩
      have := hY2 ((hko i h2).2.2 (Or.inl hk2))
      rw [hsz, this]; simp
    · right
      obtain ⟨v1, v2⟩ := hvo i h2 h4 hk2
      rw [h3] at v1 v2
      have hvne : 0 < (vs (nm ks j)).size := by
        rw [Lib.toList_data] at v1
        rw [Lib.size_eq]
        cases hl : (vs (nm ks j)).data.toList with
        | nil => rw [hl] at v1; simp at v1
        | cons a l => simp
      refine ⟨by rw [hbp, hc3 hk2]; decide, by omega, ?_, ?_⟩
      · intro x hx1 hx2
        obtain ⟨cv, q1, q2⟩ := bt_list (vs (nm ks j)) (x - (X.length + 1)) (by omega)
        have := hasSlB_false _ _ v2 (x - (X.length + 1)) (by omega)
        rw [bt_get rs x cv ?_, q2]
        · exact this
        · rw [hrs, List.getElem?_append_right (by omega), show x - X.length = (x - (X.length + 1)) + 1 by omega, List.getElem?_cons_succ, List.getElem?_append_left (by rw [data_length]; omega)]
          exact q1
      · intro ht
        rcases hY3 with rfl | ⟨l, rfl⟩
        · simp at hsz; omega
        · apply bt_get rs _ 47
          rw [hrs, show X ++ 47 :: ((vs (nm ks j)).data.toList ++ 47 :: l) = (X ++ 47 :: (vs (nm ks j)).data.toList) ++ 47 :: l by simp, show X.length + 1 + (vs (nm ks j)).size = (X ++ 47 :: (vs (nm ks j)).data.toList).length by simp; omega]
          exact get_mid _ 47 l

end Go.Proofs.Qxb6602171a
