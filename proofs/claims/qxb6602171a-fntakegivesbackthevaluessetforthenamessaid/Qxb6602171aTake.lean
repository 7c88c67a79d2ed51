/-
  The walks of hasSlash (10), cutSegment (23), CutPrefix (21), take (18), ZZTake (9).
-/
import Derived.Test.Qxb6602171aCut
import Derived.Deep.QuietTactic
import Derived.BigQuiet
namespace Go.Proofs.Qxb6602171a
open Go.ChangeShapes Go.WideShapes Go.ChangeAt Go.RowKit
open Go.ChangeMaps (open_string shut_string)

/-- Does a slash stand among the first k bytes? -/
def hasSlB (s : ByteArray) : Nat → Bool
  | 0 => false
  | k + 1 => hasSlB s k || (bt s k == 47)

theorem hasSlB_false (s : ByteArray) (k : Nat) (h : hasSlB s k = false) (i : Nat) (hi : i < k) : ¬ bt s i = 47 := by
  induction k with
  | zero => omega
  | succ k ih =>
    rw [hasSlB, Bool.or_eq_false_iff] at h
    by_cases e : i = k
    · subst e; simpa using h.2
    · exact ih h.1 (by omega)

theorem hasSlB_hit (s : ByteArray) (k n : Nat) (hk : k < n) (h : bt s k = 47) : hasSlB s n = true := by
  induction n with
  | zero => omega
  | succ n ih =>
    rw [hasSlB]
    by_cases e : k = n
    · subst e; simp [h]
    · rw [ih (by omega)]; rfl

theorem hasSlB_next (s : ByteArray) (k : Nat) (h : hasSlB s k = false) (h1 : ¬ bt s k = 47) : hasSlB s (k + 1) = false := by
  rw [hasSlB, h]; simpa using h1

set_option maxHeartbeats 400000 in
theorem hasSlash_any (s : ByteArray) (w : World) (hs : s.size ≤ maxLen) :
    Calls Try.prog 10 #[.string s] w fun e w' => e = .returned (.bool (hasSlB s s.size)) ∧ w = w' := by
  unfold maxLen at hs
  go_enter Try.func10, Try.ntmps10
  go_wp2
  go_loop [3] (fun ii => ∃ k : Nat, k ≤ s.size ∧ ii = .int .i64 k ∧ Hid (hasSlB s k = false)) (fun ii => s.size - (intOf ii).toNat)
  case atStart => exact ⟨0, Nat.zero_le _, rfl, rfl⟩
  case round =>
    obtain ⟨k, hk, rfl, hn⟩ := hrel
    by_cases hlt : k < s.size
    · by_cases h47 : bt s k = 47
      · have h47' : ((s[k].toNat : Int) == 47) = true := by rw [bt_at s k hlt, h47]; rfl
        have H : Hid (hasSlB s s.size = true) := hasSlB_hit s k s.size hlt h47
        clear h47
        go_wp2
        go_ret
        exact ⟨ret_bool H.out.symm, rfl⟩
      · have h47' : ((s[k].toNat : Int) == 47) = false := by rw [bt_at s k hlt]; simp; omega
        have H : Hid (hasSlB s (k + 1) = false) := hasSlB_next s k hn.out h47
        clear h47
        go_wp2
        go_round
        case rel => exact ⟨k + 1, by omega, by go_num, H⟩
        case measure => simp [intOf]; omega
    · have H : Hid (hasSlB s s.size = false) := by rw [show s.size = k by omega]; exact hn
      go_wp2
      go_ret
      exact ⟨ret_bool H.out.symm, rfl⟩

set_option maxHeartbeats 400000 in
theorem cutSegment_any (s : ByteArray) (t : Nat) (w : World) (hs : s.size ≤ 1048576) (h1 : 1 ≤ t) (h2 : t ≤ s.size) (h3 : ∀ i, 1 ≤ i → i < t → ¬ bt s i = 47) (h4 : t < s.size → bt s t = 47) :
    Calls Try.prog 23 #[.string s] w fun e w' => e = .returned (.tuple #[.string (s.extract 1 t), .string (s.extract t s.size)]) ∧ Below w.heap.size w w' := by
  have H3 : Hid (∀ i, 1 ≤ i → i < t → ¬ bt s i = 47) := h3
  have H4 : Hid (t < s.size → bt s t = 47) := h4
  clear h3 h4
  go_enter Try.func23, Try.ntmps23
  go_wp2
  go_loop [4] (fun ii => ∃ k : Nat, 1 ≤ k ∧ k ≤ t ∧ ii = .int .i64 k) (fun ii => s.size - (intOf ii).toNat)
  case atStart => exact ⟨1, by omega, by omega, rfl⟩
  case round =>
    obtain ⟨k, hk1, hk, rfl⟩ := hrel
    by_cases hlt : k < t
    · have h47 := H3.out k hk1 hlt
      have h47' : ¬ (s[k].toNat : Int) = 47 := by rw [bt_at s k (by omega)]; omega
      clear h47
      go_wp2
      go_round
      case rel => exact ⟨k + 1, by omega, by omega, by go_num⟩
      case measure => simp [intOf]; omega
    · obtain rfl : k = t := by omega
      by_cases hz : k < s.size
      · have h47' : (s[k].toNat : Int) = 47 := by rw [bt_at s k hz, H4.out hz]; rfl
        go_wp2
        go_quiet (fail)
        go_wp2
        go_ret2
        exact ⟨rfl, below_drewN (Below.refl _ _) _⟩
      · go_wp2
        go_quiet (fail)
        go_wp2
        go_ret2
        exact ⟨rfl, below_drewN (Below.refl _ _) _⟩

set_option maxHeartbeats 400000 in
theorem cutPrefix_hit (s p : ByteArray) (L : Nat) (w : World) (hL : p.size = L) (h1 : L ≤ s.size) (h2 : ((s.extract 0 L).toList == p.toList) = true) :
    Calls Try.prog 21 #[.string s, .string p] w fun e w' => e = .returned (.tuple #[.string (s.extract L s.size), .bool true]) ∧ w = w' := by
  subst hL
  go_enter Try.func21, Try.ntmps21
  go_wp2
  go_ret2
  exact ⟨rfl, rfl⟩

theorem ret3 {a a' b b' : ByteArray} {c c' : Bool} (ha : a = a') (hb : b = b') (hc : c = c') :
    Ending.returned (.tuple #[.string a, .string b, .bool c]) = .returned (.tuple #[.string a', .string b', .bool c']) := by rw [ha, hb, hc]

theorem extract_tail (s : ByteArray) (a i : Nat) : (s.extract a s.size).extract i (s.size - a) = s.extract (a + i) s.size := by
  rw [ByteArray.extract_extract]
  congr 1
  omega

theorem extract_mid (s : ByteArray) (a i j : Nat) (h : a + j ≤ s.size) : (s.extract a s.size).extract i j = s.extract (a + i) (a + j) := by
  rw [ByteArray.extract_extract]
  congr 1
  omega

set_option maxHeartbeats 400000 in
/-- take, the catch-all: the path is the text, a slash and the rest. -/
theorem take_star (st en fr L : Nat) (pat path : ByteArray) (w : World) (hp : pat.size ≤ 1048576) (hq : path.size ≤ 1048576) (hL : Hid (fr + L + 2 = st)) (h2 : st ≤ en) (h3 : en ≤ pat.size)
    (hx : L < path.size) (he : (path.extract 0 L).toList = (pat.extract fr (st - 2)).toList) (hsl : bt path L = 47) (hst : bt pat (st - 1) = 42) :
    Calls Try.prog 18 #[.agg #[.int .u32 st, .int .u32 en], .string pat, .int .u32 fr, .string path] w fun e w' =>
      e = .returned (.tuple #[.string (path.extract (L + 1) path.size), .string ⟨#[]⟩, .bool true]) ∧ Below w.heap.size w w' := by
  have hl1 : fr + L + 2 ≤ st := Nat.le_of_eq hL.out
  have hl2 : st ≤ fr + L + 2 := Nat.le_of_eq hL.out.symm
  have HE : Hid (((path.extract 0 L).toList == (pat.extract fr (st - 2)).toList) = true) := by show _ = true; rw [he]; simp
  have hs := slash_yes path L hx hsl
  have hst' : ((pat[st - 1].toNat : Int) == 42) = true := by rw [bt_at pat (st - 1) (by omega), hst]; rfl
  clear he hsl hst
  go_enter Try.func18, Try.ntmps18
  go_wp2_with fail
  refine (cutPrefix_hit path (pat.extract fr (st - 2)) L _ (by simp; omega) (by omega) HE.out).mono ?_
  rintro e w' ⟨rfl, rfl⟩
  go_wp2_with (go_at_call 22; refine (has_any _ _ (by unfold maxLen; simp; omega)).mono ?_; rintro e w' ⟨rfl, rfl⟩)
  go_ret3
  exact ⟨ret3 (extract_tail path L 1) rfl rfl, (Below.refl _ _).alloc (Nat.le_refl _) _⟩

set_option maxHeartbeats 400000 in
/-- take, a parameter: the path is the text, a slash, the value (not empty, without a slash), and nothing or a slash and more. -/
theorem take_colon (st en fr L t : Nat) (pat path : ByteArray) (w : World) (hp : pat.size ≤ 1048576) (hq : path.size ≤ 1048576) (hL : Hid (fr + L + 2 = st)) (h2 : st ≤ en) (h3 : en ≤ pat.size)
    (hx : L < path.size) (he : (path.extract 0 L).toList = (pat.extract fr (st - 2)).toList) (hsl : bt path L = 47) (hst : ¬ bt pat (st - 1) = 42)
    (ht1 : L + 1 < t) (ht2 : t ≤ path.size) (ht3 : ∀ i, L < i → i < t → ¬ bt path i = 47) (ht4 : t < path.size → bt path t = 47) :
    Calls Try.prog 18 #[.agg #[.int .u32 st, .int .u32 en], .string pat, .int .u32 fr, .string path] w fun e w' =>
      e = .returned (.tuple #[.string (path.extract (L + 1) t), .string (path.extract t path.size), .bool true]) ∧ Below w.heap.size w w' := by
  have hl1 : fr + L + 2 ≤ st := Nat.le_of_eq hL.out
  have hl2 : st ≤ fr + L + 2 := Nat.le_of_eq hL.out.symm
  have HE : Hid (((path.extract 0 L).toList == (pat.extract fr (st - 2)).toList) = true) := by show _ = true; rw [he]; simp
  have hs := slash_yes path L hx hsl
  have hst' : ((pat[st - 1].toNat : Int) == 42) = false := by rw [bt_at pat (st - 1) (by omega)]; simp; omega
  have H3 : Hid (∀ i, 1 ≤ i → i < t - L → ¬ bt (path.extract L path.size) i = 47) := by
    intro i hi1 hi2
    rw [bt_extract path L i (by omega)]
    exact ht3 _ (by omega) (by omega)
  have H4 : Hid (t - L < (path.extract L path.size).size → bt (path.extract L path.size) (t - L) = 47) := by
    intro h
    have h' : t - L < path.size - L := by simpa using h
    rw [bt_extract path L _ (by omega), show L + (t - L) = t by omega]
    exact ht4 (by omega)
  have hne : ((path.extract L path.size).extract 1 (t - L)).toList.isEmpty = false := by
    rw [Lib.toList_data]
    cases hc : ((path.extract L path.size).extract 1 (t - L)).data.toList with
    | nil =>
      have e := Lib.size_eq ((path.extract L path.size).extract 1 (t - L))
      rw [hc] at e
      simp at e
      omega
    | cons a l => rfl
  clear he hsl hst ht3 ht4
  go_enter Try.func18, Try.ntmps18
  go_wp2_with fail
  refine (cutPrefix_hit path (pat.extract fr (st - 2)) L _ (by simp; omega) (by omega) HE.out).mono ?_
  rintro e w' ⟨rfl, rfl⟩
  go_wp2_with (go_at_call 22; refine (has_any _ _ (by unfold maxLen; simp; omega)).mono ?_; rintro e w' ⟨rfl, rfl⟩)
  refine (cutSegment_any (path.extract L path.size) (t - L) _ (by simp; omega) (by omega) (by simp; omega) H3.out H4.out).mono ?_
  rintro e w' ⟨rfl, hb⟩
  go_wp2
  go_ret3
  refine ⟨ret3 ?_ ?_ rfl, ?_⟩
  · rw [extract_mid path L 1 (t - L) (by omega), show L + (t - L) = t by omega]
  · rw [extract_tail path L (t - L), show L + (t - L) = t by omega]
  · exact ((Below.refl _ _).alloc (Nat.le_refl _) _).trans (hb.mono (by simp))

set_option maxHeartbeats 400000 in
theorem zztake_star (st en fr L : Nat) (pat path : ByteArray) (w : World) (hp : pat.size ≤ 1048576) (hq : path.size ≤ 1048576) (hL : Hid (fr + L + 2 = st)) (h2 : st ≤ en) (h3 : en ≤ pat.size)
    (hx : L < path.size) (he : (path.extract 0 L).toList = (pat.extract fr (st - 2)).toList) (hsl : bt path L = 47) (hst : bt pat (st - 1) = 42) :
    Calls Try.prog 9 #[.int .u32 st, .int .u32 en, .string pat, .int .u32 fr, .string path] w fun e w' =>
      e = .returned (.tuple #[.string (path.extract (L + 1) path.size), .string ⟨#[]⟩, .bool true]) ∧ Below w.heap.size w w' := by
  have C := fun w => take_star st en fr L pat path w hp hq hL h2 h3 hx he hsl hst
  have HC : Hid (∀ w, _) := C
  clear C hp hq hL h2 h3 hx he hsl hst
  go_enter Try.func9, Try.ntmps9
  go_wp2_with fail
  refine (HC.out _).mono ?_
  rintro e w' ⟨rfl, hb⟩
  go_wp2
  go_ret3
  exact ⟨rfl, hb⟩

set_option maxHeartbeats 400000 in
theorem zztake_colon (st en fr L t : Nat) (pat path : ByteArray) (w : World) (hp : pat.size ≤ 1048576) (hq : path.size ≤ 1048576) (hL : Hid (fr + L + 2 = st)) (h2 : st ≤ en) (h3 : en ≤ pat.size)
    (hx : L < path.size) (he : (path.extract 0 L).toList = (pat.extract fr (st - 2)).toList) (hsl : bt path L = 47) (hst : ¬ bt pat (st - 1) = 42)
    (ht1 : L + 1 < t) (ht2 : t ≤ path.size) (ht3 : ∀ i, L < i → i < t → ¬ bt path i = 47) (ht4 : t < path.size → bt path t = 47) :
    Calls Try.prog 9 #[.int .u32 st, .int .u32 en, .string pat, .int .u32 fr, .string path] w fun e w' =>
      e = .returned (.tuple #[.string (path.extract (L + 1) t), .string (path.extract t path.size), .bool true]) ∧ Below w.heap.size w w' := by
  have C := fun w => take_colon st en fr L t pat path w hp hq hL h2 h3 hx he hsl hst ht1 ht2 ht3 ht4
  have HC : Hid (∀ w, _) := C
  clear C hp hq hL h2 h3 hx he hsl hst ht1 ht2 ht3 ht4
  go_enter Try.func9, Try.ntmps9
  go_wp2_with fail
  refine (HC.out _).mono ?_
  rintro e w' ⟨rfl, hb⟩
  go_wp2
  go_ret3
  exact ⟨rfl, hb⟩

end Go.Proofs.Qxb6602171a
