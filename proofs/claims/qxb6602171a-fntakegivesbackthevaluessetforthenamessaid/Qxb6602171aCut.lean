/-
  The walks of cutRawPath (20), its shim (15), strings.HasPrefix at a slash (22).
-/
import Derived.Test.Qxb6602171aRows
import Derived.Test.Qxb6602171aPlain
import Derived.WalkKit
import Derived.ProofKit
import Derived.OpenShut
import Derived.ShutString
import Derived.WalkLawsBesides
import Derived.WalkSpells
namespace Go.Proofs.Qxb6602171a
open Go.ChangeShapes Go.WideShapes Go.ChangeAt Go.RowKit
open Go.ChangeMaps (open_string shut_string)

theorem ret_bool {a b : Bool} (h : a = b) : Ending.returned (.bool a) = .returned (.bool b) := by rw [h]
theorem ret_string {a b : ByteArray} (h : a = b) : Ending.returned (.string a) = .returned (.string b) := by rw [h]

theorem beq_true {a b : Nat} (h : ((a : Int) == (b : Int)) = true) : a = b := by
  have := eq_of_beq h; omega
theorem beq_false {a b : Nat} (h : ((a : Int) == (b : Int)) = false) : ¬ a = b := by
  intro e; subst e; simp at h

/-- Does s begin with a slash? -/
def slash (s : ByteArray) : Bool := decide (1 ≤ s.size) && (bt s 0 == 47)

set_option maxHeartbeats 400000 in
theorem has_any (s : ByteArray) (w : World) (hs : s.size ≤ maxLen) :
    Calls Try.prog 22 #[.string s, .string ⟨#[47]⟩] w fun e w' => e = .returned (.bool (slash s)) ∧ w' = w := by
  unfold maxLen at hs
  by_cases h0 : 1 ≤ s.size
  · go_enter Try.func22, Try.ntmps22
    go_wp2
    go_ret
    exact ⟨ret_bool (by rw [extract_one s h0]; simp [slash, h0]), rfl⟩
  · go_enter Try.func22, Try.ntmps22
    go_wp2
    go_ret
    exact ⟨ret_bool (by simp [slash, h0]), rfl⟩

/-- What cutRawPath answers. -/
def cutRaw (s : ByteArray) (cut : Int) : ByteArray :=
  if adv s cut.toNat 0 < s.size ∧ bt s (adv s cut.toNat 0) = 47 then s.extract (adv s cut.toNat 0) s.size else ⟨#[]⟩

theorem slash_yes (s : ByteArray) (k : Nat) (h : k < s.size) (hb : bt s k = 47) : slash (s.extract k s.size) = true := by
  have e := bt_extract s k 0 (by omega)
  have : 1 ≤ (s.extract k s.size).size := by simp; omega
  unfold slash
  rw [e]
  simp [hb]
  omega

theorem slash_no (s : ByteArray) (k : Nat) (h : k < s.size → ¬ bt s k = 47) : slash (s.extract k s.size) = false := by
  unfold slash
  by_cases hk : k < s.size
  · rw [bt_extract s k 0 (by omega)]
    have := h hk
    simp [this]
  · have : decide (1 ≤ (s.extract k s.size).size) = false := by simp; omega
    rw [this]
    rfl

theorem slash_end (s : ByteArray) : slash (s.extract s.size s.size) = false := slash_no s s.size (fun h => absurd h (Nat.lt_irrefl _))

theorem cut_hit (s : ByteArray) (cut : Int) (k : Nat) (hk : k < s.size) (h : bt s k = 47) (e : k = adv s cut.toNat 0) : s.extract k s.size = cutRaw s cut := by
  unfold cutRaw
  subst e
  rw [if_pos ⟨hk, h⟩]

theorem cut_miss (s : ByteArray) (cut : Int) (k : Nat) (h : k < s.size → ¬ bt s k = 47) (e : k = adv s cut.toNat 0) : (⟨#[]⟩ : ByteArray) = cutRaw s cut := by
  unfold cutRaw
  subst e
  rw [if_neg (fun ⟨a, b⟩ => h a b)]

set_option maxHeartbeats 400000 in
theorem cut_any (s : ByteArray) (cut : Int) (w : World) (hs : s.size ≤ 1048576) (hc : cut ≤ 9223372036854775807) (hc' : -9223372036854775808 ≤ cut) :
    Calls Try.prog 20 #[.string s, .int .i64 cut] w fun e w' => e = .returned (.string (cutRaw s cut)) ∧ w' = w := by
  go_enter Try.func20, Try.ntmps20
  go_wp2
  go_loop [1, 5] (fun cc ii => ∃ (c : Int) (k : Nat), k ≤ s.size + 3 ∧ c ≤ cut ∧ -9223372036854775808 ≤ c ∧ cc = .int .i64 c ∧ ii = .int .i64 k ∧ adv s c.toNat k = adv s cut.toNat 0) (fun cc _ => (intOf cc).toNat)
  case atStart => exact ⟨cut, 0, by omega, by omega, hc', rfl, rfl, rfl⟩
  case round =>
    obtain ⟨c, k, hk, hcc, hlo, rfl, rfl, hadv⟩ := hrel
    have HA : Hid (adv s c.toNat k = adv s cut.toNat 0) := hadv
    clear hadv
    by_cases h1 : 0 < c ∧ k < s.size
    · obtain ⟨h1, h2⟩ := h1
      have hcn : Hid (c.toNat = (c - 1).toNat + 1) := (by show _ = _; omega)
      go_wp2
      · have hp := beq_true (show ((s[k].toNat : Int) == ((37 : Nat) : Int)) = true by assumption)
        go_round
        case rel => exact ⟨c - 1, k + 3, by omega, by omega, by omega, rfl, by go_num, by rw [← HA.out, hcn.out, adv_pct s _ k h2 (by rw [← bt_at s k h2]; exact hp)]⟩
        case measure => simp [intOf]; omega
      · have hp := beq_false (show ((s[k].toNat : Int) == ((37 : Nat) : Int)) = false by assumption)
        go_round
        case rel => exact ⟨c - 1, k + 1, by omega, by omega, by omega, rfl, by go_num, by rw [← HA.out, hcn.out, adv_one s _ k h2 (by rw [← bt_at s k h2]; exact hp)]⟩
        case measure => simp [intOf]; omega
    · have HK : Hid (k = adv s cut.toNat 0) := (by
        show k = _
        rw [← HA.out]
        by_cases hz : 0 < c
        · rw [adv_out s _ k (by omega)]
        · rw [show c.toNat = 0 by omega]; rfl)
      by_cases h3 : k < s.size
      · by_cases h4 : bt s k = 47
        · have hy := slash_yes s k h3 h4
          go_wp2_with (go_at_call 22; refine (has_any _ _ (by unfold maxLen; first | (simp; done) | (simp; omega))).mono ?_; rintro e w' ⟨rfl, rfl⟩)
          go_ret
          exact ⟨ret_string (cut_hit s cut k h3 h4 HK.out), rfl⟩
        · have hn := slash_no s k (fun _ => h4)
          go_wp2_with (go_at_call 22; refine (has_any _ _ (by unfold maxLen; first | (simp; done) | (simp; omega))).mono ?_; rintro e w' ⟨rfl, rfl⟩)
          go_ret
          exact ⟨ret_string (cut_miss s cut k (fun _ => h4) HK.out), rfl⟩
      · by_cases h5 : s.size < k
        · have hn := slash_end s
          have hn' : slash ByteArray.empty = false := by rfl
          go_wp2_with (go_at_call 22; refine (has_any _ _ (by unfold maxLen; first | (simp; done) | (simp; omega))).mono ?_; rintro e w' ⟨rfl, rfl⟩)
          all_goals
            go_ret
            exact ⟨ret_string (cut_miss s cut k (fun h => absurd h h3) HK.out), rfl⟩
        · have hn := slash_no s k (fun h => absurd h h3)
          go_wp2_with (go_at_call 22; refine (has_any _ _ (by unfold maxLen; first | (simp; done) | (simp; omega))).mono ?_; rintro e w' ⟨rfl, rfl⟩)
          all_goals
            go_ret
            exact ⟨ret_string (cut_miss s cut k (fun h => absurd h h3) HK.out), rfl⟩

set_option maxHeartbeats 400000 in
theorem zzcut_any (s : ByteArray) (cut : Int) (w : World) (hs : s.size ≤ 1048576) (hc : cut ≤ 9223372036854775807) (hc' : -9223372036854775808 ≤ cut) :
    Calls Try.prog 15 #[.string s, .int .i64 cut] w fun e w' => e = .returned (.string (cutRaw s cut)) ∧ w' = w := by
  go_enter Try.func15, Try.ntmps15
  go_wp2_with (go_at_call 20; refine (cut_any _ _ _ hs hc hc').mono ?_; rintro e w' ⟨rfl, rfl⟩)
  go_ret
  exact ⟨rfl, rfl⟩
end Go.Proofs.Qxb6602171a
