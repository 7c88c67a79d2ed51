/-
  The law: cutRawPath cuts at the literal slash of the decoded offset.
-/
import Derived.Test.Qxb6602171aRows
import Derived.WalkKit
import Derived.ProofKit
import Derived.OpenShut
import Derived.ShutString
import Derived.Test.Qxb6602171aCut
import Derived.Test.Qxb6602171aOffset
namespace Go.Proofs.Qxb6602171a.fnCutRawPathIsTheSlashAtTheDecodedOffset
open Go.ChangeShapes Go.WideShapes Go.ChangeAt Go.RowKit
open Go.ChangeMaps (open_string shut_string)
set_option linter.unusedVariables false      -- a walk need not use every 'w<i>' (that an integer argument fits its kind)

theorem own : ownKnob Try.prog.godebug = none := by kernel_rfl


set_option maxHeartbeats 400000 in
theorem hex_any (n : Int) (w : World) : Calls Try.prog 14 #[.int .u8 n] w fun e w' => e = .returned (.bool (hexB n)) ∧ w = w' := by
  go_enter Try.func14, Try.ntmps14
  go_wp2
  all_goals
    go_ret
    exact ⟨ret_bool (by unfold hexB; first | (symm; apply decide_eq_true; omega) | (symm; apply decide_eq_false; omega) | (rw [Bool.eq_iff_iff]; simp only [Bool.or_eq_true, decide_eq_true_eq]; omega)), rfl⟩

theorem bt_true (s : ByteArray) (i : Nat) (h : i < s.size) (v : Nat) (e : bt s i = v) : ((s[i].toNat : Int) == (v : Int)) = true := by
  rw [bt_at s i h, e]; simp

theorem bt_false (s : ByteArray) (i : Nat) (h : i < s.size) (v : Nat) (e : ¬ bt s i = v) : ((s[i].toNat : Int) == (v : Int)) = false := by
  rw [bt_at s i h]; simp; omega

theorem eq_true_I {a b : Int} (h : a = b) : (a == b) = true := by simp [h]
theorem eq_false_I {a b : Int} (h : ¬ a = b) : (a == b) = false := by simp [h]

theorem empty_list : (⟨#[]⟩ : ByteArray).toList.isEmpty = true := by rw [Lib.toList_data]; rfl

theorem same_list (a b : ByteArray) (h : a = b) : (a.toList == b.toList) = true := by rw [h]; simp

/-! ### STEP 1: THE WALK: the Go text returns true. 'Grown w w'': the world has at most new blocks (Derived/RowKit3.lean). Part the cases AHEAD of 'go_enter' where a test parts the walk; take each callee by a contract of your own. -/
set_option maxHeartbeats 4000000 in
theorem walk (a0 : ByteArray) (a1 : Int) (w0 : a0.size ≤ maxLen) (w1 : (Lit.int .i64 a1).wf = true) (w : World) :
    Calls Try.prog 5 #[.string a0, .int .i64 a1] w fun e w' => e = .returned (.bool true) ∧ Grown w w' := by
  have b1 := bounds_i64 w1
  by_cases hs : a0.size ≤ 1048576
  · go_enter Try.func5, Try.ntmps5
    go_wp2
    go_loop [5] (fun ii => ∃ k : Nat, k ≤ a0.size ∧ ii = .int .i64 k ∧ GoodTo a0 k) (fun ii => a0.size - (intOf ii).toNat)
    case atStart => exact ⟨0, Nat.zero_le _, rfl, goodTo_zero a0⟩
    case round =>
      obtain ⟨k, hk, rfl, hg⟩ := hrel
      by_cases hlt : k < a0.size
      · by_cases hp : bt a0 k = 37
        · have hp' := bt_true a0 k hlt 37 hp
          by_cases h2 : k + 2 < a0.size
          · by_cases hx1 : hexB (bt a0 (k + 1)) = true
            · have hx1' : hexB (a0[k + 1].toNat : Int) = true := by rw [bt_atI a0 (k + 1) (by omega)]; exact hx1
              by_cases hx2 : hexB (bt a0 (k + 2)) = true
              · have hx2' : hexB (a0[k + 2].toNat : Int) = true := by rw [bt_atI a0 (k + 2) (by omega)]; exact hx2
                have hg' := goodTo_pct a0 k hg h2 hx1 hx2
                clear hp hg hx1 hx2
                go_wp2_with (go_at_call 14; refine (hex_any _ _).mono ?_; rintro e w' ⟨rfl, rfl⟩)
                refine ⟨⟨trivial, ?_⟩, ?_⟩
                · (repeat apply Exists.intro)
                  exact ⟨⟨k + 1, by omega, by go_num, hg'⟩, rfl⟩
                · simp [intOf]; omega
              · have hx2' : hexB (a0[k + 2].toNat : Int) = false := by rw [bt_atI a0 (k + 2) (by omega)]; simpa using hx2
                clear hp hg hx1 hx2
                go_wp2_with (go_at_call 14; refine (hex_any _ _).mono ?_; rintro e w' ⟨rfl, rfl⟩)
                all_goals
                  go_ret
                  exact ⟨rfl, Grown.refl _⟩
            · have hx1' : hexB (a0[k + 1].toNat : Int) = false := by rw [bt_atI a0 (k + 1) (by omega)]; simpa using hx1
              clear hp hg hx1
              go_wp2_with (go_at_call 14; refine (hex_any _ _).mono ?_; rintro e w' ⟨rfl, rfl⟩)
              all_goals
                go_ret
                exact ⟨rfl, Grown.refl _⟩
          · clear hp hg
            go_wp2_with (go_at_call 14; refine (hex_any _ _).mono ?_; rintro e w' ⟨rfl, rfl⟩)
            all_goals
              go_ret
              exact ⟨rfl, Grown.refl _⟩
        · have hp' := bt_false a0 k hlt 37 hp
          have hg' := goodTo_other a0 k hg hp
          clear hp hg
          go_wp2
          go_round
          case rel => exact ⟨k + 1, by omega, by go_num, hg'⟩
          case measure => simp [intOf]; omega
      · have g : GoodTo a0 a0.size := by
          have e : k = a0.size := by omega
          rw [← e]; exact hg
        clear hg
        by_cases hneg : a1 < 0
        · go_wp2_with (go_at_call 15; refine (zzcut_any _ _ _ hs b1.2 b1.1).mono ?_; rintro e w' ⟨rfl, rfl⟩)
          go_loop [8, 9, 10] (fun ww pp jj => ∃ j : Nat, j ≤ a0.size ∧ ww = .string ⟨#[]⟩ ∧ pp = .int .i64 (cnt a0 j) ∧ jj = .int .i64 j ∧ NoHit a0 0 j) (fun _ _ jj => a0.size - (intOf jj).toNat)
          case atStart => exact ⟨0, Nat.zero_le _, rfl, rfl, rfl, noHit_zero a0 0⟩
          case round =>
            obtain ⟨j, hj, rfl, rfl, rfl, hn⟩ := hrel
            have hcl := cnt_le a0 j
            by_cases hjl : j < a0.size
            · by_cases h47 : bt a0 j = 47
              · have h47' := bt_true a0 j hjl 47 h47
                have h37' := bt_false a0 j hjl 37 (by omega)
                by_cases hd : (j : Int) - 2 * (cnt a0 j : Int) = 0
                · have hd' := eq_true_I hd
                  have H : Hid (cutRaw a0 a1 = a0.extract j a0.size) := (cut_hit a0 a1 j hjl h47 (by rw [hit_adv a0 g 0 j hjl h47 hd, show a1.toNat = (0 : Int).toNat by omega])).symm
                  clear hd h47 hn g
                  go_wp2
                  go_ret
                  exact ⟨ret_bool (same_list _ _ H.out), Grown.refl _⟩
                · have hd' := eq_false_I hd
                  have hn' := noHit_off a0 0 j hn hd
                  have hc' : Hid (cnt a0 (j + 1) = cnt a0 j) := cnt_other a0 j (by omega)
                  clear hd h47 hn
                  go_wp2
                  go_round
                  case rel => exact ⟨j + 1, by omega, rfl, by rw [hc'.out], by go_num, hn'⟩
                  case measure => simp [intOf]; omega
              · have h47' := bt_false a0 j hjl 47 h47
                have hn' := noHit_other a0 0 j hn h47
                clear h47 hn
                by_cases h37 : bt a0 j = 37
                · have h37' := bt_true a0 j hjl 37 h37
                  have hc' : Hid (cnt a0 (j + 1) = cnt a0 j + 1) := cnt_pct a0 j h37
                  clear h37
                  go_wp2
                  go_round
                  case rel => exact ⟨j + 1, by omega, rfl, by rw [hc'.out]; go_num, by go_num, hn'⟩
                  case measure => simp [intOf]; omega
                · have h37' := bt_false a0 j hjl 37 h37
                  have hc' : Hid (cnt a0 (j + 1) = cnt a0 j) := cnt_other a0 j h37
                  clear h37
                  go_wp2
                  go_round
                  case rel => exact ⟨j + 1, by omega, rfl, by rw [hc'.out], by go_num, hn'⟩
                  case measure => simp [intOf]; omega
            · have H : Hid (cutRaw a0 a1 = ⟨#[]⟩) := (cut_miss a0 a1 _ (miss_adv a0 g 0 (by omega) (by rw [show a0.size = j by omega]; exact hn)) (by rw [show a1.toNat = (0 : Int).toNat by omega])).symm
              clear hn g
              go_wp2
              go_ret
              exact ⟨ret_bool (by rw [H.out]; exact empty_list), Grown.refl _⟩
        · go_wp2_with (go_at_call 15; refine (zzcut_any _ _ _ hs b1.2 b1.1).mono ?_; rintro e w' ⟨rfl, rfl⟩)
          go_loop [8, 9, 10] (fun ww pp jj => ∃ j : Nat, j ≤ a0.size ∧ ww = .string ⟨#[]⟩ ∧ pp = .int .i64 (cnt a0 j) ∧ jj = .int .i64 j ∧ NoHit a0 a1 j) (fun _ _ jj => a0.size - (intOf jj).toNat)
          case atStart => exact ⟨0, Nat.zero_le _, rfl, rfl, rfl, noHit_zero a0 a1⟩
          case round =>
            obtain ⟨j, hj, rfl, rfl, rfl, hn⟩ := hrel
            have hcl := cnt_le a0 j
            by_cases hjl : j < a0.size
            · by_cases h47 : bt a0 j = 47
              · have h47' := bt_true a0 j hjl 47 h47
                have h37' := bt_false a0 j hjl 37 (by omega)
                by_cases hd : (j : Int) - 2 * (cnt a0 j : Int) = a1
                · have hd' := eq_true_I hd
                  have H : Hid (cutRaw a0 a1 = a0.extract j a0.size) := (cut_hit a0 a1 j hjl h47 (hit_adv a0 g a1 j hjl h47 hd)).symm
                  clear hd h47 hn g
                  go_wp2
                  go_ret
                  exact ⟨ret_bool (same_list _ _ H.out), Grown.refl _⟩
                · have hd' := eq_false_I hd
                  have hn' := noHit_off a0 a1 j hn hd
                  have hc' : Hid (cnt a0 (j + 1) = cnt a0 j) := cnt_other a0 j (by omega)
                  clear hd h47 hn
                  go_wp2
                  go_round
                  case rel => exact ⟨j + 1, by omega, rfl, by rw [hc'.out], by go_num, hn'⟩
                  case measure => simp [intOf]; omega
              · have h47' := bt_false a0 j hjl 47 h47
                have hn' := noHit_other a0 a1 j hn h47
                clear h47 hn
                by_cases h37 : bt a0 j = 37
                · have h37' := bt_true a0 j hjl 37 h37
                  have hc' : Hid (cnt a0 (j + 1) = cnt a0 j + 1) := cnt_pct a0 j h37
                  clear h37
                  go_wp2
                  go_round
                  case rel => exact ⟨j + 1, by omega, rfl, by rw [hc'.out]; go_num, by go_num, hn'⟩
                  case measure => simp [intOf]; omega
                · have h37' := bt_false a0 j hjl 37 h37
                  have hc' : Hid (cnt a0 (j + 1) = cnt a0 j) := cnt_other a0 j h37
                  clear h37
                  go_wp2
                  go_round
                  case rel => exact ⟨j + 1, by omega, rfl, by rw [hc'.out], by go_num, hn'⟩
                  case measure => simp [intOf]; omega
            · have H : Hid (cutRaw a0 a1 = ⟨#[]⟩) := (cut_miss a0 a1 _ (miss_adv a0 g a1 (by omega) (by rw [show a0.size = j by omega]; exact hn)) rfl).symm
              clear hn g
              go_wp2
              go_ret
              exact ⟨ret_bool (by rw [H.out]; exact empty_list), Grown.refl _⟩
  · go_enter Try.func5, Try.ntmps5
    go_wp2
    go_ret
    exact ⟨rfl, Grown.refl _⟩

/-! ### THE ROW's STEP: WRITTEN OUT: LEAVE IT -/
set_option maxRecDepth 100000 in
theorem lifted (os : Os) (started : os.Started) (H : Type) (enc : TypeId × Value → H) :
    ReturnsInHanded {} Try.checked os 5 .any (Rows.fnCutRawPathIsTheSlashAtTheDecodedOffsetSpec.pre6 enc Try.prog Try.f5 Rows.fnCutRawPathIsTheSlashAtTheDecodedOffsetRow.domain false) (Rows.fnCutRawPathIsTheSlashAtTheDecodedOffsetSpec.post enc Try.prog Try.f5 false true false false) := by
  refine returnsInHanded_of_change (C := Try.checked) own started (by kernel_rfl) Try.func5
    (ChangeSpec.witness6 (enc := enc) (C := Try.checked) false ⟨#[], #[.string ByteArray.empty, .int .i64 0], []⟩ 8 (by kernel_rfl) (by kernel_rfl) (by kernel_rfl) (by kernel_rfl)) ?_
  intro W base args ds gs before hval0 hW hcnd _
  have hval : ∀ (j : Nat) t v, Try.f5.params[j]? = some t → args[j]? = some v → Value.okWide Try.prog W .any base t v := hval0
  have hW' := hW
  obtain ⟨p, q, hA0, hV, rfl, hfz, hnd⟩ := hW
  have hA : DataW.TrodAll enc Try.prog W 0 (fun _ => true) true Try.f5.params.toList args.toList ds p := hA0
  rw [Try.params5] at hA hval
  obtain ⟨v0, vs0, d0, ds0, p0, q0, hargs, rfl, rfl, h0, r0⟩ := trodAll_cons hA
  obtain ⟨v1, vs1, d1, ds1, p1, q1, rfl, rfl, rfl, h1, r1⟩ := trodAll_cons r0
  obtain ⟨rfl, rfl, rfl⟩ := trodAll_nil r1
  obtain rfl : args = #[v0, v1] := by cases args; simp_all
  obtain ⟨rfl, rfl⟩ := trodVars_none hV
  obtain ⟨a0, rfl, rfl, rfl, w0⟩ := open_string Try.underlying9 (hval 0 9 v0 rfl rfl) h0
  obtain ⟨a1, rfl, rfl, rfl, w1⟩ := open_int Try.underlying3 (hval 1 3 v1 rfl rfl) h1
  clear hA0 hval0
  simp only [List.append_nil] at hW'
  refine (walk a0 a1 w0 w1 W).mono fun e W' ⟨he, hg⟩ => ?_
  subst he
  exact ⟨_, rfl, post_of_same (pa := []) (pv := []) hW' (fun _ _ _ => (trodAll_cons_mk (shut_bool Try.underlying4 _) trodAll_mk0)) (fun sp _ => (trodAll_cons_mk (shut_string Try.underlying9 w0) (trodAll_cons_mk (shut_int Try.underlying3 w1) trodAll_mk0))) (fun _ _ => rfl) rfl
    (hg.frame _) hg.2.1 (ok_one (by kernel_rfl) rfl (okWide_bool_mk Try.underlying4 _))⟩

theorem over : Rows.fnCutRawPathIsTheSlashAtTheDecodedOffsetRow.holds Try.pinned (OpenSpec.ofChange Rows.fnCutRawPathIsTheSlashAtTheDecodedOffsetSpec) :=
  OpenClaim.holds_of_wide 5 Try.f5 rfl rfl rfl rfl rfl rfl rfl ⟨rfl, rfl, rfl, rfl, rfl⟩ rfl rfl rfl rfl rfl (by kernel_rfl) Try.func5 (by kernel_rfl)
    (of_decide_eq_true (by kernel_rfl)) (by unfold Func.isWrapper; first | (rw [if_pos (by decide +kernel)]; kernel_rfl) | (rw [if_neg (by decide +kernel)]; exact ⟨rfl, rfl⟩))
    (fun os started H enc _ => lifted os started H enc)

/-- ████ THE STATEMENT ████ -/
theorem proved : Rows.FnCutRawPathIsTheSlashAtTheDecodedOffsetSaid :=
  over
end Go.Proofs.Qxb6602171a.fnCutRawPathIsTheSlashAtTheDecodedOffset

theorem Go.Proofs.Qxb6602171a.cut_raw_slash_holds : Go.Proofs.Qxb6602171a.Rows.FnCutRawPathIsTheSlashAtTheDecodedOffsetSaid :=
  Go.Proofs.Qxb6602171a.fnCutRawPathIsTheSlashAtTheDecodedOffset.proved
