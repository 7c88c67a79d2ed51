/-
  The law: cutRawPath leaves a slash suffix within bounds.
-/
import Derived.Test.Qxb6602171aRows
import Derived.WalkKit
import Derived.ProofKit
import Derived.OpenShut
import Derived.ShutString
import Derived.Test.Qxb6602171aCut
namespace Go.Proofs.Qxb6602171a.fnCutRawPathLeavesASlashSuffixWithinBounds
open Go.ChangeShapes Go.WideShapes Go.ChangeAt Go.RowKit
open Go.ChangeMaps (open_string shut_string)
set_option linter.unusedVariables false      -- a walk need not use every 'w<i>' (that an integer argument fits its kind)

theorem own : ownKnob Try.prog.godebug = none := by kernel_rfl

theorem empty_isEmpty : (⟨#[]⟩ : ByteArray).toList.isEmpty = true := by rw [Lib.toList_data]; rfl

theorem nonempty_of_size (g : ByteArray) (h : 0 < g.size) : g.toList.isEmpty = false := by
  rw [Lib.toList_data]
  rw [Lib.size_eq] at h
  cases hl : g.data.toList with
  | nil => rw [hl] at h; simp at h
  | cons a l => rfl

/-- cut at most 0: raw itself where it begins with a slash, else nothing. -/
theorem cut_zero (s : ByteArray) (cut : Int) (h : cut ≤ 0) : cutRaw s cut = if 0 < s.size ∧ bt s 0 = 47 then s else ⟨#[]⟩ := by
  unfold cutRaw
  rw [show cut.toNat = 0 by omega, show adv s 0 0 = 0 from rfl, extract_self]

/-- cut above 0: nothing, or a suffix that begins with a slash, of a length within bounds. -/
theorem cut_pos (s : ByteArray) (cut : Int) (h : 0 < cut) : (cutRaw s cut).toList.isEmpty = true ∨
    (0 < (cutRaw s cut).size ∧ bt (cutRaw s cut) 0 = 47 ∧ (cutRaw s cut).size ≤ s.size ∧ s.extract (s.size - (cutRaw s cut).size) s.size = cutRaw s cut ∧ ((cutRaw s cut).size : Int) ≤ s.size - cut ∧ (s.size : Int) - 3 * cut ≤ (cutRaw s cut).size) := by
  by_cases hc : adv s cut.toNat 0 < s.size ∧ bt s (adv s cut.toNat 0) = 47
  · right
    have e : cutRaw s cut = s.extract (adv s cut.toNat 0) s.size := by unfold cutRaw; rw [if_pos hc]
    have hb := adv_bounds s cut.toNat 0 hc.1
    have hz : (cutRaw s cut).size = s.size - adv s cut.toNat 0 := by rw [e]; simp
    refine ⟨by omega, ?_, by omega, ?_, by omega, by omega⟩
    · rw [e, bt_extract s _ 0 (by omega)]; exact hc.2
    · rw [hz, e]; congr 1; omega
  · left
    have e : cutRaw s cut = ⟨#[]⟩ := by unfold cutRaw; rw [if_neg hc]
    rw [e]; exact empty_isEmpty

/-! ### STEP 1: THE WALK: the Go text returns true. 'Grown w w'': the world has at most new blocks (Derived/RowKit3.lean). Part the cases AHEAD of 'go_enter' where a test parts the walk; take each callee by a contract of your own. -/
theorem walk (a0 : ByteArray) (a1 : Int) (w0 : a0.size ≤ maxLen) (w1 : (Lit.int .i64 a1).wf = true) (w : World) :
    Calls Try.prog 6 #[.string a0, .int .i64 a1] w fun e w' => e = .returned (.bool true) ∧ Grown w w' := by
  have b1 := bounds_i64 w1
  by_cases hs : a0.size ≤ 1048576
  · by_cases h0 : a1 ≤ 0
    · have e := cut_zero a0 a1 h0
      by_cases h1 : 0 < a0.size
      · by_cases h2 : bt a0 0 = 47
        · have H : Hid (cutRaw a0 a1 = a0) := by rw [e, if_pos ⟨h1, h2⟩]; exact (rfl : a0 = a0)
          have h3 : ((a0[0].toNat : Int) == 47) = true := by rw [bt_at a0 0 h1, h2]; rfl
          clear e h2
          go_enter Try.func6, Try.ntmps6
          go_wp2_with (first | (go_at_call 15; refine (zzcut_any _ _ _ hs b1.2 b1.1).mono ?_; rintro e w' ⟨rfl, rfl⟩) | go_in)
          go_ret
          exact ⟨ret_bool (by rw [H.out]; simp), Grown.refl _⟩
        · have H : Hid (cutRaw a0 a1 = ⟨#[]⟩) := by rw [e, if_neg (fun h => h2 h.2)]; exact (rfl : (⟨#[]⟩ : ByteArray) = ⟨#[]⟩)
          have h3 : ((a0[0].toNat : Int) == 47) = false := by rw [bt_at a0 0 h1]; simp; omega
          clear e h2
          go_enter Try.func6, Try.ntmps6
          go_wp2_with (first | (go_at_call 15; refine (zzcut_any _ _ _ hs b1.2 b1.1).mono ?_; rintro e w' ⟨rfl, rfl⟩) | go_in)
          go_ret
          exact ⟨ret_bool (by rw [H.out]; exact empty_isEmpty), Grown.refl _⟩
      · have H : Hid (cutRaw a0 a1 = ⟨#[]⟩) := by rw [e, if_neg (fun h => h1 h.1)]; exact (rfl : (⟨#[]⟩ : ByteArray) = ⟨#[]⟩)
        clear e
        go_enter Try.func6, Try.ntmps6
        go_wp2_with (first | (go_at_call 15; refine (zzcut_any _ _ _ hs b1.2 b1.1).mono ?_; rintro e w' ⟨rfl, rfl⟩) | go_in)
        go_ret
        exact ⟨ret_bool (by rw [H.out]; exact empty_isEmpty), Grown.refl _⟩
    · rcases cut_pos a0 a1 (by omega) with h | ⟨p1, p2, p3, p4, p5, p6⟩
      · go_enter Try.func6, Try.ntmps6
        go_wp2_with (first | (go_at_call 15; refine (zzcut_any _ _ _ hs b1.2 b1.1).mono ?_; rintro e w' ⟨rfl, rfl⟩) | go_in)
        go_ret
        exact ⟨rfl, Grown.refl _⟩
      · have q1 := nonempty_of_size _ p1
        have q2 : ((cutRaw a0 a1)[0].toNat : Int) = 47 := by rw [bt_at _ 0 p1, p2]; rfl
        have q3 : ((a0.extract (a0.size - (cutRaw a0 a1).size) a0.size).toList == (cutRaw a0 a1).toList) = true := by rw [p4]; simp
        clear p4 p2
        go_enter Try.func6, Try.ntmps6
        go_wp2_with (first | (go_at_call 15; refine (zzcut_any _ _ _ hs b1.2 b1.1).mono ?_; rintro e w' ⟨rfl, rfl⟩) | go_in)
        go_ret
        exact ⟨rfl, Grown.refl _⟩
  · go_enter Try.func6, Try.ntmps6
    go_wp2
    go_ret
    exact ⟨rfl, Grown.refl _⟩

/-! ### THE ROW's STEP: WRITTEN OUT: LEAVE IT -/
set_option maxRecDepth 100000 in
theorem lifted (os : Os) (started : os.Started) (H : Type) (enc : TypeId × Value → H) :
    ReturnsInHanded {} Try.checked os 6 .any (Rows.fnCutRawPathLeavesASlashSuffixWithinBoundsSpec.pre6 enc Try.prog Try.f6 Rows.fnCutRawPathLeavesASlashSuffixWithinBoundsRow.domain false) (Rows.fnCutRawPathLeavesASlashSuffixWithinBoundsSpec.post enc Try.prog Try.f6 false true false false) := by
  refine returnsInHanded_of_change (C := Try.checked) own started (by kernel_rfl) Try.func6
    (ChangeSpec.witness6 (enc := enc) (C := Try.checked) false ⟨#[], #[.string ByteArray.empty, .int .i64 0], []⟩ 8 (by kernel_rfl) (by kernel_rfl) (by kernel_rfl) (by kernel_rfl)) ?_
  intro W base args ds gs before hval0 hW hcnd _
  have hval : ∀ (j : Nat) t v, Try.f6.params[j]? = some t → args[j]? = some v → Value.okWide Try.prog W .any base t v := hval0
  have hW' := hW
  obtain ⟨p, q, hA0, hV, rfl, hfz, hnd⟩ := hW
  have hA : DataW.TrodAll enc Try.prog W 0 (fun _ => true) true Try.f6.params.toList args.toList ds p := hA0
  rw [Try.params6] at hA hval
  obtain ⟨v0, vs0, d0, ds0, p0, q0, hargs, rfl, rfl, h0, r0⟩ := trodAll_cons hA
  obtain ⟨v1, vs1, d1, ds1, p1, q1, rfl, rfl, rfl, h1, r1⟩ := trodAll_cons r0
  obtain ⟨rfl, rfl, rfl⟩ := trodAll_nil r1
  obtain rfl : args = #[v0, v1] := by cases args; simp_all
  obtain ⟨rfl, rfl⟩ := trodVars_none hV
  obtain ⟨a0, rfl, rfl, rfl, w0⟩ := open_string Try.underlying9 (hval 0 9 v0 rfl rfl) h0
  obtain ⟨a1, rfl, rfl, rfl, w1⟩ := open_int Try.underlying3 (hval 1 3 v1 rfl rfl) h1
  clear hA0 hval0
  simp only [List.append_nil] at hW'
  refine (walk a0 a1 w0 w1 W).mono fun e W' ⟨he, hg⟩ => ?_
  subst he
  exact ⟨_, rfl, post_of_same (pa := []) (pv := []) hW' (fun _ _ _ => (trodAll_cons_mk (shut_bool Try.underlying4 _) trodAll_mk0)) (fun sp _ => (trodAll_cons_mk (shut_string Try.underlying9 w0) (trodAll_cons_mk (shut_int Try.underlying3 w1) trodAll_mk0))) (fun _ _ => rfl) rfl
    (hg.frame _) hg.2.1 (ok_one (by kernel_rfl) rfl (okWide_bool_mk Try.underlying4 _))⟩

theorem over : Rows.fnCutRawPathLeavesASlashSuffixWithinBoundsRow.holds Try.pinned (OpenSpec.ofChange Rows.fnCutRawPathLeavesASlashSuffixWithinBoundsSpec) :=
  OpenClaim.holds_of_wide 6 Try.f6 rfl rfl rfl rfl rfl rfl rfl ⟨rfl, rfl, rfl, rfl, rfl⟩ rfl rfl rfl rfl rfl (by kernel_rfl) Try.func6 (by kernel_rfl)
    (of_decide_eq_true (by kernel_rfl)) (by unfold Func.isWrapper; first | (rw [if_pos (by decide +kernel)]; kernel_rfl) | (rw [if_neg (by decide +kernel)]; exact ⟨rfl, rfl⟩))
    (fun os started H enc _ => lifted os started H enc)

/-- ████ THE STATEMENT ████ -/
theorem proved : Rows.FnCutRawPathLeavesASlashSuffixWithinBoundsSaid :=
  over
end Go.Proofs.Qxb6602171a.fnCutRawPathLeavesASlashSuffixWithinBounds

theorem Go.Proofs.Qxb6602171a.cut_raw_leaves_holds : Go.Proofs.Qxb6602171a.Rows.FnCutRawPathLeavesASlashSuffixWithinBoundsSaid :=
  Go.Proofs.Qxb6602171a.fnCutRawPathLeavesASlashSuffixWithinBounds.proved
