/-
  The law on take: the row.
-/
import Derived.Test.Qxb6602171aLawA
import Derived.ChangeOld
import Derived.Below
import Derived.Carry
import Derived.SliceStrings
import Derived.Deep.SlicePairs
namespace Go.Proofs.Qxb6602171a.fnTake
open Go.ChangeShapes Go.WideShapes Go.ChangeAt Go.RowKit
set_option linter.unusedVariables false

theorem own : ownKnob Try.prog.godebug = none := by kernel_rfl
theorem laidOut : laidOutB Try.prog = true := by kernel_rfl

section
variable {H : Type} {enc : TypeId × Value → H} {W : World}

/-- What a slice of segments that can be read holds. -/
theorem seg_in {fuel : Nat} {a : Option Addr} {len cap : Nat} {x : DataW H × List MemPlace} (h : DataW.trod enc Try.prog W 0 (fun _ => true) true fuel 28 [.slice a len cap] = some x) :
    len ≤ maxLen ∧ ∃ (ks : Nat → Int) (ts : Nat → ByteArray), SegIn W a len ks ts := by
  rcases Deep.open_slice_pairs Try.underlying28 Try.underlying32 (by kernel_rfl) rfl rfl (by kernel_rfl) (by kernel_rfl) h with ⟨hcs, _⟩ | ⟨ad, l, c, m, n, V0, V1, D0, D1, P0, P1, hcs, _, hl, hm, hmm, _, hx⟩
  · cases hcs
    exact ⟨Nat.zero_le _, fun _ => 0, fun _ => ByteArray.empty, fun i hi => absurd hi (Nat.not_lt_zero i)⟩
  · cases hcs
    have hmc : m = cap := by rw [hmm]; rfl
    refine ⟨by omega, fun i => intOf (V0 i), fun i => (match V1 i with | .string s => s | _ => ByteArray.empty), ?_⟩
    intro i hi
    obtain ⟨h0, h1, r0, r1⟩ := hx i (by omega)
    obtain ⟨k, e0, _, wk⟩ := DataW.trod_int Try.underlying5 r0
    obtain ⟨s, e1, _, ws⟩ := DataW.trod_string Try.underlying9 r1
    simp at e0 e1
    obtain ⟨b, off, spot⟩ := ad
    have hspot : spot = none := by simpa [Addr.add] using World.cell?_spot (hx 0 (by omega)).1
    subst hspot
    have hadd : ∀ j, (⟨b, off, none⟩ : Addr).add j = ⟨b, off + j, none⟩ := by intro j; unfold Addr.add; split <;> simp_all
    rw [hadd, e0] at h0
    rw [hadd, e1] at h1
    have hb := bounds_u8 wk
    simp only [e0, e1, intOf]
    exact ⟨b, off, rfl, h0, h1, hb.1, hb.2, ws⟩

/-- What a slice of strings that can be read holds. -/
theorem str_in {fuel : Nat} {a : Option Addr} {len cap : Nat} {x : DataW H × List MemPlace} (h : DataW.trod enc Try.prog W 0 (fun _ => true) true fuel 29 [.slice a len cap] = some x) :
    len ≤ maxLen ∧ ∃ vs : Nat → ByteArray, StrIn W a len vs := by
  rcases open_strings Try.underlying29 Try.underlying9 (by kernel_rfl) h with ⟨hcs, _⟩ | ⟨ad, l, c, ss, hcs, _, hl, hm, hz, _, hcell, hws⟩
  · cases hcs
    exact ⟨Nat.zero_le _, fun _ => ByteArray.empty, fun i hi => absurd hi (Nat.not_lt_zero i)⟩
  · cases hcs
    have hzc : ss.length = cap := by rw [hz]; rfl
    refine ⟨by omega, fun i => ss.getD i ByteArray.empty, ?_⟩
    intro i hi
    have h0 := hcell i (by omega)
    obtain ⟨b, off, spot⟩ := ad
    have hspot : spot = none := by simpa [Addr.add] using World.cell?_spot (hcell 0 (by omega))
    subst hspot
    have hadd : ∀ j, (⟨b, off, none⟩ : Addr).add j = ⟨b, off + j, none⟩ := by intro j; unfold Addr.add; split <;> simp_all
    rw [hadd] at h0
    refine ⟨b, off, rfl, h0, ?_⟩
    have hlt : i < ss.length := by omega
    have e : ss.getD i ByteArray.empty = ss[i] := by simp [List.getD, List.getElem?_eq_getElem hlt]
    show (ss.getD i ByteArray.empty).size ≤ maxLen
    rw [e]
    exact hws _ (List.getElem_mem hlt)
end

set_option maxRecDepth 100000 in
theorem lifted (os : Os) (started : os.Started) (H : Type) (enc : TypeId × Value → H) :
    ReturnsInHanded {} Try.checked os 4 .any (Rows.fnTakeGivesBackTheValuesSetForTheNamesSpec.pre6 enc Try.prog Try.f4 Rows.fnTakeGivesBackTheValuesSetForTheNamesRow.domain false) (Rows.fnTakeGivesBackTheValuesSetForTheNamesSpec.post enc Try.prog Try.f4 false true false false) := by
  refine returnsInHanded_of_change (C := Try.checked) own started (by kernel_rfl) Try.func4
    (ChangeSpec.witness6 (enc := enc) (C := Try.checked) false ⟨#[], #[.slice none 0 0, .slice none 0 0], []⟩ 8 (by kernel_rfl) (by kernel_rfl) (by kernel_rfl) (by kernel_rfl)) ?_
  intro W base args ds gs before hval0 hW hcnd _
  have hval : ∀ (j : Nat) t v, Try.f4.params[j]? = some t → args[j]? = some v → Value.okWide Try.prog W .any base t v := hval0
  have hW' := hW
  obtain ⟨p, q, hA0, hV, rfl, hfz, hnd⟩ := hW
  have hA : DataW.TrodAll enc Try.prog W 0 (fun _ => true) true Try.f4.params.toList args.toList ds p := hA0
  rw [Try.params4] at hA hval
  obtain ⟨v0, vs0, d0, ds0, p0, q0, hargs, rfl, rfl, h0, r0⟩ := trodAll_cons hA
  obtain ⟨v1, vs1, d1, ds1, p1, q1, rfl, rfl, rfl, h1, r1⟩ := trodAll_cons r0
  obtain ⟨rfl, rfl, rfl⟩ := trodAll_nil r1
  obtain rfl : args = #[v0, v1] := by cases args; simp_all
  obtain ⟨rfl, rfl⟩ := trodVars_none hV
  obtain ⟨a0, len0, cap0, rfl⟩ := okWide_slice Try.underlying28 (hval 0 28 v0 rfl rfl)
  obtain ⟨a1, len1, cap1, rfl⟩ := okWide_slice Try.underlying29 (hval 1 29 v1 rfl rfl)
  have k0 := h0
  have k1 := h1
  have lt0 : ∀ x ∈ p0, x.block < W.heap.size := by obtain ⟨m, hm⟩ := k0; exact DataW.trod_lt m _ _ _ hm
  have lt1 : ∀ x ∈ p1, x.block < W.heap.size := by obtain ⟨m, hm⟩ := k1; exact DataW.trod_lt m _ _ _ hm
  obtain ⟨l0, ks, ts, w0⟩ : len0 ≤ maxLen ∧ ∃ ks ts, SegIn W a0 len0 ks ts := by
    obtain ⟨fuel, hf⟩ := h0
    exact seg_in hf
  obtain ⟨l1, vs, w1⟩ : len1 ≤ maxLen ∧ ∃ vs, StrIn W a1 len1 vs := by
    obtain ⟨fuel, hf⟩ := h1
    exact str_in hf
  clear hA0 hval0
  refine (law_walk a0 a1 len0 cap0 len1 cap1 ks ts vs W w0 w1 l0 l1).mono fun e W' ⟨he, bel⟩ => ?_
  subst he
  exact ⟨_, rfl, _, _, _, [], _, [], hW', trodAll_mk1 (shut_bool Try.underlying4 _), (trodAll_cons_mk (Below.trod laidOut (by kernel_rfl) (of_decide_eq_true (by kernel_rfl)) k0 bel lt0) (trodAll_cons_mk (Below.trod laidOut (by kernel_rfl) (of_decide_eq_true (by kernel_rfl)) k1 bel lt1) trodAll_mk0)), rfl, bel.frame _, fun h => by cases h⟩

theorem over : Rows.fnTakeGivesBackTheValuesSetForTheNamesRow.holds Try.pinned (OpenSpec.ofChange Rows.fnTakeGivesBackTheValuesSetForTheNamesSpec) :=
  OpenClaim.holds_of_wide 4 Try.f4 rfl rfl rfl rfl rfl rfl rfl ⟨rfl, rfl, rfl, rfl, rfl⟩ rfl rfl rfl rfl rfl (by kernel_rfl) Try.func4 (by kernel_rfl)
    (of_decide_eq_true (by kernel_rfl)) (by unfold Func.isWrapper; first | (rw [if_pos (by decide +kernel)]; kernel_rfl) | (rw [if_neg (by decide +kernel)]; exact ⟨rfl, rfl⟩))
    (fun os started H enc _ => lifted os started H enc)

end Go.Proofs.Qxb6602171a.fnTake

theorem Go.Proofs.Qxb6602171a.take_gives_back_holds : Go.Proofs.Qxb6602171a.Rows.FnTakeGivesBackTheValuesSetForTheNamesSaid :=
  Go.Proofs.Qxb6602171a.fnTake.over
