/-
  The law on kinded hashes: the row.
-/
import Derived.Test.Qxb6602255aTrip
import Derived.ChangeOld
import Derived.Below
import Derived.Carry
import Derived.Lib.SmallJoins
namespace Go.Proofs.Qxb6602255a.fnKindedHash
open Go.ChangeShapes Go.WideShapes Go.ChangeAt Go.RowKit
set_option linter.unusedVariables false

theorem own : ownKnob Try.prog.godebug = none := by kernel_rfl
theorem laidOut : laidOutB Try.prog = true := by kernel_rfl
theorem cells31 : Try.prog.cellsOf 31 = 32 := by kernel_rfl
theorem cells5 : Try.prog.cellsOf 5 = 1 := by kernel_rfl

/-- A byte out of a number that fits. -/
def toB (z : Int) : UInt8 := UInt8.ofNat z.toNat
theorem toB_by1 (z : Int) (h : 0 ≤ z ∧ z ≤ 255) : by1 (toB z) = .int .u8 z := by
  unfold by1 toB
  have : (UInt8.ofNat z.toNat).toNat = z.toNat := by
    rw [UInt8.toNat_ofNat']
    exact Nat.mod_eq_of_lt (by omega)
  rw [this, Int.toNat_of_nonneg h.1]

section
variable {H : Type} {enc : TypeId × Value → H} {W : World}

theorem bytes_in {fuel : Nat} {a : Option Addr} {len cap : Nat} {x : DataW H × List MemPlace} (h : DataW.trod enc Try.prog W 0 (fun _ => true) true fuel 30 [.slice a len cap] = some x) :
    len ≤ maxLen ∧ ∃ xs : List UInt8, BytesIn W a len cap xs := by
  rcases open_ints Try.underlying30 Try.underlying5 (by kernel_rfl) h with ⟨hcs, _⟩ | ⟨ad, l, c, zs, hcs, _, hl, hm, hz, _, hcell, hwz⟩
  · cases hcs
    exact ⟨Nat.zero_le _, [], rfl, fun _ => ⟨rfl, rfl⟩, fun i hi => absurd hi (Nat.not_lt_zero i)⟩
  · cases hcs
    have hzc : zs.length = cap := by rw [hz]; rfl
    refine ⟨by omega, (zs.take len).map toB, by simp; omega, (by intro e; cases e), ?_⟩
    intro i hi
    have h0 := hcell i (by omega)
    obtain ⟨b, off, spot⟩ := ad
    have hspot : spot = none := by simpa [Addr.add] using World.cell?_spot (hcell 0 (by omega))
    subst hspot
    have hadd : ∀ j, (⟨b, off, none⟩ : Addr).add j = ⟨b, off + j, none⟩ := by intro j; unfold Addr.add; split <;> simp_all
    rw [hadd] at h0
    refine ⟨b, off, rfl, ?_⟩
    have hlt : i < zs.length := by omega
    have e1 : zs.getD i 0 = zs[i] := by simp [List.getD, List.getElem?_eq_getElem hlt]
    have e2 : ((zs.take len).map toB).getD i 0 = toB zs[i] := by
      simp [List.getD, List.getElem?_take_of_lt hi, List.getElem?_eq_getElem hlt]
    rw [h0, e1, e2, toB_by1 _ (bounds_u8 (hwz _ (List.getElem_mem hlt)))]

theorem okWide_arr {r : Reach} {b0 : Nat} {v : Value} (h : Value.okWide Try.prog W r b0 31 v) : ∃ cs, v = .agg cs ∧ cs.size = Try.prog.cellsOf 31 := by
  simp only [Value.okWide, Try.underlying31] at h
  obtain ⟨cs, h1, h2, _⟩ := h
  exact ⟨cs, h1, h2⟩

/-- An array of thirty-two bytes that can be read. -/
theorem arr_in {r : Reach} {b0 : Nat} {v : Value} {d : DataW H} {ps : List MemPlace} (hv : Value.okWide Try.prog W r b0 31 v) (h : DataW.Trod enc Try.prog W 0 (fun _ => true) true 31 v d ps) :
    ∃ hs : List UInt8, hs.length = 32 ∧ v = .agg (hArr hs) := by
  obtain ⟨cs, rfl, hsz⟩ := okWide_arr hv
  rw [cells31] at hsz
  obtain ⟨fuel, hf⟩ := h
  obtain ⟨xs, m, _, _, _, hxl, hx⟩ := DataW.trod_array Try.underlying31 hf
  have each : ∀ k, k < 32 → ∃ z : Int, cs[k]? = some (.int .u8 z) ∧ 0 ≤ z ∧ z ≤ 255 := by
    intro k hk
    have e := hx k hk
    rw [cells5, List.getElem?_eq_getElem (by omega)] at e
    obtain ⟨z, ez, _, wz⟩ := DataW.trod_int Try.underlying5 e
    refine ⟨z, ?_, bounds_u8 wz⟩
    have : (((Value.agg cs).cells.toList.drop (k * 1)).take 1)[0]? = some (.int .u8 z) := by rw [ez]; rfl
    rw [List.getElem?_take_of_lt (by omega), List.getElem?_drop] at this
    simpa [Value.cells] using this
  refine ⟨cs.toList.map (fun v => toB (intOf v)), by simp [hsz], ?_⟩
  congr 1
  apply Array.ext_getElem?
  intro i
  by_cases hi : i < 32
  · obtain ⟨z, hz, hb⟩ := each i hi
    rw [hz, hArr, List.getElem?_toArray, cl, List.getElem?_map, List.getElem?_map, Array.getElem?_toList, hz]
    simp only [Option.map_some, intOf]
    rw [toB_by1 z hb]
  · rw [Array.getElem?_eq_none (by omega), Array.getElem?_eq_none (by rw [hArr_size]; simp [hsz]; omega)]
end

set_option maxRecDepth 100000 in
theorem lifted (os : Os) (started : os.Started) (H : Type) (enc : TypeId × Value → H) :
    ReturnsInHanded {} Try.checked os 5 .any (Rows.fnKindedHashRoundTripSpec.pre6 enc Try.prog Try.f5 Rows.fnKindedHashRoundTripRow.domain false) (Rows.fnKindedHashRoundTripSpec.post enc Try.prog Try.f5 false true false false) := by
  refine returnsInHanded_of_change (C := Try.checked) own started (by kernel_rfl) Try.func5
    (ChangeSpec.witness6 (enc := enc) (C := Try.checked) false ⟨#[], #[.slice none 0 0, .bool false, .agg (Array.replicate 32 (.int .u8 0)), .bool false, .agg (Array.replicate 32 (.int .u8 0))], []⟩ 8 (by kernel_rfl) (by kernel_rfl) (by kernel_rfl) (by kernel_rfl)) ?_
  intro W base args ds gs before hval0 hW hcnd _
  have hval : ∀ (j : Nat) t v, Try.f5.params[j]? = some t → args[j]? = some v → Value.okWide Try.prog W .any base t v := hval0
  have hW' := hW
  obtain ⟨p, q, hA0, hV, rfl, hfz, hnd⟩ := hW
  have hA : DataW.TrodAll enc Try.prog W 0 (fun _ => true) true Try.f5.params.toList args.toList ds p := hA0
  rw [Try.params5] at hA hval
  obtain ⟨v0, vs0, d0, ds0, p0, q0, hargs, rfl, rfl, h0, r0⟩ := trodAll_cons hA
  obtain ⟨v1, vs1, d1, ds1, p1, q1, rfl, rfl, rfl, h1, r1⟩ := trodAll_cons r0
  obtain ⟨v2, vs2, d2, ds2, p2, q2, rfl, rfl, rfl, h2, r2⟩ := trodAll_cons r1
  obtain ⟨v3, vs3, d3, ds3, p3, q3, rfl, rfl, rfl, h3, r3⟩ := trodAll_cons r2
  obtain ⟨v4, vs4, d4, ds4, p4, q4, rfl, rfl, rfl, h4, r4⟩ := trodAll_cons r3
  obtain ⟨rfl, rfl, rfl⟩ := trodAll_nil r4
  obtain rfl : args = #[v0, v1, v2, v3, v4] := by cases args; simp_all
  obtain ⟨rfl, rfl⟩ := trodVars_none hV
  obtain ⟨a0, len0, cap0, rfl⟩ := okWide_slice Try.underlying30 (hval 0 30 v0 rfl rfl)
  have k0 := h0
  have k2 := h2
  have k4 := h4
  have lt0 : ∀ x ∈ p0, x.block < W.heap.size := by obtain ⟨m, hm⟩ := k0; exact DataW.trod_lt m _ _ _ hm
  have lt2 : ∀ x ∈ p2, x.block < W.heap.size := by obtain ⟨m, hm⟩ := k2; exact DataW.trod_lt m _ _ _ hm
  have lt4 : ∀ x ∈ p4, x.block < W.heap.size := by obtain ⟨m, hm⟩ := k4; exact DataW.trod_lt m _ _ _ hm
  obtain ⟨l0, xs, w0⟩ : len0 ≤ maxLen ∧ ∃ xs, BytesIn W a0 len0 cap0 xs := by
    obtain ⟨fuel, hf⟩ := h0
    exact bytes_in hf
  obtain ⟨b1, rfl, rfl, rfl⟩ := open_bool Try.underlying4 (hval 1 4 v1 rfl rfl) h1
  obtain ⟨b3, rfl, rfl, rfl⟩ := open_bool Try.underlying4 (hval 3 4 v3 rfl rfl) h3
  obtain ⟨hs, e2, rfl⟩ := arr_in (hval 2 31 v2 rfl rfl) h2
  obtain ⟨ks, e4, rfl⟩ := arr_in (hval 4 31 v4 rfl rfl) h4
  clear hA0 hval0
  refine (trip_walk a0 len0 cap0 b1 b3 xs hs ks W w0 l0 e2 e4).mono fun e W' ⟨he, bel⟩ => ?_
  subst he
  exact ⟨_, rfl, _, _, _, [], _, [], hW', trodAll_mk1 (shut_bool Try.underlying4 _), (trodAll_cons_mk (Below.trod laidOut (by kernel_rfl) (of_decide_eq_true (by kernel_rfl)) k0 bel lt0) (trodAll_cons_mk (shut_bool Try.underlying4 _) (trodAll_cons_mk (Below.trod laidOut (by kernel_rfl) (of_decide_eq_true (by kernel_rfl)) k2 bel lt2) (trodAll_cons_mk (shut_bool Try.underlying4 _) (trodAll_cons_mk (Below.trod laidOut (by kernel_rfl) (of_decide_eq_true (by kernel_rfl)) k4 bel lt4) trodAll_mk0))))), rfl, bel.frame _, fun h => by cases h⟩

theorem over : Rows.fnKindedHashRoundTripRow.holds Try.pinned (OpenSpec.ofChange Rows.fnKindedHashRoundTripSpec) :=
  OpenClaim.holds_of_wide 5 Try.f5 rfl rfl rfl rfl rfl rfl rfl ⟨rfl, rfl, rfl, rfl, rfl⟩ rfl rfl rfl rfl rfl (by kernel_rfl) Try.func5 (by kernel_rfl)
    (of_decide_eq_true (by kernel_rfl)) (by unfold Func.isWrapper; first | (rw [if_pos (by decide +kernel)]; kernel_rfl) | (rw [if_neg (by decide +kernel)]; exact ⟨rfl, rfl⟩))
    (fun os started H enc _ => lifted os started H enc)

end Go.Proofs.Qxb6602255a.fnKindedHash

theorem Go.Proofs.Qxb6602255a.kinded_hash_holds : Go.Proofs.Qxb6602255a.Rows.FnKindedHashRoundTripSaid :=
  Go.Proofs.Qxb6602255a.fnKindedHash.over
