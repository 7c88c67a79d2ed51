/-
  The law: widthCode answers the first width that holds n.
-/
import Derived.Test.Qxb6602255aWidth
import Derived.ChangeOld
import Derived.Below
import Derived.Carry
namespace Go.Proofs.Qxb6602255a.fnWidthCodeExact
open Go.ChangeShapes Go.WideShapes Go.ChangeAt Go.RowKit
set_option linter.unusedVariables false

theorem own : ownKnob Try.prog.godebug = none := by kernel_rfl
theorem laidOut : laidOutB Try.prog = true := by kernel_rfl
theorem cells57 : Try.prog.cellsOf 57 = 4 := by kernel_rfl
theorem cells3 : Try.prog.cellsOf 3 = 1 := by kernel_rfl

set_option maxHeartbeats 2000000 in
theorem walk_nil (N : Nat) (w : World) : Calls Try.prog 3 #[.pointer none, .int .u64 N] w fun e w' => e = .returned (.bool true) ∧ Below w.heap.size w w' := by
  go_enter Try.func3, Try.ntmps3
  go_wp2
  go_ret
  exact ⟨rfl, Below.refl _ _⟩

set_option maxHeartbeats 4000000 in
theorem walk (b off : Nat) (f : Nat → Int) (N : Nat) (w : World) (hw : Wid w b off f) (hf : ∀ k, k < 4 → -9223372036854775808 ≤ f k ∧ f k ≤ 9223372036854775807) (hN : N < 18446744073709551616) :
    Calls Try.prog 3 #[.pointer (some ⟨b, off, none⟩), .int .u64 N] w fun e w' => e = .returned (.bool true) ∧ Below w.heap.size w w' := by
  have HW : Hid (Wid w b off f) := hw
  have HF : Hid (∀ k, k < 4 → -9223372036854775808 ≤ f k ∧ f k ≤ 9223372036854775807) := hf
  clear hw hf
  have hsl := sg_le 8 N
  go_enter Try.func3, Try.ntmps3
  go_wp2_with fail
  refine (domain_any b off f w HW.out HF.out).mono ?_
  rintro e w' ⟨hd, rfl⟩
  rcases hd with ⟨rfl, hd⟩ | rfl
  · have HD : Hid (Dom f 4) := hd
    clear hd HF
    go_wp2_with (go_at_call 7; refine (sigB_any N _ hN).mono ?_; rintro e w' ⟨rfl, rfl⟩)
    go_loop [6, 7, 8] (fun cc oo ii => ∃ k : Nat, k ≤ 4 ∧ ii = .int .i64 k ∧ cc = .int .u8 0 ∧ oo = .bool false ∧ Hid (NoneB (holdsB f N) k)) (fun _ _ ii => 4 - (intOf ii).toNat)
    case atStart => exact ⟨0, by omega, rfl, rfl, rfl, fun i h => absurd h (Nat.not_lt_zero i)⟩
    case round =>
      obtain ⟨k, hk, rfl, rfl, rfl, hno⟩ := hrel
      by_cases hlt : k < 4
      · have hc : w.cell? ⟨b, off + k, none⟩ = some (.int .i64 (f k)) := HW.out k hlt
        by_cases hh : (sg 8 N : Int) ≤ f k
        · have HF1 : Hid (First (holdsB f N) k true) := Or.inl ⟨rfl, hlt, decide_eq_true hh, hno.out⟩
          go_wp2_with fail
          refine (zzwidth_any b off f N w HW.out HD.out hN).mono ?_
          rintro e w' ⟨c, ok, rfl, hfi, hb⟩
          obtain ⟨rfl, rfl⟩ := first_one hfi HF1.out
          go_wp2
          go_ret
          exact ⟨rfl, hb⟩
        · have hno' : Hid (NoneB (holdsB f N) (k + 1)) := hno.out.next (decide_eq_false hh)
          clear hno
          go_wp2
          go_round
          case rel => exact ⟨k + 1, by omega, by go_num, rfl, rfl, hno'⟩
          case measure => simp [intOf]; omega
      · obtain rfl : k = 4 := by omega
        have HF1 : Hid (First (holdsB f N) 0 false) := Or.inr ⟨rfl, rfl, hno.out⟩
        go_wp2_with fail
        refine (zzwidth_any b off f N w HW.out HD.out hN).mono ?_
        rintro e w' ⟨c, ok, rfl, hfi, hb⟩
        obtain ⟨rfl, rfl⟩ := first_one hfi HF1.out
        go_wp2
        go_ret
        exact ⟨rfl, hb⟩
  · go_wp2
    go_ret
    exact ⟨rfl, Below.refl _ _⟩

set_option maxRecDepth 100000 in
theorem lifted (os : Os) (started : os.Started) (H : Type) (enc : TypeId × Value → H) :
    ReturnsInHanded {} Try.checked os 3 .any (Rows.fnWidthCodeExactSpec.pre6 enc Try.prog Try.f3 Rows.fnWidthCodeExactRow.domain false) (Rows.fnWidthCodeExactSpec.post enc Try.prog Try.f3 false true false false) := by
  refine returnsInHanded_of_change (C := Try.checked) own started (by kernel_rfl) Try.func3
    (ChangeSpec.witness6 (enc := enc) (C := Try.checked) false ⟨#[], #[.pointer none, .int .u64 0], []⟩ 8 (by kernel_rfl) (by kernel_rfl) (by kernel_rfl) (by kernel_rfl)) ?_
  intro W base args ds gs before hval0 hW hcnd _
  have hval : ∀ (j : Nat) t v, Try.f3.params[j]? = some t → args[j]? = some v → Value.okWide Try.prog W .any base t v := hval0
  have hW' := hW
  obtain ⟨p, q, hA0, hV, rfl, hfz, hnd⟩ := hW
  have hA : DataW.TrodAll enc Try.prog W 0 (fun _ => true) true Try.f3.params.toList args.toList ds p := hA0
  rw [Try.params3] at hA hval
  obtain ⟨v0, vs0, d0, ds0, p0, q0, hargs, rfl, rfl, h0, r0⟩ := trodAll_cons hA
  obtain ⟨v1, vs1, d1, ds1, p1, q1, rfl, rfl, rfl, h1, r1⟩ := trodAll_cons r0
  obtain ⟨rfl, rfl, rfl⟩ := trodAll_nil r1
  obtain rfl : args = #[v0, v1] := by cases args; simp_all
  obtain ⟨rfl, rfl⟩ := trodVars_none hV
  have k0 := h0
  have lt0 : ∀ x ∈ p0, x.block < W.heap.size := by obtain ⟨m, hm⟩ := k0; exact DataW.trod_lt m _ _ _ hm
  obtain ⟨a1, rfl, rfl, rfl, w1⟩ := open_int Try.underlying23 (hval 1 23 v1 rfl rfl) h1
  have b1 := bounds_u64 w1
  obtain ⟨N, rfl⟩ : ∃ N : Nat, a1 = N := ⟨a1.toNat, by omega⟩
  have goal : Calls Try.prog 3 #[v0, .int .u64 N] W fun e w' => e = .returned (.bool true) ∧ Below W.heap.size W w' := by
    rcases ChangeShapes.open_ptr Try.underlying22 (by rw [cells57]; omega) (hval 0 22 v0 rfl rfl) h0 with ⟨rfl, _, _⟩ | ⟨b, off, cs, y, fuel, rfl, _, _, hlen, hcell, hy⟩
    · exact walk_nil N W
    · rw [cells57] at hlen hcell
      obtain ⟨xs, m, _, _, _, hxl, hx⟩ := DataW.trod_array Try.underlying57 hy
      have each : ∀ k, k < 4 → ∃ z : Int, W.cell? ⟨b, off + k, none⟩ = some (.int .i64 z) ∧ -9223372036854775808 ≤ z ∧ z ≤ 9223372036854775807 := by
        intro k hk
        have e := hx k hk
        rw [cells3, List.getElem?_eq_getElem (by omega)] at e
        obtain ⟨z, ez, _, wz⟩ := DataW.trod_int Try.underlying3 e
        have hb := bounds_i64 wz
        refine ⟨z, ?_, hb⟩
        rw [hcell k hk]
        have : ((cs.drop (k * 1)).take 1)[0]? = some (.int .i64 z) := by rw [ez]; rfl
        rw [List.getElem?_take_of_lt (by omega), List.getElem?_drop] at this
        simpa using this
      refine walk b off (fun k => intOf ((W.cell? ⟨b, off + k, none⟩).getD (.int .i64 0))) N W ?_ ?_ (by omega)
      · intro k hk
        obtain ⟨z, hz, _⟩ := each k hk
        simp only [hz, Option.getD_some, intOf]
      · intro k hk
        obtain ⟨z, hz, hb⟩ := each k hk
        simp only [hz, Option.getD_some, intOf]
        exact hb
  clear hA0 hval0
  refine goal.mono fun e W' ⟨he, bel⟩ => ?_
  subst he
  exact ⟨_, rfl, _, _, _, [], _, [], hW', trodAll_mk1 (shut_bool Try.underlying4 _), (trodAll_cons_mk (Below.trod laidOut (by kernel_rfl) (of_decide_eq_true (by kernel_rfl)) k0 bel lt0) (trodAll_cons_mk (shut_int Try.underlying23 w1) trodAll_mk0)), rfl, bel.frame _, fun h => by cases h⟩

theorem over : Rows.fnWidthCodeExactRow.holds Try.pinned (OpenSpec.ofChange Rows.fnWidthCodeExactSpec) :=
  OpenClaim.holds_of_wide 3 Try.f3 rfl rfl rfl rfl rfl rfl rfl ⟨rfl, rfl, rfl, rfl, rfl⟩ rfl rfl rfl rfl rfl (by kernel_rfl) Try.func3 (by kernel_rfl)
    (of_decide_eq_true (by kernel_rfl)) (by unfold Func.isWrapper; first | (rw [if_pos (by decide +kernel)]; kernel_rfl) | (rw [if_neg (by decide +kernel)]; exact ⟨rfl, rfl⟩))
    (fun os started H enc _ => lifted os started H enc)

end Go.Proofs.Qxb6602255a.fnWidthCodeExact

theorem Go.Proofs.Qxb6602255a.width_code_exact_holds : Go.Proofs.Qxb6602255a.Rows.FnWidthCodeExactSaid :=
  Go.Proofs.Qxb6602255a.fnWidthCodeExact.over
