/-
  The walk of readKindedHash (13).
-/
import Derived.Test.Qxb6602255aApp
import Derived.Deep.MidRow
namespace Go.Proofs.Qxb6602255a
open Go.ChangeShapes Go.WideShapes Go.ChangeAt Go.RowKit

/-- Block g is an array of thirty-two that may be written; its first k are hs. -/
def Arr (w : World) (g k : Nat) (hs : List UInt8) : Prop :=
  ∃ C : Array Value, w.heap[g]? = some (.cells C 31 (0, 0)) ∧ C.size = 32 ∧ ∀ i, i < k → C[i]? = some (by1 (hs.getD i 0))

theorem Arr.step {w : World} {g k : Nat} {hs : List UInt8} (h : Arr w g k hs) (hk : k < 32) : Arr (w.setCell ⟨g, k, none⟩ (by1 (hs.getD k 0))) g (k + 1) hs := by
  obtain ⟨cur, h1, h2, h3⟩ := h
  refine ⟨_, heap_setCell_same w g k cur 31 _ h1, by simp [h2], ?_⟩
  intro i hi
  rw [Array.getElem?_setIfInBounds]
  by_cases e : k = i
  · subst e
    rw [if_pos rfl, if_pos (by omega)]
  · rw [if_neg e]
    exact h3 i (by omega)

theorem Arr.other {w : World} {g k : Nat} {hs : List UInt8} (h : Arr w g k hs) (a : Addr) (v : Value) (hne : ¬ g = a.block) : Arr (w.setCell a v) g k hs := by
  obtain ⟨cur, h1, h2, h3⟩ := h
  exact ⟨cur, (heap_setCell_other w a g v hne).trans h1, h2, h3⟩

theorem Arr.whole {w : World} {g : Nat} {hs : List UInt8} (h : Arr w g 32 hs) (hl : hs.length = 32) : w.heap[g]? = some (.cells (hArr hs) 31 (0, 0)) := by
  obtain ⟨cur, h1, h2, h3⟩ := h
  have e : cur = hArr hs := by
    apply Array.ext_getElem?
    intro i
    by_cases hi : i < 32
    · rw [h3 i hi, hArr, List.getElem?_toArray, cl_get hs i (by omega)]
    · rw [Array.getElem?_eq_none (by omega), Array.getElem?_eq_none (by rw [hArr_size]; omega)]
  rw [← e]; exact h1

theorem Arr.free {w : World} {g k : Nat} {hs : List UInt8} (h : Arr w g k hs) (j : Nat) (hj : j < 32) : (∃ v, w.cell? ⟨g, j, none⟩ = some v) ∧ w.frozen? ⟨g, j, none⟩ = false := by
  obtain ⟨cur, h1, h2, h3⟩ := h
  exact ⟨⟨cur[j]'(by omega), by rw [cell_of_row w g j cur 31 _ h1]; simp⟩, frozen_of_row w g j cur 31 h1⟩

theorem range_of_arr {w : World} {g : Nat} {hs : List UInt8} (h : w.heap[g]? = some (.cells (hArr hs) 31 (0, 0))) : w.rangeAt g 0 (cl hs) := by
  intro j v hv
  rw [Nat.zero_add, cell_of_row w g j _ _ _ h, hArr, List.getElem?_toArray]
  exact hv

theorem there_of_arr {w : World} {g k : Nat} {hs : List UInt8} (h : Arr w g k hs) : w.there g 0 32 := by
  intro j hj
  rw [Nat.zero_add]
  obtain ⟨⟨v, hv⟩, hf⟩ := h.free j hj
  exact ⟨by rw [hv]; rfl, hf⟩

theorem results4 {P : Program} {fn : Func} {p q r s : Tmp} {ty : TypeId} (h : fn.results = #[.tmp p, .cell q ty, .tmp r, .tmp s]) (tmps : Array Value) (w : World) (g : Nat) (A : Array Value)
    (hp : tmps.getD q undef = .pointer (some ⟨g, 0, none⟩)) (hl : (loadVar ty ⟨g, 0, none⟩).run P w = .ok (.agg A) w) :
    (results fn tmps).run P w = .ok (.tuple #[tmps.getD p undef, .agg A, tmps.getD r undef, tmps.getD s undef]) w := by
  have hp' : tmps[q]?.getD undef = .pointer (some ⟨g, 0, none⟩) := by simpa using hp
  simp [results, h, hp', asAddr, hl]

theorem wrap_id (x : Int) (h0 : 0 ≤ x) (h1 : x ≤ 9223372036854775807) : IntKind.i64.wrap x = x := by
  rw [IntKind.wrap_i64]
  omega

theorem below_setCells {B : Nat} {a : World} (b : Nat) : ∀ {w : World} (_ : Below B a w) (o : Nat) (_ : B ≤ b) (vs : List Value), Below B a (w.setCells b o vs) := by
  intro w h o hb vs
  induction vs generalizing w o with
  | nil => exact h
  | cons v vs ih => exact ih (h.setCell (p := ⟨b, o, none⟩) hb v) (o + 1)

set_option maxHeartbeats 2000000 in
theorem read_any (g N cap i : Nat) (x : Bool) (hs : List UInt8) (w : World) (hN : N ≤ 2000000) (hi : i + 33 ≤ N) (hh : hs.length = 32)
    (hk : w.cell? ⟨g, i, none⟩ = some (by1 (kd x))) (hc : ∀ k, k < 32 → w.cell? ⟨g, i + 1 + k, none⟩ = some (by1 (hs.getD k 0))) :
    Calls Try.prog 13 #[.slice (some ⟨g, 0, none⟩) N cap, .int .i64 i] w fun e w' => e = .returned (.tuple #[.bool x, .agg (hArr hs), .int .i64 ((i + 33 : Nat) : Int), .bool true]) ∧ Below w.heap.size w w' := by
  have hgl : g < w.heap.size := World.block_lt_of_cell? w _ hk
  have HC : Hid (∀ k, k < 32 → w.cell? ⟨g, i + 1 + k, none⟩ = some (by1 (hs.getD k 0))) := hc
  clear hc
  have hkk : w.cell? ⟨g, i, none⟩ = some (.int .u8 (if x then 1 else 0)) := by rw [hk]; cases x <;> rfl
  clear hk
  cases x with
  | true =>
    have hkt : w.cell? ⟨g, i, none⟩ = some (.int .u8 1) := hkk
    clear hkk
    go_enter Try.func13, Try.ntmps13
    go_wp2
    go_loopw [10] (fun ii wr => ∃ k : Nat, k ≤ 32 ∧ ii = .int .i64 k ∧ Arr wr w.heap.size 0 hs ∧ Arr wr (w.heap.size + 1) k hs ∧ Below w.heap.size w wr) (fun ii _ => 32 - (intOf ii).toNat)
    case atStart => exact ⟨0, by omega, rfl, ⟨_, heap_alloc2_old w _ _, rfl, fun i h => absurd h (Nat.not_lt_zero i)⟩, ⟨_, heap_alloc2_new w _ _, rfl, fun i h => absurd h (Nat.not_lt_zero i)⟩, ((Below.refl _ _).alloc (Nat.le_refl _) _).alloc (by simp) _⟩
    case round =>
      obtain ⟨k, hk, rfl, ha, hb, hbel⟩ := hrel
      by_cases hlt : k < 32
      · obtain ⟨z, hz⟩ : ∃ z : Int, z = ((hs.getD k 0).toNat : Int) := ⟨_, rfl⟩
        have hd : wr.cell? ⟨g, i + 1 + k, none⟩ = some (.int .u8 z) := by rw [hz]; exact (hbel.cell (p := ⟨g, i + 1 + k, none⟩) hgl).trans (HC.out k hlt)
        obtain ⟨⟨vv, hv⟩, hf⟩ := hb.free k hlt
        have HB' : Hid (Arr (wr.setCell ⟨w.heap.size + 1, k, none⟩ (.int .u8 z)) (w.heap.size + 1) (k + 1) hs) := by rw [hz]; exact hb.step hlt
        have HA' : Hid (Arr (wr.setCell ⟨w.heap.size + 1, k, none⟩ (.int .u8 z)) w.heap.size 0 hs) := ha.other _ _ (by show ¬ w.heap.size = w.heap.size + 1; omega)
        clear hz ha hb
        go_wp2
        go_roundw
        case rel => exact ⟨k + 1, by omega, by go_num, HA'.out, HB'.out, hbel.setCell (p := ⟨w.heap.size + 1, k, none⟩) (by show w.heap.size ≤ w.heap.size + 1; omega) _⟩
        case measure => simp [intOf]; omega
      · obtain rfl : k = 32 := by omega
        have hra : wr.rangeAt (w.heap.size + 1) 0 (cl hs) := range_of_arr (hb.whole hh)
        have hth : wr.there w.heap.size 0 32 := there_of_arr ha
        have hu := Try.underlying31
        have hiz : (Try.prog.info? 31).map (·.size) = some (cl hs).length := by rw [cl_length, hh]; kernel_rfl
        have kw : IntKind.i64.wrap ((i : Int) + 33) = (i : Int) + 33 := wrap_id _ (by omega) (by omega)
        have hl32 : (cl hs).length = 32 := by rw [cl_length, hh]
        have hone := cl_one hs
        clear ha hb
        go_wp2_with fail
        go_region_held3 (fun w' => w'.rangeAt (w.heap.size + 1) 0 (cl hs) ∧ w'.there w.heap.size 0 32) (go_keep_ranges) (fail)
        have hra2 : (wr.drew.setCells w.heap.size 0 (cl hs)).rangeAt w.heap.size 0 (cl hs) := World.rangeAt_setCells_same _ _ _ _ (by rw [hl32]; simpa using hth)
        have hld := run_loadVar_mid (P := Try.prog) _ w.heap.size 0 31 (cl hs) _ hra2 Try.underlying31 rfl hiz
        have hb2 : Below w.heap.size w (wr.drew.setCells w.heap.size 0 (cl hs)) := below_setCells _ hbel.drew _ (Nat.le_refl _) _
        clear hra hth hu hiz hl32 hone hra2
        go_wp2
        refine bodyPost_ret (results4 Try.results13 _ _ _ _ rfl hld) rfl ⟨?_, hb2⟩
        rw [Int.natCast_add]
        rfl
  | false =>
    have hkt : w.cell? ⟨g, i, none⟩ = some (.int .u8 0) := hkk
    clear hkk
    go_enter Try.func13, Try.ntmps13
    go_wp2
    go_loopw [10] (fun ii wr => ∃ k : Nat, k ≤ 32 ∧ ii = .int .i64 k ∧ Arr wr w.heap.size 0 hs ∧ Arr wr (w.heap.size + 1) k hs ∧ Below w.heap.size w wr) (fun ii _ => 32 - (intOf ii).toNat)
    case atStart => exact ⟨0, by omega, rfl, ⟨_, heap_alloc2_old w _ _, rfl, fun i h => absurd h (Nat.not_lt_zero i)⟩, ⟨_, heap_alloc2_new w _ _, rfl, fun i h => absurd h (Nat.not_lt_zero i)⟩, ((Below.refl _ _).alloc (Nat.le_refl _) _).alloc (by simp) _⟩
    case round =>
      obtain ⟨k, hk, rfl, ha, hb, hbel⟩ := hrel
      by_cases hlt : k < 32
      · obtain ⟨z, hz⟩ : ∃ z : Int, z = ((hs.getD k 0).toNat : Int) := ⟨_, rfl⟩
        have hd : wr.cell? ⟨g, i + 1 + k, none⟩ = some (.int .u8 z) := by rw [hz]; exact (hbel.cell (p := ⟨g, i + 1 + k, none⟩) hgl).trans (HC.out k hlt)
        obtain ⟨⟨vv, hv⟩, hf⟩ := hb.free k hlt
        have HB' : Hid (Arr (wr.setCell ⟨w.heap.size + 1, k, none⟩ (.int .u8 z)) (w.heap.size + 1) (k + 1) hs) := by rw [hz]; exact hb.step hlt
        have HA' : Hid (Arr (wr.setCell ⟨w.heap.size + 1, k, none⟩ (.int .u8 z)) w.heap.size 0 hs) := ha.other _ _ (by show ¬ w.heap.size = w.heap.size + 1; omega)
        clear hz ha hb
        go_wp2
        go_roundw
        case rel => exact ⟨k + 1, by omega, by go_num, HA'.out, HB'.out, hbel.setCell (p := ⟨w.heap.size + 1, k, none⟩) (by show w.heap.size ≤ w.heap.size + 1; omega) _⟩
        case measure => simp [intOf]; omega
      · obtain rfl : k = 32 := by omega
        have hra : wr.rangeAt (w.heap.size + 1) 0 (cl hs) := range_of_arr (hb.whole hh)
        have hth : wr.there w.heap.size 0 32 := there_of_arr ha
        have hu := Try.underlying31
        have hiz : (Try.prog.info? 31).map (·.size) = some (cl hs).length := by rw [cl_length, hh]; kernel_rfl
        have kw : IntKind.i64.wrap ((i : Int) + 33) = (i : Int) + 33 := wrap_id _ (by omega) (by omega)
        have hl32 : (cl hs).length = 32 := by rw [cl_length, hh]
        have hone := cl_one hs
        clear ha hb
        go_wp2_with fail
        go_region_held3 (fun w' => w'.rangeAt (w.heap.size + 1) 0 (cl hs) ∧ w'.there w.heap.size 0 32) (go_keep_ranges) (fail)
        have hra2 : (wr.drew.setCells w.heap.size 0 (cl hs)).rangeAt w.heap.size 0 (cl hs) := World.rangeAt_setCells_same _ _ _ _ (by rw [hl32]; simpa using hth)
        have hld := run_loadVar_mid (P := Try.prog) _ w.heap.size 0 31 (cl hs) _ hra2 Try.underlying31 rfl hiz
        have hb2 : Below w.heap.size w (wr.drew.setCells w.heap.size 0 (cl hs)) := below_setCells _ hbel.drew _ (Nat.le_refl _) _
        clear hra hth hu hiz hl32 hone hra2
        go_wp2
        refine bodyPost_ret (results4 Try.results13 _ _ _ _ rfl hld) rfl ⟨?_, hb2⟩
        rw [Int.natCast_add]
        rfl

end Go.Proofs.Qxb6602255a
