/-
  The walks of zzBytes (9), cloneBytes (10), bytesEqual (12).
-/
import Derived.Test.Qxb6602255aRows
import Derived.WalkKit
import Derived.ProofKit
import Derived.OpenShut
import Derived.WalkLawsBesides
import Derived.WalkSpells
import Derived.Deep.QuietTactic
import Derived.BigQuiet
import Derived.Deep.AppendLies
import Derived.Deep.RegionHeld3
import Derived.Deep.WholeRow
import Derived.Stop.BytesEq
namespace Go.Proofs.Qxb6602255a
open Go.ChangeShapes Go.WideShapes Go.ChangeAt Go.RowKit

/-- One byte, bytes, an array of bytes, as cells. -/
def by1 (b : UInt8) : Value := .int .u8 (b.toNat : Int)
def cl (l : List UInt8) : List Value := l.map by1
def hArr (hs : List UInt8) : Array Value := (cl hs).toArray
theorem cl_length (l : List UInt8) : (cl l).length = l.length := by simp [cl]
theorem cl_append (l r : List UInt8) : cl (l ++ r) = cl l ++ cl r := List.map_append
theorem cl_get (l : List UInt8) (i : Nat) (h : i < l.length) : (cl l)[i]? = some (by1 (l.getD i 0)) := by
  simp [cl, List.getD, List.getElem?_eq_getElem h]
theorem hArr_size (hs : List UInt8) : (hArr hs).size = hs.length := by simp [hArr, cl_length]
theorem cl_one (l : List UInt8) : ∀ u ∈ cl l, u.oneCell' = true := by
  intro u hu
  simp only [cl, List.mem_map] at hu
  obtain ⟨b, _, rfl⟩ := hu
  rfl

set_option maxHeartbeats 400000 in
theorem bytes_any (a : Option Addr) (n c : Nat) (x y : Bool) (hs ks : List UInt8) (w : World) (hn : n ≤ maxLen) (h1 : hs.length = 32) (h2 : ks.length = 32) :
    Calls Try.prog 9 #[.slice a n c, .bool x, .agg (hArr hs), .bool y, .agg (hArr ks)] w fun e w' => e = .returned (.bool (decide (n ≤ 1048576))) ∧ Below w.heap.size w w' := by
  unfold maxLen at hn
  have z1 : (hArr hs).size = 32 := by rw [hArr_size, h1]
  have z2 : (hArr ks).size = 32 := by rw [hArr_size, h2]
  by_cases h : n ≤ 1048576
  · have hd : decide (n ≤ 1048576) = true := decide_eq_true h
    go_enter Try.func9, Try.ntmps9
    go_wp2
    go_ret
    exact ⟨by rw [hd]; rfl, ((Below.refl _ _).alloc (Nat.le_refl _) _).alloc (by simp) _⟩
  · have hd : decide (n ≤ 1048576) = false := decide_eq_false h
    go_enter Try.func9, Try.ntmps9
    go_wp2
    go_ret
    exact ⟨by rw [hd]; rfl, ((Below.refl _ _).alloc (Nat.le_refl _) _).alloc (by simp) _⟩

/-- A slice of bytes that can be read holds xs. -/
def BytesIn (w : World) (a : Option Addr) (n c : Nat) (xs : List UInt8) : Prop :=
  xs.length = n ∧ (a = none → n = 0 ∧ c = 0) ∧ ∀ i, i < n → ∃ b off, a = some ⟨b, off, none⟩ ∧ w.cell? ⟨b, off + i, none⟩ = some (by1 (xs.getD i 0))

theorem info5 : (Try.prog.info? 5).map (fun i => (i.zero, i.size, i.bytes)) = some (some (.int .u8 0), 1, 1) := by kernel_rfl

/-- Block g holds n cells that may be written; its first k are xs. -/
def Part (w : World) (g n k : Nat) (xs : List UInt8) : Prop :=
  ∃ cur : Array Value, w.heap[g]? = some (.cells cur 5 (0, 0)) ∧ cur.size = n ∧ ∀ i, i < k → cur[i]? = some (by1 (xs.getD i 0))

theorem Part.step {w : World} {g n k : Nat} {xs : List UInt8} (h : Part w g n k xs) (hk : k < n) : Part (w.setCell ⟨g, k, none⟩ (by1 (xs.getD k 0))) g n (k + 1) xs := by
  obtain ⟨cur, h1, h2, h3⟩ := h
  refine ⟨_, heap_setCell_same w g k cur 5 _ h1, by simp [h2], ?_⟩
  intro i hi
  rw [Array.getElem?_setIfInBounds]
  by_cases e : k = i
  · subst e
    rw [if_pos rfl, if_pos (by omega)]
  · rw [if_neg e]
    exact h3 i (by omega)

theorem part_of_owns {w : World} {base g n : Nat} {l : List Value} {xs : List UInt8} (h : w.ownsRow base 5 1 (.slice (some ⟨g, 0, none⟩) n n) n l) : Part w g n 0 xs := by
  rcases h.2 with ⟨h', _⟩ | ⟨g', cap', cur, h', _, hg, _, _, hsz, _⟩
  · cases h'
  · cases h'
    exact ⟨cur, hg, by simpa using hsz, fun i h => absurd h (Nat.not_lt_zero i)⟩

theorem owns_of_part {w : World} {g n : Nat} {xs : List UInt8} (h : Part w g n n xs) (hl : xs.length = n) (hn : n ≤ 1048576) : w.ownsRow g 5 1 (.slice (some ⟨g, 0, none⟩) n n) n (cl xs) := by
  obtain ⟨cur, h1, h2, h3⟩ := h
  refine ⟨by rw [cl_length, hl]; omega, Or.inr ⟨g, n, cur, rfl, Nat.le_refl _, h1, Nat.le_refl _, by unfold maxLen; omega, by omega, ?_⟩⟩
  rw [Nat.mul_one]
  apply List.ext_getElem?
  intro i
  by_cases hi : i < n
  · rw [List.getElem?_take_of_lt hi, cl_get xs i (by omega)]
    have := h3 i hi
    simpa using this
  · rw [List.getElem?_eq_none (by simp; omega), List.getElem?_eq_none (by rw [cl_length]; omega)]

set_option maxHeartbeats 1000000 in
theorem clone_any (a : Option Addr) (n c : Nat) (xs : List UInt8) (w : World) (h : BytesIn w a n c xs) (hn : n ≤ 1048576) :
    Calls Try.prog 10 #[.slice a n c] w fun e w' => ∃ v, e = .returned v ∧ w'.ownsRow w.heap.size 5 1 v n (cl xs) ∧ Below w.heap.size w w' := by
  obtain ⟨hl, hnil, hcell⟩ := h
  cases a with
  | none =>
    obtain ⟨rfl, rfl⟩ := hnil rfl
    have hx : xs = [] := List.eq_nil_of_length_eq_zero hl
    subst hx
    have he : ∀ W, (binOp .eql 30 (.slice none 0 0) (.slice none 0 0)).run Try.prog W = .ok (.bool true) W := fun W => Lib.run_eql_slice_nil W 30 5 none 0 0 0 0 Try.underlying30
    go_enter Try.func10, Try.ntmps10
    go_wp2
    go_ret
    exact ⟨_, rfl, World.ownsRow_nil _ _ _ _, Below.refl _ _⟩
  | some ad =>
    have he : ∀ W, (binOp .eql 30 (.slice (some ad) n c) (.slice none 0 0)).run Try.prog W = .ok (.bool false) W := fun W => Lib.run_eql_slice_nil W 30 5 (some ad) n c 0 0 Try.underlying30
    have HC : Hid (∀ i, i < n → ∃ b off, some ad = some (⟨b, off, none⟩ : Addr) ∧ w.cell? ⟨b, off + i, none⟩ = some (by1 (xs.getD i 0))) := hcell
    have HL : Hid (xs.length = n) := hl
    clear hcell hnil hl
    obtain ⟨i0, hi, hz0, hz1, hz2⟩ := info_parts info5
    go_enter Try.func10, Try.ntmps10
    go_wp2_with (at_make; refine wpList_make_full _ rfl (.tmp 8) (.tmp 8) 30 rfl w.heap.size 5 i0 (.int .u8 0) 1 Try.underlying30 hi hz0 hz1 .i64 .i64 _ _ n rfl rfl rfl rfl (by rw [hz2]; omega) (by unfold maxLen; omega) (Nat.le_refl _) ?_; intro w1 hown hgrow)
    have hb1 : Below w.heap.size w w1 := (Below.refl _ _).grown hgrow (Nat.le_refl _) (by intro k hk; cases hk)
    have hp1 : Part w1 w.heap.size n 0 xs := part_of_owns hown
    clear hown hgrow hi hz0 hz1 hz2 he
    go_loopw [4] (fun ii wr => ∃ k : Nat, k ≤ n ∧ ii = .int .i64 k ∧ Part wr w.heap.size n k xs ∧ Below w.heap.size w wr) (fun ii _ => n - (intOf ii).toNat)
    case atStart => exact ⟨0, Nat.zero_le _, rfl, hp1, hb1⟩
    case round =>
      obtain ⟨k, hk, rfl, hp, hbel⟩ := hrel
      clear hp1 hb1
      have HP : Hid (Part wr w.heap.size n k xs) := hp
      by_cases hlt : k < n
      · obtain ⟨b, off, e, hc⟩ := HC.out k hlt
        cases e
        have hbl : b < w.heap.size := World.block_lt_of_cell? w _ hc
        obtain ⟨z, hz⟩ : ∃ z : Int, z = ((xs.getD k 0).toNat : Int) := ⟨_, rfl⟩
        have hd : wr.cell? ⟨b, off + k, none⟩ = some (.int .u8 z) := by rw [hz]; exact (hbel.cell (by exact hbl)).trans hc
        obtain ⟨vv, hv⟩ : ∃ vv, wr.cell? ⟨w.heap.size, k, none⟩ = some vv := by
          obtain ⟨cur, c1, c2, c3⟩ := hp
          exact ⟨cur[k]'(by omega), by rw [cell_of_row wr _ k cur 5 _ c1]; simp⟩
        have hf : wr.frozen? ⟨w.heap.size, k, none⟩ = false := by
          obtain ⟨cur, c1, c2, c3⟩ := hp
          exact frozen_of_row wr _ k cur 5 c1
        have HP' : Hid (Part (wr.setCell ⟨w.heap.size, k, none⟩ (.int .u8 z)) w.heap.size n (k + 1) xs) := by rw [hz]; exact hp.step hlt
        clear hz hp hc
        go_wp2
        go_roundw
        case rel => exact ⟨k + 1, by omega, by go_num, HP'.out, hbel.setCell (p := ⟨w.heap.size, k, none⟩) (Nat.le_refl _) _⟩
        case measure => simp [intOf]; omega
      · obtain rfl : n = k := by omega
        go_wp2
        go_ret
        exact ⟨_, rfl, owns_of_part HP.out HL.out (by omega), hbel⟩


set_option maxHeartbeats 1000000 in
/-- bytesEqual at two slices that hold the same bytes. -/
theorem bytesEqual_same (a v : Option Addr) (n c d : Nat) (xs : List UInt8) (w : World) (h : BytesIn w a n c xs) (h' : BytesIn w v n d xs) (hn : n ≤ 1048576) :
    Calls Try.prog 12 #[.slice a n c, .slice v n d] w fun e w' => e = .returned (.bool true) ∧ Below w.heap.size w w' := by
  have HA : Hid (BytesIn w a n c xs) := h
  have HV : Hid (BytesIn w v n d xs) := h'
  clear h h'
  go_enter Try.func12, Try.ntmps12
  go_wp2
  go_loopw [5] (fun ii wr => ∃ k : Nat, k ≤ n ∧ ii = .int .i64 k ∧ ∃ m, wr = w.drewN m) (fun ii _ => n - (intOf ii).toNat)
  case atStart => exact ⟨0, Nat.zero_le _, rfl, 0, rfl⟩
  case round =>
    obtain ⟨k, hk, rfl, m, rfl⟩ := hrel
    by_cases hlt : k < n
    · obtain ⟨b, off, rfl, hc⟩ := HA.out.2.2 k hlt
      obtain ⟨b', off', rfl, hc'⟩ := HV.out.2.2 k hlt
      obtain ⟨z, hz⟩ : ∃ z : Int, z = ((xs.getD k 0).toNat : Int) := ⟨_, rfl⟩
      have hd : w.cell? ⟨b, off + k, none⟩ = some (.int .u8 z) := by rw [hz]; exact hc
      have hd' : w.cell? ⟨b', off' + k, none⟩ = some (.int .u8 z) := by rw [hz]; exact hc'
      have hki : (0 : Int) ≤ (k : Int) := by omega
      have hkj : (k : Int) < (n : Int) := by omega
      clear hz hc hc'
      go_wp2_with fail
      go_quiet (fail)
      go_wp2
      go_roundw
      case rel => exact ⟨k + 1, by omega, by go_num, _, rfl⟩
      case measure => simp [intOf]; omega
    · go_wp2
      go_ret
      exact ⟨rfl, below_drewN (Below.refl _ _) _⟩

end Go.Proofs.Qxb6602255a
