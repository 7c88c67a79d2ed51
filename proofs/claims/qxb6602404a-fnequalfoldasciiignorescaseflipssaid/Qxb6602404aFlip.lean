/-
  The walk of flipByMask (15).
-/
import Derived.Test.Qxb6602404aFold
import Derived.Test.Qxb6602404aBits
import Derived.Laws.IdiomStrings
namespace Go.Proofs.Qxb6602404a
open Go.ChangeShapes Go.WideShapes Go.ChangeAt Go.RowKit

theorem info5 : (Try.prog.info? 5).map (fun i => (i.zero, i.size, i.bytes)) = some (some (.int .u8 0), 1, 1) := by kernel_rfl

/-- The byte at place i, its case turned where it is a letter and the mask there is odd. -/
def flipB (s mask : ByteArray) (i : Nat) : Nat :=
  if (97 ≤ (bt s i ||| 32) ∧ (bt s i ||| 32) ≤ 122) ∧ i < mask.size ∧ bt mask i &&& 1 = 1 then bt s i ^^^ 32 else bt s i

theorem flipB_lt (s mask : ByteArray) (i : Nat) : flipB s mask i < 256 := by
  unfold flipB
  split
  · exact flip_lt ⟨bt s i, bt_lt s i⟩
  · exact bt_lt s i

theorem flipB_lo (s mask : ByteArray) (i : Nat) : lo (flipB s mask i) = lo (bt s i) := by
  unfold flipB
  split
  · rename_i h
    exact ((flip_iff (bt s i) (bt_lt s i)).2 h.1).symm
  · rfl

/-- The first k bytes of block g are the flipped ones. -/
def Part (w : World) (g n k : Nat) (s mask : ByteArray) : Prop :=
  ∃ cur : Array Value, w.heap[g]? = some (.cells cur 5 (0, 0)) ∧ cur.size = n ∧ ∀ i, i < k → cur[i]? = some (.int .u8 (flipB s mask i))

theorem Part.step {w : World} {g n k : Nat} {s mask : ByteArray} (h : Part w g n k s mask) (hk : k < n) (z : Int) (hz : z = flipB s mask k) : Part (w.setCell ⟨g, k, none⟩ (.int .u8 z)) g n (k + 1) s mask := by
  obtain ⟨cur, h1, h2, h3⟩ := h
  refine ⟨_, heap_setCell_same w g k cur 5 _ h1, by simp [h2], ?_⟩
  intro i hi
  rw [Array.getElem?_setIfInBounds]
  by_cases e : k = i
  · subst e
    rw [if_pos rfl, if_pos (by omega), hz]
  · rw [if_neg e]
    exact h3 i (by omega)

theorem part_of_owns {w : World} {base g n : Nat} {l : List Value} {s mask : ByteArray} (h : w.ownsRow base 5 1 (.slice (some ⟨g, 0, none⟩) n n) n l) : Part w g n 0 s mask := by
  rcases h.2 with ⟨h', _⟩ | ⟨g', cap', cur, h', _, hg, _, _, hsz, _⟩
  · cases h'
  · cases h'
    exact ⟨cur, hg, by simpa using hsz, fun i h => absurd h (Nat.not_lt_zero i)⟩

/-- What flipByMask answers. -/
def flipS (s mask : ByteArray) : ByteArray := ⟨((List.range s.size).map fun i => UInt8.ofNat (flipB s mask i)).toArray⟩
theorem flipS_size (s mask : ByteArray) : (flipS s mask).size = s.size := by
  show ((List.range s.size).map _).toArray.size = _
  simp
theorem flipS_bt (s mask : ByteArray) (i : Nat) (h : i < s.size) : bt (flipS s mask) i = flipB s mask i := by
  have h' : i < (flipS s mask).size := by rw [flipS_size]; exact h
  rw [← bt_at _ i h']
  have e1 : (flipS s mask).data.toList[i]? = some ((flipS s mask)[i]) := by
    have hl : i < (flipS s mask).data.toList.length := by rw [← Lib.size_eq]; exact h'
    rw [List.getElem?_eq_getElem hl]
    rfl
  have e2 : (flipS s mask).data.toList[i]? = some (UInt8.ofNat (flipB s mask i)) := by simp [flipS, h]
  have e : (flipS s mask)[i] = UInt8.ofNat (flipB s mask i) := Option.some.inj (e1.symm.trans e2)
  rw [e, UInt8.toNat_ofNat']
  exact Nat.mod_eq_of_lt (flipB_lt s mask i)

theorem conv_whole {w : World} {g n : Nat} {s mask : ByteArray} (h : Part w g n n s mask) (hn : n = s.size) :
    (convert 31 9 (.slice (some ⟨g, 0, none⟩) n n)).run Try.prog w = .ok (.string (flipS s mask)) w := by
  obtain ⟨cur, h1, h2, h3⟩ := h
  have := run_convert_bytes_back (P := Try.prog) w 31 9 5 ⟨g, 0, none⟩ n ((List.range s.size).map fun i => UInt8.ofNat (flipB s mask i)) Try.underlying31 Try.underlying5 Try.underlying9 (by
    intro j hj
    have hj' : j < s.size := by simpa using hj
    have hadd : (⟨g, 0, none⟩ : Addr).add j = ⟨g, j, none⟩ := by unfold Addr.add; split <;> simp_all
    rw [hadd, cell_of_row w g j cur 5 _ h1, h3 j (by omega)]
    simp only [List.getElem_map, List.getElem_range, UInt8.toNat_ofNat']
    rw [Nat.mod_eq_of_lt (flipB_lt s mask j)])
  simp only [List.length_map, List.length_range] at this
  subst hn
  exact this

theorem efB_flip (s mask : ByteArray) : efB s (flipS s mask) = true := by
  rw [efB_iff]
  refine ⟨(flipS_size s mask).symm, ?_⟩
  intro i hi
  rw [flipS_bt s mask i hi, flipB_lo]

theorem efB_flips (a b ma mb : ByteArray) : efB (flipS a ma) (flipS b mb) = efB a b := by
  have ha := efB_flip a ma
  have hb := efB_flip b mb
  rw [Bool.eq_iff_iff]
  constructor
  · intro h
    exact efB_trans _ _ _ (efB_trans _ _ _ ha h) ((efB_symm _ _).trans hb)
  · intro h
    exact efB_trans _ _ _ (efB_trans _ _ _ ((efB_symm _ _).trans ha) h) hb

theorem nat_one {o : Nat} (h : ((o : Int) == 1) = true) : o = 1 := by
  have := eq_of_beq h; omega
theorem nat_ne {o : Nat} (h : ((o : Int) == 1) = false) : ¬ o = 1 := by
  intro e; subst e; simp at h

set_option maxHeartbeats 2000000 in
theorem flip_any (s mask : ByteArray) (w : World) (hs : s.size ≤ 1048576) (_hm : mask.size ≤ 1048576) :
    Calls Try.prog 15 #[.string s, .string mask] w fun e w' => e = .returned (.string (flipS s mask)) ∧ Below w.heap.size w w' := by
  obtain ⟨i0, hi, hz0, hz1, hz2⟩ := info_parts info5
  go_enter Try.func15, Try.ntmps15
  go_wp2_with (at_make; refine wpList_make_full _ rfl (.tmp 10) (.tmp 10) 31 rfl w.heap.size 5 i0 (.int .u8 0) 1 Try.underlying31 hi hz0 hz1 .i64 .i64 _ _ s.size rfl rfl rfl rfl (by rw [hz2]; omega) (by unfold maxLen; omega) (Nat.le_refl _) ?_; intro w1 hown hgrow)
  have hb1 : Below w.heap.size w w1 := (Below.refl _ _).grown hgrow (Nat.le_refl _) (by intro k hk; cases hk)
  have hp1 : Part w1 w.heap.size s.size 0 s mask := part_of_owns hown
  clear hown hgrow hi hz0 hz1 hz2
  go_loopw [6] (fun ii wr => ∃ k : Nat, k ≤ s.size ∧ ii = .int .i64 k ∧ Part wr w.heap.size s.size k s mask ∧ Below w.heap.size w wr) (fun ii _ => s.size - (intOf ii).toNat)
  case atStart => exact ⟨0, Nat.zero_le _, rfl, hp1, hb1⟩
  case round =>
    obtain ⟨k, hk, rfl, hp, hbel⟩ := hrel
    clear hp1 hb1
    have HP : Hid (Part wr w.heap.size s.size k s mask) := hp
    by_cases hlt : k < s.size
    · have ea := bt_at s k hlt
      have la := bt_lt s k
      obtain ⟨vv, hv⟩ : ∃ vv, wr.cell? ⟨w.heap.size, k, none⟩ = some vv := by
        obtain ⟨cur, c1, c2, c3⟩ := hp
        exact ⟨cur[k]'(by omega), by rw [cell_of_row wr _ k cur 5 _ c1]; simp⟩
      have hf : wr.frozen? ⟨w.heap.size, k, none⟩ = false := by
        obtain ⟨cur, c1, c2, c3⟩ := hp
        exact frozen_of_row wr _ k cur 5 c1
      clear hp
      have hor : bits .or .u8 (bt s k : Int) 32 = ((bt s k ||| 32 : Nat) : Int) := u8_or_nat _ 32 la (by omega)
      have hxor : bits .xor .u8 (bt s k : Int) 32 = ((bt s k ^^^ 32 : Nat) : Int) := u8_xor_nat _ 32 la (by omega)
      have HB : Hid (flipB s mask k = if (97 ≤ (bt s k ||| 32) ∧ (bt s k ||| 32) ≤ 122) ∧ k < mask.size ∧ bt mask k &&& 1 = 1 then bt s k ^^^ 32 else bt s k) := rfl
      by_cases hmk : k < mask.size
      · have em := bt_at mask k hmk
        have lm := bt_lt mask k
        have hand : bits .and .u8 (bt mask k : Int) 1 = ((bt mask k &&& 1 : Nat) : Int) := u8_and_nat _ 1 lm (by omega)
        generalize bt s k ||| 32 = l at hor HB
        generalize bt s k ^^^ 32 = x at hxor HB
        generalize bt mask k &&& 1 = o at hand HB
        go_wp2
        · go_roundw
          case rel => exact ⟨k + 1, by omega, by go_num, HP.out.step hlt _ (by rw [HB.out, if_pos ⟨⟨by omega, by omega⟩, hmk, nat_one ‹((_ : Int) == 1) = true›⟩]), hbel.setCell (p := ⟨w.heap.size, k, none⟩) (Nat.le_refl _) _⟩
          case measure => simp [intOf]; omega
        · go_roundw
          case rel => exact ⟨k + 1, by omega, by go_num, HP.out.step hlt _ (by rw [HB.out, if_neg (fun h => nat_ne ‹((_ : Int) == 1) = false› h.2.2)]), hbel.setCell (p := ⟨w.heap.size, k, none⟩) (Nat.le_refl _) _⟩
          case measure => simp [intOf]; omega
        · go_roundw
          case rel => exact ⟨k + 1, by omega, by go_num, HP.out.step hlt _ (by rw [HB.out, if_neg (fun h => absurd h.1.2 (by omega))]), hbel.setCell (p := ⟨w.heap.size, k, none⟩) (Nat.le_refl _) _⟩
          case measure => simp [intOf]; omega
        · go_roundw
          case rel => exact ⟨k + 1, by omega, by go_num, HP.out.step hlt _ (by rw [HB.out, if_neg (fun h => absurd h.1.1 (by omega))]), hbel.setCell (p := ⟨w.heap.size, k, none⟩) (Nat.le_refl _) _⟩
          case measure => simp [intOf]; omega
      · generalize bt s k ||| 32 = l at hor HB
        generalize bt s k ^^^ 32 = x at hxor HB
        go_wp2
        all_goals
          go_roundw
          case rel => exact ⟨k + 1, by omega, by go_num, HP.out.step hlt _ (by rw [HB.out, if_neg (fun h => hmk h.2.1)]), hbel.setCell (p := ⟨w.heap.size, k, none⟩) (Nat.le_refl _) _⟩
          case measure => simp [intOf]; omega
    · have hcv := conv_whole (w := wr) (g := w.heap.size) (n := s.size) (s := s) (mask := mask) (by rw [show s.size = k by omega]; rw [show s.size = k by omega] at hp; exact hp) rfl
      clear hp
      go_wp2
      go_ret
      exact ⟨rfl, hbel⟩

set_option maxHeartbeats 2000000 in
theorem bytes14 (a b c d : ByteArray) (w : World) (h : a.size + b.size + c.size + d.size ≤ 1048576) :
    Calls Try.prog 14 #[.string a, .string b, .string c, .string d] w fun e w' => e = .returned (.bool true) ∧ w = w' := by
  go_enter Try.func14, Try.ntmps14
  go_wp2
  go_ret
  exact ⟨rfl, rfl⟩

set_option maxHeartbeats 4000000 in
theorem flips_walk (a0 : ByteArray) (a1 : ByteArray) (a2 : ByteArray) (a3 : ByteArray) (w0 : a0.size ≤ maxLen) (w1 : a1.size ≤ maxLen) (w2 : a2.size ≤ maxLen) (w3 : a3.size ≤ maxLen) (w : World) :
    Calls Try.prog 5 #[.string a0, .string a1, .string a2, .string a3] w fun e w' => e = .returned (.bool true) ∧ Below w.heap.size w w' := by
  unfold maxLen at w0 w1 w2 w3
  by_cases h0 : a0.size ≤ 1048576
  · by_cases h1 : a0.size + a1.size ≤ 1048576
    · by_cases h2 : a0.size + a1.size + a2.size ≤ 1048576
      · by_cases h3 : a0.size + a1.size + a2.size + a3.size ≤ 1048576
        · have e1 := efB_flip a0 a2
          have e2 : efB (flipS a1 a3) a1 = true := (efB_symm _ _).trans (efB_flip a1 a3)
          have HF : Hid (efB (flipS a0 a2) (flipS a1 a3) = efB a0 a1) := efB_flips a0 a1 a2 a3
          have z1 : (flipS a0 a2).size ≤ 1048576 := by rw [flipS_size]; omega
          have z2 : (flipS a1 a3).size ≤ 1048576 := by rw [flipS_size]; omega
          go_enter Try.func5, Try.ntmps5
          go_wp2_with fail
          refine (bytes14 a0 a1 a2 a3 w h3).mono ?_
          rintro e w' ⟨rfl, rfl⟩
          go_wp2_with fail
          refine (flip_any a0 a2 w (by omega) (by omega)).mono ?_
          rintro e x1 ⟨rfl, b1⟩
          go_wp2_with fail
          refine (flip_any a1 a3 x1 (by omega) (by omega)).mono ?_
          rintro e x2 ⟨rfl, b2⟩
          have bb : Below w.heap.size w x2 := b1.trans (b2.mono b1.size)
          clear b1 b2
          go_wp2_with fail
          refine (zzfold_any a0 (flipS a0 a2) x2 (by omega) z1).mono ?_
          rintro e w' ⟨rfl, m1, rfl⟩
          go_wp2_with fail
          refine (zzfold_any (flipS a1 a3) a1 _ z2 (by omega)).mono ?_
          rintro e w' ⟨rfl, m2, rfl⟩
          go_wp2_with fail
          refine (zzfold_any (flipS a0 a2) (flipS a1 a3) _ z1 z2).mono ?_
          rintro e w' ⟨rfl, m3, rfl⟩
          go_wp2_with fail
          refine (zzfold_any a0 a1 _ (by omega) (by omega)).mono ?_
          rintro e w' ⟨rfl, m4, rfl⟩
          go_wp2
          go_ret
          exact ⟨ret_bool (by rw [HF.out]; simp), by repeat (first | exact bb | apply below_drewN)⟩
        · go_enter Try.func5, Try.ntmps5
          go_wp2
          all_goals
            go_ret
            exact ⟨rfl, Below.refl _ _⟩
      · go_enter Try.func5, Try.ntmps5
        go_wp2
        all_goals
          go_ret
          exact ⟨rfl, Below.refl _ _⟩
    · go_enter Try.func5, Try.ntmps5
      go_wp2
      all_goals
        go_ret
        exact ⟨rfl, Below.refl _ _⟩
  · go_enter Try.func5, Try.ntmps5
    go_wp2
    all_goals
      go_ret
      exact ⟨rfl, Below.refl _ _⟩

end Go.Proofs.Qxb6602404a
