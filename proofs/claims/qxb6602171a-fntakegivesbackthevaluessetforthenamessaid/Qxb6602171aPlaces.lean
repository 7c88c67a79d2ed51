/-
  The walks of named (25), placesOf (19), ZZPlacesOf (12).
-/
import Derived.Test.Qxb6602171aCut
import Derived.Deep.QuietTactic
import Derived.BigQuiet
import Derived.Deep.LoopGhost
import Derived.Room.AppendFits
import Derived.Deep.AppendLies
namespace Go.Proofs.Qxb6602171a
open Go.ChangeShapes Go.WideShapes Go.ChangeAt Go.RowKit

/-- How many of the first i segments carry a name. -/
def nm (ks : Nat → Int) : Nat → Nat
  | 0 => 0
  | i + 1 => nm ks i + if ks i = 0 then 0 else 1
/-- Where the first i segments end in the pattern (no question mark counted). -/
def en (ks : Nat → Int) (ts : Nat → ByteArray) : Nat → Nat
  | 0 => 0
  | i + 1 => en ks ts i + 1 + (if ks i = 0 then 0 else 1) + (ts i).size
/-- The places, as cells. -/
def plc (ks : Nat → Int) (ts : Nat → ByteArray) : Nat → List Value
  | 0 => []
  | i + 1 => plc ks ts i ++ if ks i = 0 then [] else [.int .u32 ((en ks ts i + 2 : Nat) : Int), .int .u32 ((en ks ts i + 2 + (ts i).size : Nat) : Int)]

theorem nm_static (ks : Nat → Int) (i : Nat) (h : ks i = 0) : nm ks (i + 1) = nm ks i := by rw [nm, if_pos h]; rfl
theorem nm_named (ks : Nat → Int) (i : Nat) (h : ¬ ks i = 0) : nm ks (i + 1) = nm ks i + 1 := by rw [nm, if_neg h]
theorem nm_le (ks : Nat → Int) (i : Nat) : nm ks i ≤ i := by
  induction i with
  | zero => exact Nat.le_refl 0
  | succ i ih => by_cases h : ks i = 0
                 · rw [nm_static ks i h]; omega
                 · rw [nm_named ks i h]; omega
theorem nm_mono (ks : Nat → Int) (i j : Nat) (h : i ≤ j) : nm ks i ≤ nm ks j := by
  induction j with
  | zero => rw [show i = 0 by omega]; exact Nat.le_refl _
  | succ j ih =>
    by_cases e : i = j + 1
    · rw [e]; exact Nat.le_refl _
    · have := ih (by omega)
      by_cases h : ks j = 0
      · rw [nm_static ks j h]; omega
      · rw [nm_named ks j h]; omega
theorem en_static (ks : Nat → Int) (ts : Nat → ByteArray) (i : Nat) (h : ks i = 0) : en ks ts (i + 1) = en ks ts i + 1 + (ts i).size := by rw [en, if_pos h]
theorem en_named (ks : Nat → Int) (ts : Nat → ByteArray) (i : Nat) (h : ¬ ks i = 0) : en ks ts (i + 1) = en ks ts i + 2 + (ts i).size := by rw [en, if_neg h]
theorem en_mono (ks : Nat → Int) (ts : Nat → ByteArray) (i j : Nat) (h : i ≤ j) : en ks ts i ≤ en ks ts j := by
  induction j with
  | zero => rw [show i = 0 by omega]; exact Nat.le_refl _
  | succ j ih =>
    by_cases e : i = j + 1
    · rw [e]; exact Nat.le_refl _
    · have := ih (by omega)
      rw [en]; omega
theorem plc_static (ks : Nat → Int) (ts : Nat → ByteArray) (i : Nat) (h : ks i = 0) : plc ks ts (i + 1) = plc ks ts i := by rw [plc, if_pos h, List.append_nil]
theorem plc_named (ks : Nat → Int) (ts : Nat → ByteArray) (i : Nat) (h : ¬ ks i = 0) :
    plc ks ts (i + 1) = plc ks ts i ++ [.int .u32 ((en ks ts i + 2 : Nat) : Int), .int .u32 ((en ks ts i + 2 + (ts i).size : Nat) : Int)] := by rw [plc, if_neg h]

set_option maxHeartbeats 400000 in
theorem named_any (k : Int) (t : ByteArray) (w : World) : Calls Try.prog 25 #[.agg #[.int .u8 k, .string t]] w fun e w' => e = .returned (.bool (k != 0)) ∧ Below w.heap.size w w' := by
  go_enter Try.func25, Try.ntmps25
  go_wp2
  go_ret
  exact ⟨rfl, (Below.refl _ _).alloc (Nat.le_refl _) _⟩

theorem info42 : (Try.prog.info? 42).map (fun i => (i.zero, i.size, i.bytes)) = some (some (.agg #[.int .u32 0, .int .u32 0]), 2, 8) := by kernel_rfl

theorem new3 (w : World) (o1 o2 : Obj) (cs : Array Value) (t : TypeId) :
    ∀ j u, cs.toList[j]? = some u → (((w.alloc o1).alloc o2).alloc (.cells cs t)).cell? ((⟨w.heap.size + 1 + 1, 0, none⟩ : Addr).add j) = some u := by
  have h := heap_alloc_new ((w.alloc o1).alloc o2) (.cells cs t)
  simp only [World.size_alloc] at h
  exact World.news_of_block h

theorem first3 (w : World) (o2 o3 : Obj) (cs : Array Value) (t : TypeId) (j : Nat) (v : Value) (h : cs[j]? = some v) :
    (((w.alloc (.cells cs t)).alloc o2).alloc o3).cell? ⟨w.heap.size, j, none⟩ = some v := by
  have hb : Below (w.heap.size + 1) (w.alloc (.cells cs t)) (((w.alloc (.cells cs t)).alloc o2).alloc o3) :=
    ((Below.refl _ _).alloc (by simp) _).alloc (by simp) _
  rw [hb.cell (by simp), cell_of_row _ _ _ _ _ _ (heap_alloc_new w _)]
  exact h

/-- What is known of the slice of segments: a row of pairs at the head of block b. -/
def SegAt (w : World) (b n : Nat) (ks : Nat → Int) (ts : Nat → ByteArray) : Prop :=
  ∀ i, i < n → w.cell? ⟨b, i * 2, none⟩ = some (.int .u8 (ks i)) ∧ w.cell? ⟨b, i * 2 + 1, none⟩ = some (.string (ts i))

set_option maxHeartbeats 1000000 in
theorem placesOf_any (b n : Nat) (ks : Nat → Int) (ts : Nat → ByteArray) (w : World) (hb : b < w.heap.size) (hs : SegAt w b n ks ts) (hn : n ≤ 65536) (he : en ks ts n ≤ 1048576) :
    Calls Try.prog 19 #[.slice (some ⟨b, 0, none⟩) n n] w fun e w' => ∃ g, e = .returned (.slice (some ⟨g, 0, none⟩) (nm ks n) (nm ks n)) ∧
      w'.ownsRow w.heap.size 42 2 (.slice (some ⟨g, 0, none⟩) (nm ks n) (nm ks n)) (nm ks n) (plc ks ts n) ∧ Below w.heap.size w w' := by
  go_enter Try.func19, Try.ntmps19
  go_wp2
  go_loopw [3, 13] (fun nn ii wr => ∃ k : Nat, k ≤ n ∧ ii = .int .i64 k ∧ nn = .int .i64 (nm ks k) ∧ Below w.heap.size w wr) (fun _ ii _ => n - (intOf ii).toNat)
  case atStart => exact ⟨0, Nat.zero_le _, rfl, rfl, Below.refl _ _⟩
  case round =>
    obtain ⟨k, hk, rfl, rfl, hbel⟩ := hrel
    have hnk := nm_le ks k
    by_cases hlt : k < n
    · have hc0 : wr.cell? ⟨b, k * 2, none⟩ = some (.int .u8 (ks k)) := (hbel.cell (by exact hb)).trans (hs k hlt).1
      have hc1 : wr.cell? ⟨b, k * 2 + 1, none⟩ = some (.string (ts k)) := (hbel.cell (by exact hb)).trans (hs k hlt).2
      by_cases h0 : ks k = 0
      · have hne : (ks k != 0) = false := by simp [h0]
        have HN : Hid (nm ks (k + 1) = nm ks k) := nm_static ks k h0
        clear h0
        go_wp2
        go_roundw
        case rel => exact ⟨k + 1, by omega, by go_num, by rw [HN.out], (hbel.alloc (by have := hbel.size; omega) _).alloc (by have := hbel.size; simp; omega) _⟩
        case measure => simp [intOf]; omega
      · have hne : (ks k != 0) = true := by simp [h0]
        have HN : Hid (nm ks (k + 1) = nm ks k + 1) := nm_named ks k h0
        clear h0
        go_wp2
        go_roundw
        case rel => exact ⟨k + 1, by omega, by go_num, by rw [HN.out]; go_num, (hbel.alloc (by have := hbel.size; omega) _).alloc (by have := hbel.size; simp; omega) _⟩
        case measure => simp [intOf]; omega
    · obtain rfl : n = k := by omega
      clear hk hlt
      obtain ⟨i0, hi, hz0, hz1, hz2⟩ := info_parts info42
      have hbs := hbel.size
      go_wp2_with (at_make; refine wpList_make_own _ rfl (.const (.int .i64 0)) (.tmp 22) 48 rfl w.heap.size 42 i0 (.agg #[.int .u32 0, .int .u32 0]) 2 Try.underlying48 hi hz0 hz1 .i64 .i64 _ (nm ks n) rfl rfl rfl (by rw [hz2]; omega) (by unfold maxLen; omega) hbs ?_; intro w1 hown hgrow)
      have hbel1 : Below w.heap.size w w1 := hbel.grown hgrow hbs (by intro k hk; cases hk)
      have HB : Hid (w.heap.size ≤ wr.heap.size) := hbs
      clear hz0 hz2 hgrow hbel hbs
      generalize wr.heap.size = g at HB hown ⊢
      obtain ⟨wo, rfl⟩ : ∃ wo : World, wo = wr := ⟨_, rfl⟩
      go_loopw [6, 7, 26] (fun pp ee ii wr => ∃ k : Nat, k ≤ n ∧ ii = .int .i64 k ∧ ee = .int .i64 (en ks ts k) ∧ pp = .slice (some ⟨g, 0, none⟩) (nm ks k) (nm ks n) ∧
          wr.ownsRow w.heap.size 42 2 (.slice (some ⟨g, 0, none⟩) (nm ks k) (nm ks n)) (nm ks k) (plc ks ts k) ∧ Below w.heap.size w wr) (fun _ _ ii _ => n - (intOf ii).toNat)
      case atStart => exact ⟨0, Nat.zero_le _, rfl, rfl, rfl, hown, hbel1⟩
      case round =>
        obtain ⟨k, hk, rfl, rfl, rfl, hown, hbel⟩ := hrel
        have hnk := nm_le ks k
        have hbs := hbel.size
        by_cases hlt : k < n
        · have hc0 : wr.cell? ⟨b, k * 2, none⟩ = some (.int .u8 (ks k)) := (hbel.cell (by exact hb)).trans (hs k hlt).1
          have hc1 : wr.cell? ⟨b, k * 2 + 1, none⟩ = some (.string (ts k)) := (hbel.cell (by exact hb)).trans (hs k hlt).2
          have hem := en_mono ks ts (k + 1) n (by omega)
          have hnm := nm_mono ks (k + 1) n (by omega)
          by_cases h0 : ks k = 0
          · have hne : (ks k != 0) = false := by simp [h0]
            have HN : Hid (nm ks (k + 1) = nm ks k) := nm_static ks k h0
            have HE : Hid (en ks ts (k + 1) = en ks ts k + 1 + (ts k).size) := en_static ks ts k h0
            have HP : Hid (plc ks ts (k + 1) = plc ks ts k) := plc_static ks ts k h0
            have he1 : en ks ts k + 1 + (ts k).size ≤ 1048576 := by rw [← HE.out]; omega
            clear h0 hem hnm
            go_wp2
            go_roundw
            case rel => exact ⟨k + 1, by omega, by go_num, by rw [HE.out]; go_num, by rw [HN.out], by rw [HN.out, HP.out]; exact (hown.alloc _).alloc _, (hbel.alloc (by omega) _).alloc (by simp; omega) _⟩
            case measure => simp [intOf]; omega
          · have hne : (ks k != 0) = true := by simp [h0]
            have HN : Hid (nm ks (k + 1) = nm ks k + 1) := nm_named ks k h0
            have HE : Hid (en ks ts (k + 1) = en ks ts k + 2 + (ts k).size) := en_named ks ts k h0
            have HP : Hid (plc ks ts (k + 1) = plc ks ts k ++ [.int .u32 ((en ks ts k + 2 : Nat) : Int), .int .u32 ((en ks ts k + 2 + (ts k).size : Nat) : Int)]) := plc_named ks ts k h0
            have he1 : en ks ts k + 2 + (ts k).size ≤ 1048576 := by rw [← HE.out]; omega
            have hn1 : nm ks k + 1 ≤ nm ks n := by rw [← HN.out]; exact hnm
            clear h0 hem hnm
            go_wp2_with (first | (at_builtin; refine wpList_append_fits _ rfl (.tmp 36) (.tmp 46) 48 rfl w.heap.size 42 i0 2 Try.underlying48 hi hz1 g (nm ks k) (nm ks n) _ rfl (((hown.alloc _).alloc _).alloc _) _ 1 1 [.int .u32 ((en ks ts k : Int) + 1 + 1), .int .u32 ((en ks ts k : Int) + 1 + 1 + ((ts k).size : Int))] rfl rfl ?c1 ?c2 (by omega) ?_) | go_in)
            case c1 => exact new3 _ _ _ _ _
            case c2 => intro u hu; simp at hu; rcases hu with rfl | rfl <;> rfl
            intro w2 hown2 hgrow2
            have hbel2 : Below w.heap.size w w2 := (((hbel.alloc (by omega) _).alloc (by simp; omega) _).alloc (by simp; omega) _).grown hgrow2 (by simp; omega) (by intro k hk; cases hk; exact HB.out)
            have hgl : g < wr.heap.size := (hown.lt g rfl).2
            have hc2 : w2.cell? ⟨wr.heap.size, 1, none⟩ = some (.string (ts k)) :=
              (hgrow2.cell_far ⟨wr.heap.size, 1, none⟩ (by simp; omega) (by simp; omega)).trans (first3 _ _ _ _ _ 1 _ rfl)
            have HO : Hid (w2.ownsRow w.heap.size 42 2 (.slice (some ⟨g, 0, none⟩) (nm ks (k + 1)) (nm ks n)) (nm ks (k + 1)) (plc ks ts (k + 1))) := by
              rw [HN.out, HP.out]
              have e1 : ((en ks ts k + 2 : Nat) : Int) = (en ks ts k : Int) + 1 + 1 := by omega
              have e2 : ((en ks ts k + 2 + (ts k).size : Nat) : Int) = (en ks ts k : Int) + 1 + 1 + ((ts k).size : Int) := by omega
              rw [e1, e2]
              exact hown2
            clear hown2 hgrow2 hown hc0 hc1 hbel
            go_wp2
            go_roundw
            case rel => exact ⟨k + 1, by omega, by go_num, by rw [HE.out]; go_num, by rw [HN.out], HO, hbel2⟩
            case measure => simp [intOf]; omega
        · obtain rfl : n = k := by omega
          go_wp2
          go_ret
          exact ⟨g, rfl, hown, hbel⟩

end Go.Proofs.Qxb6602171a
