/-
  The walk of ZZPlacesOf (12).
-/
import Derived.Test.Qxb6602171aPlaces
import Derived.Deep.RegionHeld3
namespace Go.Proofs.Qxb6602171a
open Go.ChangeShapes Go.WideShapes Go.ChangeAt Go.RowKit

/-- The first m cells of block g are there and may be written. -/
def Free (w : World) (g m : Nat) : Prop := ∀ j, j < m → (∃ v, w.cell? ⟨g, j, none⟩ = some v) ∧ w.frozen? ⟨g, j, none⟩ = false

theorem addr_ne {g i j : Nat} (h : ¬ i = j) : (⟨g, i, none⟩ : Addr) ≠ ⟨g, j, none⟩ := by
  intro e; cases e; exact h rfl

theorem Free.set {w : World} {g m : Nat} (h : Free w g m) (i : Nat) (v : Value) : Free (w.setCell ⟨g, i, none⟩ v) g m := by
  intro j hj
  obtain ⟨⟨u, hu⟩, hf⟩ := h j hj
  refine ⟨?_, by rw [World.frozen?_setCell]; exact hf⟩
  by_cases e : i = j
  · subst e; exact ⟨v, World.cell?_setCell_same _ _ _ hu⟩
  · exact ⟨u, by rw [World.cell?_setCell_other _ _ _ _ (addr_ne e)]; exact hu⟩

theorem Free.kept {w w' : World} {g m B : Nat} (h : Free w g m) (hb : Below B w w') (hg : g < B) : Free w' g m := by
  intro j hj
  obtain ⟨⟨u, hu⟩, hf⟩ := h j hj
  exact ⟨⟨u, (hb.cell (by exact hg)).trans hu⟩, (hb.frozen (by exact hg)).trans hf⟩

theorem free_of_owns {w : World} {base : Nat} {e : TypeId} {size g n : Nat} {xs : List Value} (h : w.ownsRow base e size (.slice (some ⟨g, 0, none⟩) n n) n xs) : Free w g (n * size) := by
  rcases h.2 with ⟨h', _⟩ | ⟨g', cap', cur, h', _, hg, _, _, hsz, _⟩
  · cases h'
  · cases h'
    intro j hj
    refine ⟨⟨cur[j]'(by omega), ?_⟩, ?_⟩
    · rw [cell_of_row w g j cur e (0, 0) hg]; simp
    · simp [World.frozen?, hg]

theorem SegAt.kept {w w' : World} {g n B : Nat} {ks : Nat → Int} {ts : Nat → ByteArray} (h : SegAt w g n ks ts) (hb : Below B w w') (hg : g < B) : SegAt w' g n ks ts :=
  fun i hi => ⟨(hb.cell (by exact hg)).trans (h i hi).1, (hb.cell (by exact hg)).trans (h i hi).2⟩

/-- One segment more is written. -/
theorem SegAt.step {w : World} {g n k : Nat} {ks : Nat → Int} {ts : Nat → ByteArray} (h : SegAt w g k ks ts) (hf : Free w g (n * 2)) (hk : k < n) :
    SegAt ((w.setCell ⟨g, k * 2, none⟩ (.int .u8 (ks k))).setCell ⟨g, k * 2 + 1, none⟩ (.string (ts k))) g (k + 1) ks ts := by
  intro i hi
  have hf2 := hf.set (k * 2) (.int .u8 (ks k))
  obtain ⟨⟨u0, hu0⟩, _⟩ := hf (k * 2) (by omega)
  obtain ⟨⟨u1, hu1⟩, _⟩ := hf2 (k * 2 + 1) (by omega)
  by_cases e : i = k
  · subst e
    exact ⟨by rw [World.cell?_setCell_other _ _ _ _ (addr_ne (by omega))]; exact World.cell?_setCell_same _ _ _ hu0, World.cell?_setCell_same _ _ _ hu1⟩
  · obtain ⟨h1, h2⟩ := h i (by omega)
    rw [World.cell?_setCell_other _ _ _ _ (addr_ne (by omega)), World.cell?_setCell_other _ _ _ _ (addr_ne (by omega)), World.cell?_setCell_other _ _ _ _ (addr_ne (by omega)), World.cell?_setCell_other _ _ _ _ (addr_ne (by omega))]
    exact ⟨h1, h2⟩

/-- The starts and ends of the first k places are copied out of block g into blocks s and t. -/
def Put (w : World) (g s t N k : Nat) (P : List Value) : Prop :=
  (∀ i, i < k → w.cell? ⟨s, i, none⟩ = P[i * 2]? ∧ w.cell? ⟨t, i, none⟩ = P[i * 2 + 1]?) ∧ Free w s N ∧ Free w t N ∧ ∀ j, j < N * 2 → w.cell? ⟨g, j, none⟩ = P[j]?

theorem block_ne {g h i j : Nat} (hne : ¬ g = h) : (⟨g, i, none⟩ : Addr) ≠ ⟨h, j, none⟩ := by
  intro e; cases e; exact hne rfl

theorem Free.setOther {w : World} {g m s : Nat} (h : Free w g m) (i : Nat) (v : Value) (hne : ¬ s = g) : Free (w.setCell ⟨s, i, none⟩ v) g m := by
  intro j hj
  obtain ⟨⟨u, hu⟩, hf⟩ := h j hj
  exact ⟨⟨u, by rw [World.cell?_setCell_other _ _ _ _ (block_ne hne)]; exact hu⟩, by rw [World.frozen?_setCell]; exact hf⟩

theorem Put.step {w : World} {g s t N k : Nat} {P : List Value} {a b : Value} (h : Put w g s t N k P) (hk : k < N) (n1 : ¬ s = g) (n2 : ¬ t = g) (n3 : ¬ s = t) (ha : P[k * 2]? = some a) (hb : P[k * 2 + 1]? = some b) :
    Put ((w.setCell ⟨s, k, none⟩ a).setCell ⟨t, k, none⟩ b) g s t N (k + 1) P := by
  obtain ⟨h1, h2, h3, h4⟩ := h
  obtain ⟨⟨u, hu⟩, _⟩ := h2 k hk
  obtain ⟨⟨u', hu'⟩, _⟩ := (h3.setOther k a n3) k hk
  have n3' : ¬ t = s := fun e => n3 e.symm
  refine ⟨?_, (h2.set k a).setOther k b n3', (h3.setOther k a n3).set k b, ?_⟩
  · intro i hi
    by_cases e : i = k
    · subst e
      rw [ha, hb]
      exact ⟨by rw [World.cell?_setCell_other _ _ _ _ (block_ne n3')]; exact World.cell?_setCell_same _ _ _ hu, World.cell?_setCell_same _ _ _ hu'⟩
    · obtain ⟨q1, q2⟩ := h1 i (by omega)
      rw [World.cell?_setCell_other _ _ _ _ (block_ne n3'), World.cell?_setCell_other _ _ _ _ (addr_ne (by omega)), World.cell?_setCell_other _ _ _ _ (addr_ne (by omega)), World.cell?_setCell_other _ _ _ _ (block_ne n3)]
      exact ⟨q1, q2⟩
  · intro j hj
    rw [World.cell?_setCell_other _ _ _ _ (block_ne n2), World.cell?_setCell_other _ _ _ _ (block_ne n1)]
    exact h4 j hj

theorem plc_length (ks : Nat → Int) (ts : Nat → ByteArray) (n : Nat) : (plc ks ts n).length = nm ks n * 2 := by
  induction n with
  | zero => rfl
  | succ n ih =>
    by_cases h : ks n = 0
    · rw [plc_static ks ts n h, nm_static ks n h]; exact ih
    · rw [plc_named ks ts n h, nm_named ks n h, List.length_append, ih]; simp; omega

theorem plc_form (ks : Nat → Int) (ts : Nat → ByteArray) (n k : Nat) (hk : k < nm ks n) : ∃ x y : Int, (plc ks ts n)[k * 2]? = some (.int .u32 x) ∧ (plc ks ts n)[k * 2 + 1]? = some (.int .u32 y) := by
  induction n with
  | zero => exact absurd hk (Nat.not_lt_zero k)
  | succ n ih =>
    by_cases h : ks n = 0
    · rw [plc_static ks ts n h]; rw [nm_static ks n h] at hk; exact ih hk
    · rw [plc_named ks ts n h]
      rw [nm_named ks n h] at hk
      have hl := plc_length ks ts n
      by_cases e : k < nm ks n
      · rw [List.getElem?_append_left (by omega), List.getElem?_append_left (by omega)]
        exact ih e
      · obtain rfl : k = nm ks n := by omega
        rw [List.getElem?_append_right (by omega), List.getElem?_append_right (by omega), hl]
        refine ⟨((en ks ts n + 2 : Nat) : Int), ((en ks ts n + 2 + (ts n).size : Nat) : Int), ?_, ?_⟩
        · rw [Nat.sub_self]; rfl
        · rw [Nat.add_sub_cancel_left]; rfl

theorem info47 : (Try.prog.info? 47).map (fun i => (i.zero, i.size, i.bytes)) = some (some (.agg #[.int .u8 0, .string ⟨#[]⟩]), 2, 24) := by kernel_rfl
theorem info22 : (Try.prog.info? 22).map (fun i => (i.zero, i.size, i.bytes)) = some (some (.int .u32 0), 1, 4) := by kernel_rfl

set_option maxHeartbeats 2000000 in
theorem zzplaces_any (bk bx n : Nat) (ks : Nat → Int) (ts : Nat → ByteArray) (w : World) (hbk : bk < w.heap.size) (hbx : bx < w.heap.size)
    (hk0 : ∀ i, i < n → w.cell? ⟨bk, i, none⟩ = some (.int .u8 (ks i))) (ht0 : ∀ i, i < n → w.cell? ⟨bx, i, none⟩ = some (.string (ts i))) (hn : n ≤ 65536) (he : en ks ts n ≤ 1048576) :
    Calls Try.prog 12 #[.slice (some ⟨bk, 0, none⟩) n n, .slice (some ⟨bx, 0, none⟩) n n] w fun e w' => ∃ s t, e = .returned (.tuple #[.slice (some ⟨s, 0, none⟩) (nm ks n) (nm ks n), .slice (some ⟨t, 0, none⟩) (nm ks n) (nm ks n)]) ∧
      (∀ k, k < nm ks n → w'.cell? ⟨s, k, none⟩ = (plc ks ts n)[k * 2]? ∧ w'.cell? ⟨t, k, none⟩ = (plc ks ts n)[k * 2 + 1]?) ∧ Below w.heap.size w w' := by
  have HK : Hid (∀ i, i < n → w.cell? ⟨bk, i, none⟩ = some (.int .u8 (ks i))) := hk0
  have HT : Hid (∀ i, i < n → w.cell? ⟨bx, i, none⟩ = some (.string (ts i))) := ht0
  clear hk0 ht0
  obtain ⟨i0, hi, hz0, hz1, hz2⟩ := info_parts info47
  go_enter Try.func12, Try.ntmps12
  go_wp2_with (at_make; refine wpList_make_full _ rfl (.tmp 11) (.tmp 11) 44 rfl w.heap.size 47 i0 (.agg #[.int .u8 0, .string ⟨#[]⟩]) 2 Try.underlying44 hi hz0 hz1 .i64 .i64 _ _ n rfl rfl rfl rfl (by rw [hz2]; omega) (by unfold maxLen; omega) (Nat.le_refl _) ?_; intro w1 hown hgrow)
  have hf := free_of_owns hown
  have hbel1 : Below w.heap.size w w1 := (Below.refl _ _).grown hgrow (Nat.le_refl _) (by intro k hk; cases hk)
  have hg1 : w.heap.size < w1.heap.size := (hown.lt _ rfl).2
  clear hi hz0 hz1 hz2 hgrow hown
  go_loopw [15] (fun ii wr => ∃ k : Nat, k ≤ n ∧ ii = .int .i64 k ∧ SegAt wr w.heap.size k ks ts ∧ Free wr w.heap.size (n * 2) ∧ Below w.heap.size w wr ∧ w.heap.size < wr.heap.size) (fun ii _ => n - (intOf ii).toNat)
  case atStart => exact ⟨0, Nat.zero_le _, rfl, fun i h => absurd h (Nat.not_lt_zero i), hf, hbel1, hg1⟩
  case round =>
    obtain ⟨k, hk, rfl, hseg, hfree, hbel, hgs⟩ := hrel
    by_cases hlt : k < n
    · have hc0 : wr.cell? ⟨bk, k, none⟩ = some (.int .u8 (ks k)) := (hbel.cell (by exact hbk)).trans (HK.out k hlt)
      have hc1 : wr.cell? ⟨bx, k, none⟩ = some (.string (ts k)) := (hbel.cell (by exact hbx)).trans (HT.out k hlt)
      obtain ⟨⟨v0, hv0⟩, hf0⟩ := hfree (k * 2) (by omega)
      obtain ⟨⟨v1, hv1⟩, hf1⟩ := hfree (k * 2 + 1) (by omega)
      have hnb : ¬ w.heap.size = bk := by omega
      have hnx : ¬ w.heap.size = bx := by omega
      have hkI : (0 : Int) ≤ (k : Int) := by omega
      have hkN : (k : Int) < (n : Int) := by omega
      have HS : Hid (SegAt wr w.heap.size k ks ts) := hseg
      have HF : Hid (Free wr w.heap.size (n * 2)) := hfree
      clear hseg hfree hf hbel1 hg1
      go_wp2_with fail
      go_region_held3 (fun w' => w'.cell? ⟨bk, k, none⟩ = some (.int .u8 (ks k)) ∧ w'.cell? ⟨bx, k, none⟩ = some (.string (ts k))) (go_keep) (fail)
      go_wp2
      go_roundw
      case rel => exact ⟨k + 1, by omega, by go_num, HS.out.step HF.out hlt, (HF.out.set _ _).set _ _, ((hbel.setCell (p := ⟨w.heap.size, k * 2, none⟩) (Nat.le_refl _) (.int .u8 (ks k))).setCell (p := ⟨w.heap.size, k * 2 + 1, none⟩) (Nat.le_refl _) (.string (ts k))).drew, by simpa using hgs⟩
      case measure => simp [intOf]; omega
    · obtain rfl : n = k := by omega
      clear hf hbel1 hg1 hk hlt HK HT hfree
      have hN := nm_le ks n
      go_wp2_with fail
      refine (placesOf_any w.heap.size n ks ts wr hgs hseg hn he).mono ?_
      rintro e w2 ⟨g, rfl, hown, hb2⟩
      have hg : Hid (wr.heap.size ≤ g ∧ g < w2.heap.size) := hown.lt g rfl
      have hps : Hid (∀ j, j < nm ks n * 2 → w2.cell? ⟨g, j, none⟩ = (plc ks ts n)[j]?) := fun j hj => hown.cellAt j hj
      have hbel2 : Below w.heap.size w w2 := hbel.trans (hb2.mono (by omega))
      clear hown hb2 hseg hbel
      obtain ⟨i1, hi, hz0, hz1, hz2⟩ := info_parts info22
      have tok1 : True := trivial
      go_wp2_with (first
        | (at_make; have _t := tok1; refine wpList_make_full _ rfl (.tmp 34) (.tmp 34) 34 rfl 0 22 i1 (.int .u32 0) 1 Try.underlying34 hi hz0 hz1 .i64 .i64 _ _ (nm ks n) rfl rfl rfl rfl (by rw [hz2]; omega) (by unfold maxLen; omega) (Nat.zero_le _) ?_; intro w3 hown3 hgrow3; clear tok1)
        | (at_make; refine wpList_make_full _ rfl (.tmp 37) (.tmp 37) 34 rfl 0 22 i1 (.int .u32 0) 1 Try.underlying34 hi hz0 hz1 .i64 .i64 _ _ (nm ks n) rfl rfl rfl rfl (by rw [hz2]; omega) (by unfold maxLen; omega) (Nat.zero_le _) ?_; intro w4 hown4 hgrow4))
      have hs3 : w2.heap.size < w3.heap.size := (hown3.lt _ rfl).2
      have hs4 : w3.heap.size < w4.heap.size := (hown4.lt _ rfl).2
      have b23 : Below w2.heap.size w2 w3 := (Below.refl _ _).grown hgrow3 (Nat.le_refl _) (by intro k hk; cases hk)
      have b34 : Below w3.heap.size w3 w4 := (Below.refl _ _).grown hgrow4 (Nat.le_refl _) (by intro k hk; cases hk)
      have HP : Put w4 g w2.heap.size w3.heap.size (nm ks n) 0 (plc ks ts n) := by
        refine ⟨fun i h => absurd h (Nat.not_lt_zero i), ?_, by have := free_of_owns hown4; simpa using this, ?_⟩
        · have := free_of_owns hown3
          rw [Nat.mul_one] at this
          exact this.kept b34 hs3
        · intro j hj
          have hg2 := hg.out.2
          rw [b34.cell (by show g < _; omega), b23.cell (by show g < _; omega)]
          exact hps.out j hj
      have hbel4 : Below w.heap.size w w4 := (hbel2.trans (b23.mono (by have := hg.out; omega))).trans (b34.mono (by have := hg.out; omega))
      have hgs3 : Hid (g < w2.heap.size ∧ w.heap.size ≤ w2.heap.size) := ⟨hg.out.2, by have := hg.out; omega⟩
      have hsz3 : Hid (w2.heap.size < w3.heap.size) := hs3
      clear hown3 hown4 hgrow3 hgrow4 hps hg b23 b34 hbel2 hs3 hs4 hi hz0 hz1 hz2 hgs
      generalize w2.heap.size = s at HP hgs3 hsz3 ⊢
      generalize w3.heap.size = t at HP hsz3 ⊢
      obtain ⟨wo, rfl⟩ : ∃ wo : World, wo = wr := ⟨_, rfl⟩
      go_loopw [41] (fun ii wr => ∃ k : Nat, k ≤ nm ks n ∧ ii = .int .i64 k ∧ Put wr g s t (nm ks n) k (plc ks ts n) ∧ Below w.heap.size w wr) (fun ii _ => nm ks n - (intOf ii).toNat)
      case atStart => exact ⟨0, Nat.zero_le _, rfl, HP, hbel4⟩
      case round =>
        obtain ⟨k, hk, rfl, hput, hbel⟩ := hrel
        clear HP hbel4
        by_cases hlt : k < nm ks n
        · obtain ⟨x, y, hx, hy⟩ := plc_form ks ts n k hlt
          obtain ⟨⟨v0, hv0⟩, hf0⟩ := hput.2.1 k hlt
          obtain ⟨⟨v1, hv1⟩, hf1⟩ := hput.2.2.1 k hlt
          have hc0 : wr.cell? ⟨g, k * 2, none⟩ = some (.int .u32 x) := (hput.2.2.2 _ (by omega)).trans hx
          have hc1 : wr.cell? ⟨g, k * 2 + 1, none⟩ = some (.int .u32 y) := (hput.2.2.2 _ (by omega)).trans hy
          have hst := hput.step hlt (by have := hgs3.out; omega) (by have := hgs3.out; have := hsz3.out; omega) (by have := hsz3.out; omega) hx hy
          have HST : Hid (Put ((wr.setCell ⟨s, k, none⟩ (.int .u32 x)).setCell ⟨t, k, none⟩ (.int .u32 y)) g s t (nm ks n) (k + 1) (plc ks ts n)) := hst
          have hbn : Below w.heap.size w ((wr.setCell ⟨s, k, none⟩ (.int .u32 x)).setCell ⟨t, k, none⟩ (.int .u32 y)) :=
            (hbel.setCell (p := ⟨s, k, none⟩) (by have := hgs3.out; show _ ≤ s; omega) _).setCell (p := ⟨t, k, none⟩) (by have := hgs3.out; have := hsz3.out; show _ ≤ t; omega) _
          have ne1 : ¬ s = g := by have := hgs3.out; omega
          have ne2 : ¬ t = g := by have := hgs3.out; have := hsz3.out; omega
          have ne3 : ¬ s = t := by have := hsz3.out; omega
          have hc1' : (wr.setCell ⟨s, k, none⟩ (.int .u32 x)).cell? ⟨g, k * 2 + 1, none⟩ = some (.int .u32 y) := by
            rw [World.cell?_setCell_other _ _ _ _ (block_ne ne1)]; exact hc1
          have hv1' : (wr.setCell ⟨s, k, none⟩ (.int .u32 x)).cell? ⟨t, k, none⟩ = some v1 := by
            rw [World.cell?_setCell_other _ _ _ _ (block_ne ne3)]; exact hv1
          clear hst hput hx hy
          go_wp2
          go_roundw
          case rel => exact ⟨k + 1, by omega, by go_num, HST.out, hbn⟩
          case measure => simp [intOf]; omega
        · obtain rfl : nm ks n = k := by omega
          go_wp2
          go_ret2
          exact ⟨s, t, rfl, hput.1, hbel⟩

end Go.Proofs.Qxb6602171a
