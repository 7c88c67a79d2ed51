/-
  The law: two kinded hashes, appended and read back.
-/
import Derived.Test.Qxb6602255aRead
import Derived.Deep.Cut
namespace Go.Proofs.Qxb6602255a
open Go.ChangeShapes Go.WideShapes Go.ChangeAt Go.RowKit

/-- What a row of bytes of the call's own looks like: a slice value that holds them. -/
theorem owns_form {w : World} {B n : Nat} {v : Value} {xs : List UInt8} (h : w.ownsRow B 5 1 v n (cl xs)) : ∃ ao cap, v = .slice ao n cap ∧ BytesIn w ao n cap xs := by
  have hl : xs.length = n := by have := h.1; rw [cl_length] at this; omega
  rcases h.2 with ⟨hv, h0⟩ | ⟨g, cap, cur, hv, hb, hg, hnc, hcm, hsz, htake⟩
  · subst h0
    exact ⟨none, 0, hv, hl, fun _ => ⟨rfl, rfl⟩, fun i hi => absurd hi (Nat.not_lt_zero i)⟩
  · refine ⟨some ⟨g, 0, none⟩, cap, hv, hl, (by intro h; cases h), ?_⟩
    intro i hi
    refine ⟨g, 0, rfl, ?_⟩
    subst hv
    have := h.cellAt i (by omega)
    rw [Nat.zero_add, this]
    exact cl_get xs i (by omega)

theorem BytesIn.kept {w w' : World} {a : Option Addr} {n c : Nat} {xs : List UInt8} (h : BytesIn w a n c xs) (hb : Below w.heap.size w w') : BytesIn w' a n c xs := by
  refine ⟨h.1, h.2.1, ?_⟩
  intro i hi
  obtain ⟨b, off, e, hc⟩ := h.2.2 i hi
  exact ⟨b, off, e, (hb.cell (p := ⟨b, off + i, none⟩) (World.block_lt_of_cell? w _ hc)).trans hc⟩

/-- The two boxes. -/
def Boxes (w : World) (k : Nat) (hs ks : List UInt8) : Prop := w.heap[k]? = some (.cells (hArr hs) 31 (0, 0)) ∧ w.heap[k + 1]? = some (.cells (hArr ks) 31 (0, 0)) ∧ k + 1 < w.heap.size
theorem Boxes.below {w w' : World} {k B : Nat} {hs ks : List UInt8} (h : Boxes w k hs ks) (hb : Below B w w') (hB : k + 1 < B) : Boxes w' k hs ks :=
  ⟨(hb.block k (by omega)).trans h.1, (hb.block (k + 1) hB).trans h.2.1, Nat.lt_of_lt_of_le h.2.2 hb.size⟩
theorem Boxes.grown {w w' : World} {k B : Nat} {hs ks : List UInt8} {row : Option Nat} (h : Boxes w k hs ks) (hg : w.grownBy w' row) (hr : ∀ j, row = some j → B ≤ j) (hB : k + 1 < B) : Boxes w' k hs ks :=
  ⟨(hg.block k (by have := h.2.2; omega) (fun e => by have := hr k e.symm; omega)).trans h.1, (hg.block (k + 1) h.2.2 (fun e => by have := hr _ e.symm; omega)).trans h.2.1, Nat.lt_of_lt_of_le h.2.2 hg.size⟩

theorem owns_below {w w' : World} {B n : Nat} {v : Value} {l : List Value} (h : w.ownsRow B 5 1 v n l) (hb : Below w.heap.size w w') : w'.ownsRow B 5 1 v n l := by
  refine ⟨h.1, ?_⟩
  rcases h.2 with hn | ⟨g, cap, cur, rfl, hbg, hg, rest⟩
  · exact Or.inl hn
  · exact Or.inr ⟨g, cap, cur, rfl, hbg, (hb.block g (Array.getElem?_eq_some_iff.1 hg).1).trans hg, rest⟩

theorem own_far {w w' : World} {B n m : Nat} {v u : Value} {l r : List Value} (_ : w.ownsRow B 5 1 v n l) (_ : w'.ownsRow w.heap.size 5 1 u m r) : True := trivial

theorem far_ne {w : World} {B C n : Nat} {v u : Value} {l : List Value} (h : w.ownsRow B 5 1 u n l) (hv : ∀ k, v.ownBlock = some k → C ≤ k ∧ k < B) : u.ownBlock = none ∨ u.ownBlock ≠ v.ownBlock := by
  cases hu : u.ownBlock with
  | none => exact Or.inl rfl
  | some k =>
    right
    intro e
    have h1 := (h.lt k hu).1
    have h2 := (hv k e.symm).2
    omega

theorem far_ne2 {B C g m c : Nat} {u : Value} (hu : ∀ k, u.ownBlock = some k → B ≤ k ∧ k < C) (hg : g < B ∨ C ≤ g) : u.ownBlock = none ∨ u.ownBlock ≠ Value.ownBlock (.slice (some ⟨g, 0, none⟩) m c) := by
  cases hk : u.ownBlock with
  | none => exact Or.inl rfl
  | some k =>
    right
    intro e
    simp [Value.ownBlock] at e
    have := hu k hk
    omega

theorem owns_cap {w : World} {B g m cap : Nat} {l : List Value} (h : w.ownsRow B 5 1 (.slice (some ⟨g, 0, none⟩) m cap) m l) : m ≤ cap := by
  rcases h.2 with ⟨h', _⟩ | ⟨g', cap', cur, h', _, _, hnc, _⟩
  · cases h'
  · cases h'
    exact hnc

theorem in_of_owns {w : World} {B n c : Nat} {a : Option Addr} {xs : List UInt8} (h : w.ownsRow B 5 1 (.slice a n c) n (cl xs)) : BytesIn w a n c xs := by
  obtain ⟨ao, cap, e, hi⟩ := owns_form h
  cases e
  exact hi

section
variable {w : World} {B g n m cap : Nat} {xs hs ks : List UInt8} {x y : Bool}

theorem got_cell (h : w.ownsRow B 5 1 (.slice (some ⟨g, 0, none⟩) m cap) m (cl (xs ++ [kd x] ++ hs ++ [kd y] ++ ks))) (j : Nat) (b : UInt8) (hj : (xs ++ [kd x] ++ hs ++ [kd y] ++ ks)[j]? = some b) : w.cell? ⟨g, j, none⟩ = some (by1 b) := by
  have hl := h.1
  rw [cl_length] at hl
  have hlt : j < (xs ++ [kd x] ++ hs ++ [kd y] ++ ks).length := (List.getElem?_eq_some_iff.1 hj).1
  rw [h.cellAt j (by omega), cl, List.getElem?_map, hj]
  rfl

theorem head_in (h : w.ownsRow B 5 1 (.slice (some ⟨g, 0, none⟩) m cap) m (cl (xs ++ [kd x] ++ hs ++ [kd y] ++ ks))) (hl : xs.length = n) : BytesIn w (some ⟨g, 0, none⟩) n cap xs := by
  refine ⟨hl, (by intro e; cases e), ?_⟩
  intro i hi
  refine ⟨g, 0, rfl, ?_⟩
  rw [Nat.zero_add]
  apply got_cell h
  have : xs[i]? = some (xs.getD i 0) := by simp [List.getD, List.getElem?_eq_getElem (show i < xs.length by omega)]
  simp only [List.append_assoc]
  rw [List.getElem?_append_left (by omega)]
  exact this

theorem cell1 (h : w.ownsRow B 5 1 (.slice (some ⟨g, 0, none⟩) m cap) m (cl (xs ++ [kd x] ++ hs ++ [kd y] ++ ks))) (hl : xs.length = n) : w.cell? ⟨g, n, none⟩ = some (by1 (kd x)) := by
  apply got_cell h
  subst hl
  simp only [List.append_assoc]
  rw [List.getElem?_append_right (Nat.le_refl _)]
  simp

theorem cell2 (h : w.ownsRow B 5 1 (.slice (some ⟨g, 0, none⟩) m cap) m (cl (xs ++ [kd x] ++ hs ++ [kd y] ++ ks))) (hl : xs.length = n) (hh : hs.length = 32) (k : Nat) (hk : k < 32) : w.cell? ⟨g, n + 1 + k, none⟩ = some (by1 (hs.getD k 0)) := by
  apply got_cell h
  subst hl
  have : hs[k]? = some (hs.getD k 0) := by simp [List.getD, List.getElem?_eq_getElem (show k < hs.length by omega)]
  rw [show xs ++ [kd x] ++ hs ++ [kd y] ++ ks = (xs ++ [kd x]) ++ (hs ++ ([kd y] ++ ks)) by simp, List.getElem?_append_right (by simp), List.getElem?_append_left (by simp; omega)]
  rw [← this]
  congr 1
  simp

theorem cell3 (h : w.ownsRow B 5 1 (.slice (some ⟨g, 0, none⟩) m cap) m (cl (xs ++ [kd x] ++ hs ++ [kd y] ++ ks))) (hl : xs.length = n) (hh : hs.length = 32) : w.cell? ⟨g, n + 33, none⟩ = some (by1 (kd y)) := by
  apply got_cell h
  subst hl
  rw [show xs ++ [kd x] ++ hs ++ [kd y] ++ ks = (xs ++ [kd x] ++ hs) ++ ([kd y] ++ ks) by simp, List.getElem?_append_right (by simp; omega)]
  have : xs.length + 33 - (xs ++ [kd x] ++ hs).length = 0 := by simp; omega
  rw [this]
  rfl

theorem cell4 (h : w.ownsRow B 5 1 (.slice (some ⟨g, 0, none⟩) m cap) m (cl (xs ++ [kd x] ++ hs ++ [kd y] ++ ks))) (hl : xs.length = n) (hh : hs.length = 32) (hk' : ks.length = 32) (k : Nat) (hk : k < 32) : w.cell? ⟨g, n + 33 + 1 + k, none⟩ = some (by1 (ks.getD k 0)) := by
  apply got_cell h
  subst hl
  have : ks[k]? = some (ks.getD k 0) := by simp [List.getD, List.getElem?_eq_getElem (show k < ks.length by omega)]
  rw [List.getElem?_append_right (by simp; omega)]
  rw [← this]
  congr 1
  simp
  omega
end

theorem arr_one (hs : List UInt8) : (hArr hs).all (·.oneCell') = true := by
  rw [Array.all_eq_true_iff_forall_mem]
  intro v hv
  apply cl_one hs
  simpa [hArr] using hv

theorem store_new (w : World) (hs : List UInt8) (hh : hs.length = 32) (c : Array Value) (hc : c.size = 32) :
    (storeCells ⟨w.heap.size, 0, none⟩ (hArr hs).toList 0).run Try.prog (w.alloc (.cells c 31)) = .ok () (w.alloc (.cells (hArr hs) 31)) :=
  run_storeCells_new w 31 c (hArr hs) (hArr32 hs hh) (by rw [hArr_size, hh, hc]) (arr_one hs)

theorem load_block (w : World) (g : Nat) (A : Array Value) (h : w.heap[g]? = some (.cells A 31 (0, 0))) (hz : A.size = 32) :
    (loadCellsFrom ⟨g, 0, none⟩ 0 32 #[]).run Try.prog w = .ok A w := by
  have := run_loadCells_list (P := Try.prog) w ⟨g, 0, none⟩ A.toList (fun j v hv => by
    have hadd : (⟨g, 0, none⟩ : Addr).add j = ⟨g, j, none⟩ := by unfold Addr.add; split <;> simp_all
    rw [hadd, cell_of_row _ _ j A 31 (0, 0) h]
    simpa using hv)
  rw [Array.length_toList, hz] at this
  simpa [loadCells] using this

/-- A whole array, loaded by a guarded operation whose guard says yes. -/
theorem load_want {P : Program} {ops : Array Oper} {rest : List Oper} {o : Oper} {a : Act} {w : World} {Q : Exit → Act → World → Prop} (hw : Region.wanted o (yielded ops a.tmps) = true) (ty : TypeId) (x : Operand) (ho : o.op = .load ty x)
    (g : Nat) (hx : a.eval x = .pointer (some ⟨g, 0, none⟩)) (t : TypeId) (cs : Array Value) (fr : Nat × Nat) (d : TypeDesc) (hg : w.heap[g]? = some (.cells cs t fr))
    (hu : P.underlying ty = some d) (hd : (match d with | .struct _ | .array _ _ => true | _ => false) = true) (hi : (P.info? ty).map (·.size) = some cs.size)
    (h : wpList P ops Q rest (a.put o.dst (.agg cs)) w) : wpList P ops Q (o :: rest) a w :=
  BigFrame.wpList_want hw fun _ hK => wp_load_row ty x ho g hx t cs fr d hg hu hd hi (hK _ _ h)

theorem size5 (w : World) : (sizeOf 5).run Try.prog w = .ok 1 w := by kernel_rfl

theorem neq_same (w : World) (hs : List UInt8) (hh : hs.length = 32) : (binOp .neq 31 (.agg (hArr hs)) (.agg (hArr hs))).run Try.prog w = .ok (.bool false) w := by
  have e : hArr hs = (hs.map Extern.Stop.cell).toArray := rfl
  rw [run_neq_struct, e, run_equalIn_bytes w 9998 31 5 32 Try.underlying31 Try.underlying5 size5 hs hs hh hh]
  simp

theorem ret_b {a : Bool} (h : a = true) : Ending.returned (.bool a) = .returned (.bool true) := by rw [h]

set_option maxHeartbeats 4000000 in
theorem trip_walk (a : Option Addr) (n c : Nat) (x y : Bool) (xs hs ks : List UInt8) (w : World) (hb : BytesIn w a n c xs) (hn : n ≤ maxLen) (h1 : hs.length = 32) (h2 : ks.length = 32) :
    Calls Try.prog 5 #[.slice a n c, .bool x, .agg (hArr hs), .bool y, .agg (hArr ks)] w fun e w' => e = .returned (.bool true) ∧ Below w.heap.size w w' := by
  have HB : Hid (BytesIn w a n c xs) := hb
  clear hb
  have z1 : (hArr hs).size = 32 := by rw [hArr_size, h1]
  have z2 : (hArr ks).size = 32 := by rw [hArr_size, h2]
  have i1 := hArr32 hs h1
  have i2 := hArr32 ks h2
  go_enter Try.func5, Try.ntmps5
  go_wp2_with (first
    | (refine wpList_load_row rfl 31 (.tmp 7) rfl w.heap.size rfl 31 _ (0, 0) _ (heap_alloc2_old w _ _) Try.underlying31 rfl i1 ?_)
    | (refine wpList_load_row rfl 31 (.tmp 9) rfl (w.heap.size + 1) rfl 31 _ (0, 0) _ (heap_alloc2_new w _ _) Try.underlying31 rfl i2 ?_))
  refine (bytes_any a n c x y hs ks _ hn h1 h2).mono ?_
  rintro e w1 ⟨rfl, hb1⟩
  unfold maxLen at hn
  have bx1 : Boxes w1 w.heap.size hs ks := Boxes.below ⟨heap_alloc2_old w _ _, heap_alloc2_new w _ _, by simp⟩ hb1 (by simp)
  have bw1 : Below w.heap.size w w1 := (((Below.refl _ _).alloc (Nat.le_refl _) _).alloc (by simp) _).trans (hb1.mono (by simp; omega))
  clear hb1
  by_cases hN : n ≤ 1048576
  · have hd : decide (n ≤ 1048576) = true := decide_eq_true hN
    go_wp2_with fail
    refine (clone_any a n c xs w1 ?_ hN).mono ?_
    · refine ⟨HB.out.1, HB.out.2.1, ?_⟩
      intro i hi
      obtain ⟨b, off, e, hc⟩ := HB.out.2.2 i hi
      exact ⟨b, off, e, (bw1.cell (p := ⟨b, off + i, none⟩) (World.block_lt_of_cell? w _ hc)).trans hc⟩
    rintro e w2 ⟨v1, rfl, own1, bb2⟩
    obtain ⟨a1, c1, rfl, in1⟩ := owns_form own1
    go_wp2_with fail
    refine (clone_any a1 n c1 xs w2 in1 hN).mono ?_
    rintro e w3 ⟨v2, rfl, own2, bb3⟩
    obtain ⟨a2, c2, rfl, in2⟩ := owns_form own2
    have s12 : w1.heap.size ≤ w2.heap.size := bb2.size
    have s23 : w2.heap.size ≤ w3.heap.size := bb3.size
    have sb1 : w.heap.size + 1 < w1.heap.size := bx1.2.2
    have bx3 : Boxes w3 w.heap.size hs ks := (bx1.below bb2 sb1).below bb3 (by omega)
    have bw3 : Below w.heap.size w w3 := (bw1.trans (bb2.mono (by omega))).trans (bb3.mono (by omega))
    have own13 := owns_below own1 bb3
    have far := own_far own1 own2
    clear in1 in2 bb2 bb3 bw1 bx1
    have X3 : Hid (Boxes w3 w.heap.size hs ks) := bx3
    have O1 : Hid (w3.ownsRow w1.heap.size 5 1 (.slice a1 n c1) n (cl xs)) := own13
    have O2 : Hid (w3.ownsRow w2.heap.size 5 1 (.slice a2 n c2) n (cl xs)) := own2
    have L1 : Hid (∀ k, Value.ownBlock (.slice a1 n c1) = some k → w1.heap.size ≤ k ∧ k < w2.heap.size) := own1.lt
    clear own1 own2 own13 bx3
    go_wp2_with (refine wpList_load_row rfl 31 (.tmp 7) rfl w.heap.size rfl 31 _ (0, 0) _ X3.out.1 Try.underlying31 rfl i1 ?_)
    refine (zzapp_any _ n w1.heap.size x xs hs w3 O1.out (by omega) (by omega) h1).mono ?_
    rintro e w4 ⟨g3, cap3, rfl, own3, gr3, at3⟩
    have X4 : Hid (Boxes w4 w.heap.size hs ks) := X3.out.grown gr3 (fun j hj => (L1.out j hj).1) sb1
    have O24 : Hid (w4.ownsRow w2.heap.size 5 1 (.slice a2 n c2) n (cl xs)) := O2.out.kept gr3 (far_ne O2.out L1.out)
    have bw4 : Below w.heap.size w w4 := bw3.grown gr3 (by omega) (fun j hj => by have := (L1.out j hj).1; omega)
    have G3 : Hid (w1.heap.size ≤ g3 ∧ g3 < w4.heap.size) := own3.lt g3 rfl
    have F3 : Hid (g3 < w2.heap.size ∨ w3.heap.size ≤ g3) := by
      rcases at3 with h | h
      · exact Or.inl (L1.out g3 h).2
      · exact Or.inr h
    have O3 : Hid (w4.ownsRow w1.heap.size 5 1 (.slice (some ⟨g3, 0, none⟩) (n + 1 + 32) cap3) (n + 1 + 32) (cl (xs ++ [kd x] ++ hs))) := own3
    have s34 : w3.heap.size ≤ w4.heap.size := gr3.size
    have L2 : Hid (∀ k, Value.ownBlock (.slice a2 n c2) = some k → w2.heap.size ≤ k ∧ k < w3.heap.size) := O2.out.lt
    clear gr3 at3 own3 far bw3
    go_wp2_with (refine wpList_load_row rfl 31 (.tmp 9) rfl (w.heap.size + 1) rfl 31 _ (0, 0) _ X4.out.2.1 Try.underlying31 rfl i2 ?_)
    refine (zzapp_any _ (n + 1 + 32) w1.heap.size y (xs ++ [kd x] ++ hs) ks w4 O3.out (by omega) (by omega) h2).mono ?_
    rintro e w5 ⟨g4, cap4, rfl, own4, gr4, at4⟩
    have X5 : Hid (Boxes w5 w.heap.size hs ks) := X4.out.grown gr4 (fun j hj => by cases hj; exact G3.out.1) sb1
    have O25 : Hid (w5.ownsRow w2.heap.size 5 1 (.slice a2 n c2) n (cl xs)) := O24.out.kept gr4 (far_ne2 L2.out F3.out)
    have bw5 : Below w.heap.size w w5 := bw4.grown gr4 (by omega) (fun j hj => by cases hj; have := G3.out.1; show w.heap.size ≤ g3; omega)
    have O4 : Hid (w5.ownsRow w1.heap.size 5 1 (.slice (some ⟨g4, 0, none⟩) (n + 1 + 32 + 1 + 32) cap4) (n + 1 + 32 + 1 + 32) (cl (xs ++ [kd x] ++ hs ++ [kd y] ++ ks))) := own4
    have hcap : n + 1 + 32 + 1 + 32 ≤ cap4 := owns_cap own4
    clear gr4 at4 own4 bw4
    go_wp2_with fail
    refine (bytesEqual_same (some ⟨g4, 0, none⟩) a2 n cap4 c2 xs w5 (head_in O4.out HB.out.1) (in_of_owns O25.out) hN).mono ?_
    rintro e w6 ⟨rfl, bb6⟩
    have s56 := bb6.size
    have X6 : Hid (Boxes w6 w.heap.size hs ks) := X5.out.below bb6 X5.out.2.2
    have O6 : Hid (w6.ownsRow w1.heap.size 5 1 (.slice (some ⟨g4, 0, none⟩) (n + 1 + 32 + 1 + 32) cap4) (n + 1 + 32 + 1 + 32) (cl (xs ++ [kd x] ++ hs ++ [kd y] ++ ks))) := owns_below O4.out bb6
    have bw6 : Below w.heap.size w w6 := bw5.trans (bb6.mono bw5.size)
    have hxl : Hid (xs.length = n) := HB.out.1
    clear bb6 bw5 X5 O4 O25 X4 O24 O3 X3 O1 O2 L1 L2 F3 G3
    go_wp2_with fail
    refine (read_any g4 (n + 1 + 32 + 1 + 32) cap4 n x hs w6 (by omega) (by omega) h1 (cell1 O6.out hxl.out) (fun k hk => cell2 O6.out hxl.out h1 k hk)).mono ?_
    rintro e w7 ⟨rfl, bb7⟩
    have X7 : Hid (Boxes w7 w.heap.size hs ks) := X6.out.below bb7 X6.out.2.2
    have O7 : Hid (w7.ownsRow w1.heap.size 5 1 (.slice (some ⟨g4, 0, none⟩) (n + 1 + 32 + 1 + 32) cap4) (n + 1 + 32 + 1 + 32) (cl (xs ++ [kd x] ++ hs ++ [kd y] ++ ks))) := owns_below O6.out bb7
    have bw7 : Below w.heap.size w w7 := bw6.trans (bb7.mono bw6.size)
    clear bb7 bw6 X6 O6
    have hst := fun c hc => store_new w7 hs h1 c hc
    have hg14 : (w7.alloc (.cells (hArr hs) 31)).heap[w7.heap.size]? = some (.cells (hArr hs) 31 (0, 0)) := heap_alloc_new w7 _
    have hg7 : (w7.alloc (.cells (hArr hs) 31)).heap[w.heap.size]? = some (.cells (hArr hs) 31 (0, 0)) := (heap_alloc_old w7 _ (by have := X7.out.2.2; omega)).trans X7.out.1
    have G14 : Hid ((w7.alloc (.cells (hArr hs) 31)).heap[w7.heap.size]? = some (.cells (hArr hs) 31 (0, 0))) := hg14
    have G7 : Hid ((w7.alloc (.cells (hArr hs) 31)).heap[w.heap.size]? = some (.cells (hArr hs) 31 (0, 0))) := hg7
    clear hg14 hg7
    have hne := fun W => neq_same W hs h1
    go_upto_region 16 with (first | (refine load_want (by rfl) 31 (.tmp 14) (by rfl) w7.heap.size (by rfl) 31 _ (0, 0) _ G14.out Try.underlying31 rfl i1 ?_) | (refine load_want (by rfl) 31 (.tmp 7) (by rfl) w.heap.size (by rfl) 31 _ (0, 0) _ G7.out Try.underlying31 rfl i1 ?_))
    have bw8 : Below w.heap.size w (w7.alloc (.cells (hArr hs) 31)) := bw7.alloc (by have := bw7.size; omega) _
    have O8 : Hid ((w7.alloc (.cells (hArr hs) 31)).ownsRow w1.heap.size 5 1 (.slice (some ⟨g4, 0, none⟩) (n + 1 + 32 + 1 + 32) cap4) (n + 1 + 32 + 1 + 32) (cl (xs ++ [kd x] ++ hs ++ [kd y] ++ ks))) := O7.out.alloc _
    have X8 : Hid (Boxes (w7.alloc (.cells (hArr hs) 31)) w.heap.size hs ks) := X7.out.below ((Below.refl _ _).alloc (Nat.le_refl _) _) X7.out.2.2
    clear hst hne G14 G7 X7 O7 bw7
    have C := read_any g4 (n + 1 + 32 + 1 + 32) cap4 (n + 33) y ks (w7.alloc (.cells (hArr hs) 31)) (by omega) (by omega) h2 (cell3 O8.out hxl.out h1) (fun k hk => cell4 O8.out hxl.out h1 h2 k hk)
    rw [show (((n + 33 : Nat) : Int)) = (n : Int) + 33 by omega, show (((n + 33 + 33 : Nat) : Int)) = (n : Int) + 66 by omega] at C
    go_wp2_with fail
    refine Calls.mono C ?_
    clear C
    rintro e w9 ⟨rfl, bb9⟩
    have X9 : Hid (Boxes w9 w.heap.size hs ks) := X8.out.below bb9 X8.out.2.2
    have bw9 : Below w.heap.size w w9 := bw8.trans (bb9.mono bw8.size)
    clear bb9 bw8 X8 O8
    have hst := fun c hc => store_new w9 ks h2 c hc
    have hg18 : (w9.alloc (.cells (hArr ks) 31)).heap[w9.heap.size]? = some (.cells (hArr ks) 31 (0, 0)) := heap_alloc_new w9 _
    have hg9 : (w9.alloc (.cells (hArr ks) 31)).heap[w.heap.size + 1]? = some (.cells (hArr ks) 31 (0, 0)) := (heap_alloc_old w9 _ X9.out.2.2).trans X9.out.2.1
    have G18 : Hid ((w9.alloc (.cells (hArr ks) 31)).heap[w9.heap.size]? = some (.cells (hArr ks) 31 (0, 0))) := hg18
    have G9 : Hid ((w9.alloc (.cells (hArr ks) 31)).heap[w.heap.size + 1]? = some (.cells (hArr ks) 31 (0, 0))) := hg9
    clear hg18 hg9
    have hne := fun W => neq_same W ks h2
    go_wp2_with (first | (refine load_want (by rfl) 31 (.tmp 18) (by rfl) w9.heap.size (by rfl) 31 _ (0, 0) _ G18.out Try.underlying31 rfl i2 ?_) | (refine load_want (by rfl) 31 (.tmp 9) (by rfl) (w.heap.size + 1) (by rfl) 31 _ (0, 0) _ G9.out Try.underlying31 rfl i2 ?_))
    go_ret
    exact ⟨ret_b (beq_iff_eq.2 (by omega)), bw9.alloc (by have := bw9.size; omega) _⟩
  · have hd : decide (n ≤ 1048576) = false := decide_eq_false hN
    go_wp2
    go_ret
    exact ⟨rfl, bw1⟩

end Go.Proofs.Qxb6602255a
