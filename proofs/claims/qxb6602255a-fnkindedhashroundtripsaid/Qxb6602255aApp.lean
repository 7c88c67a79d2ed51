/-
  The walks of appendKindedHash (15) and its shim (11).
-/
import Derived.Test.Qxb6602255aHash
import Derived.Deep.Cut
namespace Go.Proofs.Qxb6602255a
open Go.ChangeShapes Go.WideShapes Go.ChangeAt Go.RowKit

theorem fold_list (l : List Value) : ∀ (k : Nat) (pre zs : List Value), pre.length = 1 + k → zs.length = l.length →
    (List.foldl (fun (cs : Array Value) (x : Value × Nat) => cs.setIfInBounds (1 + x.2) x.1) (pre ++ zs).toArray (l.zipIdx k)).toList = pre ++ l := by
  induction l with
  | nil =>
    intro k pre zs _ hz
    have : zs = [] := List.eq_nil_of_length_eq_zero hz
    subst this
    simp
  | cons a l ih =>
    intro k pre zs hp hz
    cases zs with
    | nil => simp at hz
    | cons z zs =>
      rw [List.zipIdx_cons, List.foldl_cons]
      have e : (pre ++ z :: zs).toArray.setIfInBounds (1 + k) a = ((pre ++ [a]) ++ zs).toArray := by
        rw [← hp]
        simp
      rw [e, ih (k + 1) (pre ++ [a]) zs (by simp [hp]; omega) (by simpa using hz)]
      simp

/-- What the struct literal is. -/
theorem fold_eq (x : Bool) (hs : List UInt8) (h : hs.length = 32) :
    (Array.foldl (fun cs x => cs.setIfInBounds (1 + x.snd) x.fst) #[Value.bool x, Value.int .u8 0, Value.int .u8 0, Value.int .u8 0, Value.int .u8 0, Value.int .u8 0, Value.int .u8 0, Value.int .u8 0, Value.int .u8 0, Value.int .u8 0, Value.int .u8 0, Value.int .u8 0, Value.int .u8 0, Value.int .u8 0, Value.int .u8 0, Value.int .u8 0, Value.int .u8 0, Value.int .u8 0, Value.int .u8 0, Value.int .u8 0, Value.int .u8 0, Value.int .u8 0, Value.int .u8 0, Value.int .u8 0, Value.int .u8 0, Value.int .u8 0, Value.int .u8 0, Value.int .u8 0, Value.int .u8 0, Value.int .u8 0, Value.int .u8 0, Value.int .u8 0, Value.int .u8 0] (hArr hs).zipIdx 0 32).toList = .bool x :: cl hs := by
  have hz : (hArr hs).zipIdx.size = 32 := by rw [Array.size_zipIdx, hArr_size, h]
  have e : ∀ (b : Array Value), Array.foldl (fun (cs : Array Value) (x : Value × Nat) => cs.setIfInBounds (1 + x.snd) x.fst) b (hArr hs).zipIdx 0 32 = List.foldl (fun (cs : Array Value) (x : Value × Nat) => cs.setIfInBounds (1 + x.snd) x.fst) b ((cl hs).zipIdx 0) := by
    intro b
    rw [← hz, ← Array.foldl_toList, Array.toList_zipIdx]
    rfl
  rw [e]
  exact fold_list (cl hs) 0 [.bool x] [Value.int .u8 0, Value.int .u8 0, Value.int .u8 0, Value.int .u8 0, Value.int .u8 0, Value.int .u8 0, Value.int .u8 0, Value.int .u8 0, Value.int .u8 0, Value.int .u8 0, Value.int .u8 0, Value.int .u8 0, Value.int .u8 0, Value.int .u8 0, Value.int .u8 0, Value.int .u8 0, Value.int .u8 0, Value.int .u8 0, Value.int .u8 0, Value.int .u8 0, Value.int .u8 0, Value.int .u8 0, Value.int .u8 0, Value.int .u8 0, Value.int .u8 0, Value.int .u8 0, Value.int .u8 0, Value.int .u8 0, Value.int .u8 0, Value.int .u8 0, Value.int .u8 0, Value.int .u8 0] rfl (by rw [cl_length, h]; rfl)

theorem hArr32 (hs : List UInt8) (h : hs.length = 32) : (Try.prog.info? 31).map (·.size) = some (hArr hs).size := by
  rw [hArr_size, h]; kernel_rfl

/-- The byte that tells the kind. -/
def kd (x : Bool) : UInt8 := if x then 1 else 0

theorem size_of_toList {S : Array Value} {l : List Value} (h : S.toList = l) : S.size = l.length := by rw [← h]; simp

theorem new2 (w : World) (o1 : Obj) (v : Value) (t : TypeId) : ∀ j u, [v][j]? = some u → (((w.alloc o1).alloc (.cells #[v] t)).drew).cell? ((⟨w.heap.size + 1, 0, none⟩ : Addr).add j) = some u := by
  have h := heap_alloc_new (w.alloc o1) (.cells #[v] t)
  simp only [World.size_alloc] at h
  exact World.news_of_block (w := ((w.alloc o1).alloc (.cells #[v] t)).drew) (cs := #[v]) h

theorem one_cell (z : Int) : ∀ u ∈ [Value.int .u8 z], u.oneCell' = true := by
  intro u hu
  simp at hu
  subst hu
  rfl

theorem news_hash {w w1 : World} {S : Array Value} {x : Bool} {hs : List UInt8} {v : Value} {n B : Nat} {l : List Value} {o : Obj} (hS : S.toList = .bool x :: cl hs) (hown : w.ownsRow B 5 1 v n l)
    (hg : (((w.alloc (.cells S 40)).alloc o).drew).grownBy w1 v.ownBlock) : ∀ j u, (cl hs)[j]? = some u → w1.cell? ((⟨w.heap.size, 1, none⟩ : Addr).add j) = some u := by
  intro j u hu
  have hadd : (⟨w.heap.size, 1, none⟩ : Addr).add j = ⟨w.heap.size, 1 + j, none⟩ := by unfold Addr.add; split <;> simp_all
  rw [hadd]
  have hne : some w.heap.size ≠ v.ownBlock := by
    intro e
    have := (hown.lt _ e.symm).2
    omega
  rw [hg.cell_far ⟨w.heap.size, 1 + j, none⟩ (by simp [World.drew]; omega) hne]
  show ((w.alloc (.cells S 40)).alloc o).cell? ⟨w.heap.size, 1 + j, none⟩ = some u
  rw [World.cell?_alloc_past _ _ _ (by simp), cell_of_row _ _ _ _ _ _ (heap_alloc_new w _), ← Array.getElem?_toList, hS, Nat.add_comm, List.getElem?_cons_succ]
  exact hu

theorem base_le {w w1 : World} {B : Nat} {o1 o2 : Obj} {r : Option Nat} (hB : B ≤ w.heap.size) (hg : (((w.alloc o1).alloc o2).drew).grownBy w1 r) : B ≤ w1.heap.size := by
  have := hg.size
  have e : (((w.alloc o1).alloc o2).drew).heap.size = w.heap.size + 1 + 1 := by simp [World.drew]
  omega

theorem grown_two {w w1 w2 : World} {B n m : Nat} {l : List Value} {v : Value} {g : Nat} {o1 o2 : Obj} {c : Nat} (_hown : w.ownsRow B 5 1 v n l) (h1 : (((w.alloc o1).alloc o2).drew).grownBy w1 v.ownBlock)
    (h2 : w1.grownBy w2 (Value.ownBlock (.slice (some ⟨g, 0, none⟩) m c))) (hat : v.ownBlock = some g ∨ g = w.heap.size + 1 + 1) : w.grownBy w2 v.ownBlock := by
  have e : (((w.alloc o1).alloc o2).drew).heap.size = w.heap.size + 1 + 1 := by simp [World.drew]
  refine ⟨h2.os.trans h1.os, h2.tape.trans h1.tape, h2.output.trans h1.output, by have := h1.size; have := h2.size; omega, ?_⟩
  intro k hk hne
  have hs1 := h1.size
  rw [h2.block k (by omega) ?_, h1.block k (by omega) hne]
  · show ((w.alloc o1).alloc o2).heap[k]? = _
    rw [heap_alloc_old _ _ (by simp; omega), heap_alloc_old _ _ hk]
  · intro e2
    simp [Value.ownBlock] at e2
    rcases hat with h | h
    · exact hne (by rw [h, e2])
    · omega

theorem at_two {w w1 : World} {v : Value} {g g2 m c : Nat} {o1 o2 : Obj} (h1 : (((w.alloc o1).alloc o2).drew).grownBy w1 v.ownBlock) (hat : v.ownBlock = some g ∨ g = w.heap.size + 1 + 1)
    (hat2 : Value.ownBlock (.slice (some ⟨g, 0, none⟩) m c) = some g2 ∨ g2 = w1.heap.size) : v.ownBlock = some g2 ∨ w.heap.size ≤ g2 := by
  have e : (((w.alloc o1).alloc o2).drew).heap.size = w.heap.size + 1 + 1 := by simp [World.drew]
  have hs1 := h1.size
  rcases hat2 with h | h
  · simp [Value.ownBlock] at h
    subst h
    rcases hat with h' | h'
    · exact Or.inl h'
    · right; omega
  · right; omega

set_option maxHeartbeats 2000000 in
theorem app_any (v : Value) (n B : Nat) (x : Bool) (xs hs : List UInt8) (S : Array Value) (w : World) (hown : w.ownsRow B 5 1 v n (cl xs)) (hB : B ≤ w.heap.size) (hn : n ≤ 2000000) (hh : hs.length = 32) (hS : S.toList = .bool x :: cl hs) :
    Calls Try.prog 15 #[v, .agg S] w fun e w' => ∃ g cap, e = .returned (.slice (some ⟨g, 0, none⟩) (n + 1 + 32) cap) ∧
      w'.ownsRow B 5 1 (.slice (some ⟨g, 0, none⟩) (n + 1 + 32) cap) (n + 1 + 32) (cl (xs ++ [kd x] ++ hs)) ∧ w.grownBy w' v.ownBlock ∧ (v.ownBlock = some g ∨ w.heap.size ≤ g) := by
  have hs33 : S.size = 33 := by rw [size_of_toList hS]; simp [cl_length, hh]
  have hS0 : S[0]'(by omega) = .bool x := by
    have h : S[0]? = some (.bool x) := by rw [← Array.getElem?_toList, hS]; rfl
    rw [Array.getElem?_eq_getElem (by omega)] at h
    exact Option.some.inj h
  have HS : Hid (S.toList = .bool x :: cl hs) := hS
  clear hS
  obtain ⟨i0, hi, hz0, hz1, hz2⟩ := info_parts info5
  cases x with
  | true =>
    go_enter Try.func15, Try.ntmps15
    go_upto_region 4 with fail
    go_region_held3 (fun _ => True) (trivial)
      ((first
        | (refine step_append_lies _ (by rfl) (.tmp 8) (.tmp 10) 30 (by rfl) B 5 i0 (.int .u8 0) 1 1 Try.underlying30 hi hz0 hz1 hz2 rfl (by omega) v n (cl xs) (by rfl) (((hown.alloc _).alloc _).drew) _ 1 1 [.int .u8 1] (by rfl) rfl (new2 _ _ _ _) (one_cell _) (by omega) (by unfold maxLen; omega) (by omega) (by simp; omega) (w.heap.size + 1 + 1) (by simp) ?_; intro g cap w1 hown1 hgrow1 hat1 hlt1)
        | (refine step_append_lies _ (by rfl) (.tmp 11) (.tmp 13) 30 (by rfl) B 5 i0 (.int .u8 0) 1 1 Try.underlying30 hi hz0 hz1 hz2 rfl (by omega) (.slice (some ⟨g, 0, none⟩) (n + 1) cap) (n + 1) (cl xs ++ [.int .u8 1]) (by rfl) hown1 ⟨w.heap.size, 1, none⟩ 32 32 (cl hs) (by rfl) (by rw [cl_length, hh]) (news_hash HS.out hown hgrow1) (cl_one hs) (by omega) (by unfold maxLen; omega) (by omega) (base_le hB hgrow1) w1.heap.size rfl ?_; intro g2 cap2 w2 hown2 hgrow2 hat2 hlt2)))
    go_wp2
    go_ret
    refine ⟨g2, cap2, rfl, by rw [cl_append, cl_append]; exact hown2, ?_, ?_⟩
    · exact grown_two hown hgrow1 hgrow2 hat1
    · exact at_two hgrow1 hat1 hat2
  | false =>
    go_enter Try.func15, Try.ntmps15
    go_upto_region 4 with fail
    go_region_held3 (fun _ => True) (trivial)
      ((first
        | (refine step_append_lies _ (by rfl) (.tmp 8) (.tmp 10) 30 (by rfl) B 5 i0 (.int .u8 0) 1 1 Try.underlying30 hi hz0 hz1 hz2 rfl (by omega) v n (cl xs) (by rfl) (((hown.alloc _).alloc _).drew) _ 1 1 [.int .u8 0] (by rfl) rfl (new2 _ _ _ _) (one_cell _) (by omega) (by unfold maxLen; omega) (by omega) (by simp; omega) (w.heap.size + 1 + 1) (by simp) ?_; intro g cap w1 hown1 hgrow1 hat1 hlt1)
        | (refine step_append_lies _ (by rfl) (.tmp 11) (.tmp 13) 30 (by rfl) B 5 i0 (.int .u8 0) 1 1 Try.underlying30 hi hz0 hz1 hz2 rfl (by omega) (.slice (some ⟨g, 0, none⟩) (n + 1) cap) (n + 1) (cl xs ++ [.int .u8 0]) (by rfl) hown1 ⟨w.heap.size, 1, none⟩ 32 32 (cl hs) (by rfl) (by rw [cl_length, hh]) (news_hash HS.out hown hgrow1) (cl_one hs) (by omega) (by unfold maxLen; omega) (by omega) (base_le hB hgrow1) w1.heap.size rfl ?_; intro g2 cap2 w2 hown2 hgrow2 hat2 hlt2)))
    go_wp2
    go_ret
    refine ⟨g2, cap2, rfl, by rw [cl_append, cl_append]; exact hown2, ?_, ?_⟩
    · exact grown_two hown hgrow1 hgrow2 hat1
    · exact at_two hgrow1 hat1 hat2

theorem grown_alloc {w w' : World} {o : Obj} {r : Option Nat} (h : (w.alloc o).grownBy w' r) : w.grownBy w' r := by
  have e : (w.alloc o).heap.size = w.heap.size + 1 := by simp
  have hs := h.size
  exact ⟨h.os, h.tape, h.output, by omega, fun k hk hne => (h.block k (by omega) hne).trans (heap_alloc_old _ _ hk)⟩

set_option maxHeartbeats 2000000 in
theorem zzapp_any (v : Value) (n B : Nat) (x : Bool) (xs hs : List UInt8) (w : World) (hown : w.ownsRow B 5 1 v n (cl xs)) (hB : B ≤ w.heap.size) (hn : n ≤ 2000000) (hh : hs.length = 32) :
    Calls Try.prog 11 #[v, .bool x, .agg (hArr hs)] w fun e w' => ∃ g cap, e = .returned (.slice (some ⟨g, 0, none⟩) (n + 1 + 32) cap) ∧
      w'.ownsRow B 5 1 (.slice (some ⟨g, 0, none⟩) (n + 1 + 32) cap) (n + 1 + 32) (cl (xs ++ [kd x] ++ hs)) ∧ w.grownBy w' v.ownBlock ∧ (v.ownBlock = some g ∨ w.heap.size ≤ g) := by
  have z1 : (hArr hs).size = 32 := by rw [hArr_size, hh]
  have hi := hArr32 hs hh
  go_enter Try.func11, Try.ntmps11
  go_wp2_with (refine wpList_load_row rfl 31 _ rfl w.heap.size rfl 31 _ (0, 0) _ (heap_alloc_new w _) Try.underlying31 rfl hi ?_)
  refine (app_any v n B x xs hs _ _ (hown.alloc _) (by simp; omega) hn hh (fold_eq x hs hh)).mono ?_
  rintro e w' ⟨g, cap, rfl, hown', hgrow, hat⟩
  go_wp2
  go_ret
  exact ⟨g, cap, rfl, hown', grown_alloc hgrow, by rcases hat with h | h
                                                   · exact Or.inl h
                                                   · exact Or.inr (by simp at h; omega)⟩

end Go.Proofs.Qxb6602255a
