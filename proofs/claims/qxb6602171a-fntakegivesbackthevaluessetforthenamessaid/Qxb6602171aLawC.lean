/-
  The law on take, its third part: pattern and path are built.
-/
import Derived.Test.Qxb6602171aLawD
namespace Go.Proofs.Qxb6602171a
open Go.ChangeShapes Go.WideShapes Go.ChangeAt Go.RowKit

theorem en_le (ks : Nat → Int) (ts : Nat → ByteArray) (n : Nat) : en ks ts n ≤ 2 * n + tsum ts n := by
  induction n with
  | zero => exact Nat.le_refl 0
  | succ n ih =>
    rw [tsum]
    by_cases h : ks n = 0
    · rw [en_static ks ts n h]; omega
    · rw [en_named ks ts n h]; omega

set_option maxRecDepth 1000000 in
set_option maxHeartbeats 8000000 in
theorem stageC {a v : Option Addr} {n c d s t : Nat} {Z : Int} {ks : Nat → Int} {ts vs : Nat → ByteArray} {w0 w : World} {K : Act → World → Prop} {u2 u3 u4 u6 u7 u9 u10 u11 u12 u13 u14 u15 u18 u19 u20 u21 u22 u23 u24 u25 u26 u27 u28 u29 u30 u31 u32 u33 u34 u35 u36 u37 u38 u39 u40 u41 u42 u43 u44 u45 u46 u47 u48 u49 u50 u51 u52 u53 u54 u55 u56 u57 u58 u59 u60 u61 u62 u63 u64 u65 u66 u67 u68 u69 u70 u71 u72 u73 u74 u75 u76 u77 u78 u79 u80 u81 u82 u83 u84 u85 u86 u87 u88 u89 u90 u91 u92 u93 u94 u95 u96 u97 u98 u99 u100 u101 u102 u103 u104 u105 u106 u107 u108 u109 u110 u111 u112 u113 u114 u115 u116 u117 u118 u119 u120 u121 u122 u123 u124 u125 u126 u127 u128 u129 u130 u131 u132 u133 u134 u135 u136 u137 u138 u139 u140 u141 u142 u143 u144 u145 u146 u147 u148 u149 u150 u151 u152 u153 u154 u155 u156 u157 u158 u159 u160 u161 u162 u163 u164 u165 u166 u167 u168 u169 u170 u171 u172 u173 u174 u175 u176 u177 u178 u179 u180 u181 u182 u183 u184 u185 u186 u187 u188 u189 u190 u191 u192 u193 u194 u195 u196 u197 u198 u199 u200 u201 u202 u203 u204 u205 u206 u207 u208 u209 u210 u211 u212 u213 u214 u215 u216 u217 u218 u219 u220 u221 u222 u223 u224 u225 u226 u227 u228 u229 u230 u231 u232 u233 u234 u235 u236 u237 u238 u239 u240 u241 u242 u243 u244 u245 u246 u247 u248 u249 u250 u251 u252 u253 u254 u255 u256 u257 u258 u259 u260 u261 u262 u263 u264 u265 u266 u267 u268 u269 u270 u271 u272 u273 u274 u275 u276 u277 u278 u279 u280 u281 u282 u283 u284 u285 u286 u287 u288 u289 u290 u291 u292 u293 u294 u295 u296 u297 u298 u299 u300 u301 u302 u303 u304 u305 u306 u307 u308 u309 u310 u311 u312 u313 u314 u315 u316 u317 u318 u319 u320 u321 u322 u323 u324 u325 u326 u327 u328 u329 u330 u331 u332 u333 u334 u335 u336 u337 u338 u339 u340 u341 u342 u343 u344 u345 : Value}
    (hK : ∀ a' w', Code.wp Try.prog (tailN 18 (Try.f4.body.getD .skip)) (bodyPost Try.prog Try.f4 fun e w' => e = .returned (.bool true) ∧ Below w0.heap.size w0 w') a' w' → K a' w')
    (HS : Hid (SegIn w0 a n ks ts)) (HV : Hid (StrIn w0 v (nm ks n) vs)) (hn : n ≤ 65536) (HKO : Hid (KindOK ks n n)) (HVO : Hid (ValOK ks vs n))
    (hZ0 : 24 * (n : Int) + 16 * (nm ks n : Int) + (tsum ts n : Int) + (tsum vs (nm ks n) : Int) ≤ Z) (hZ1 : Z ≤ 1048576)
    (HST : Hid (∀ k, k < nm ks n → w.cell? ⟨s, k, none⟩ = (plc ks ts n)[k * 2]? ∧ w.cell? ⟨t, k, none⟩ = (plc ks ts n)[k * 2 + 1]?)) (hbel : Below w0.heap.size w0 w) :
    Code.wp Try.prog (headN 17 (Try.f4.body.getD .skip)) (Exit.then K (bodyPost Try.prog Try.f4 fun e w' => e = .returned (.bool true) ∧ Below w0.heap.size w0 w')) ⟨#[.slice a n c, .slice v (nm ks n) d, u2, u3, u4, .int .i64 Z, u6, u7, .int .i64 (nm ks n), u9, u10, u11, u12, u13, u14, u15, .slice (some ⟨s, 0, none⟩) (nm ks n) (nm ks n), .slice (some ⟨t, 0, none⟩) (nm ks n) (nm ks n), u18, u19, u20, u21, u22, u23, u24, u25, u26, u27, u28, u29, u30, u31, u32, u33, u34, u35, u36, u37, u38, u39, u40, u41, u42, u43, u44, u45, u46, u47, u48, u49, u50, u51, u52, u53, u54, u55, u56, u57, u58, u59, u60, u61, u62, u63, u64, u65, u66, u67, u68, u69, u70, u71, u72, u73, u74, u75, u76, u77, u78, u79, u80, u81, u82, u83, u84, u85, u86, u87, u88, u89, u90, u91, u92, u93, u94, u95, u96, u97, u98, u99, u100, u101, u102, u103, u104, u105, u106, u107, u108, u109, u110, u111, u112, u113, u114, u115, u116, u117, u118, u119, u120, u121, u122, u123, u124, u125, u126, u127, u128, u129, u130, u131, u132, u133, u134, u135, u136, u137, u138, u139, u140, u141, u142, u143, u144, u145, u146, u147, u148, u149, u150, u151, u152, u153, u154, u155, u156, u157, u158, u159, u160, u161, u162, u163, u164, u165, u166, u167, u168, u169, u170, u171, u172, u173, u174, u175, u176, u177, u178, u179, u180, u181, u182, u183, u184, u185, u186, u187, u188, u189, u190, u191, u192, u193, u194, u195, u196, u197, u198, u199, u200, u201, u202, u203, u204, u205, u206, u207, u208, u209, u210, u211, u212, u213, u214, u215, u216, u217, u218, u219, u220, u221, u222, u223, u224, u225, u226, u227, u228, u229, u230, u231, u232, u233, u234, u235, u236, u237, u238, u239, u240, u241, u242, u243, u244, u245, u246, u247, u248, u249, u250, u251, u252, u253, u254, u255, u256, u257, u258, u259, u260, u261, u262, u263, u264, u265, u266, u267, u268, u269, u270, u271, u272, u273, u274, u275, u276, u277, u278, u279, u280, u281, u282, u283, u284, u285, u286, u287, u288, u289, u290, u291, u292, u293, u294, u295, u296, u297, u298, u299, u300, u301, u302, u303, u304, u305, u306, u307, u308, u309, u310, u311, u312, u313, u314, u315, u316, u317, u318, u319, u320, u321, u322, u323, u324, u325, u326, u327, u328, u329, u330, u331, u332, u333, u334, u335, u336, u337, u338, u339, u340, u341, u342, u343, u344, u345], []⟩ w := by
  conv at hK => intro a' w'; lhs; arg 2; whnf
  conv => arg 2; whnf
  have hN := nm_le ks n
  obtain ⟨Zn, rfl⟩ : ∃ Zn : Nat, Z = Zn := ⟨Z.toNat, by omega⟩
  obtain ⟨i0, hi, hz0, hz1, hz2⟩ := info_parts info5
  go_wp2_with (first
    | (at_make; refine wpList_make_own _ rfl (.const (.int .i64 0)) (.tmp 193) 33 rfl w.heap.size 5 i0 (.int .u8 0) 1 Try.underlying33 hi hz0 hz1 .i64 .i64 _ Zn rfl rfl rfl (by rw [hz2]; omega) (by unfold maxLen; omega) (Nat.le_refl _) ?_; intro w1 hown1 hgrow1)
    | (at_make; refine wpList_make_own _ rfl (.const (.int .i64 0)) (.tmp 195) 33 rfl w.heap.size 5 i0 (.int .u8 0) 1 Try.underlying33 hi hz0 hz1 .i64 .i64 _ Zn rfl rfl rfl (by rw [hz2]; omega) (by unfold maxLen; omega) hgrow1.size ?_; intro w2 hown2 hgrow2))
  have s1 : w.heap.size < w1.heap.size := (hown1.lt _ rfl).2
  have hT0 : Two w w.heap.size w2 w.heap.size w1.heap.size Zn 0 [] 0 [] := by
    refine ⟨hown1.kept hgrow2 (Or.inr (by intro e; cases e)), hown2, by omega, ?_, Nat.le_trans hgrow1.size hgrow2.size⟩
    exact ((Below.refl _ _).grown hgrow1 (Nat.le_refl _) (by intro k hk; cases hk)).grown hgrow2 (by omega) (by intro k hk; cases hk)
  have HR : Hid (w.heap.size < w1.heap.size) := s1
  clear hown1 hown2 hgrow1 hgrow2 s1 hi hz0 hz1 hz2
  generalize w1.heap.size = R at hT0 HR ⊢
  go_loopw [11, 18, 19, 20, 21] (fun kk pp rr tt ii wr => ∃ k : Nat, k ≤ n ∧ ii = .int .i64 k ∧ kk = .int .i64 (nm ks k) ∧ pp = .slice (some ⟨w.heap.size, 0, none⟩) (patL ks ts k).length Zn ∧ rr = .slice (some ⟨R, 0, none⟩) (pthL ks ts vs k).length Zn ∧ tt = .int .i64 (tlN ks ts vs k) ∧
      Two w w.heap.size wr w.heap.size R Zn (patL ks ts k).length (patL ks ts k) (pthL ks ts vs k).length (pthL ks ts vs k)) (fun _ _ _ _ ii _ => n - (intOf ii).toNat)
  case atStart => exact ⟨0, Nat.zero_le _, rfl, rfl, rfl, rfl, rfl, hT0⟩
  case round =>
    obtain ⟨k, hk, rfl, rfl, rfl, rfl, rfl, hT⟩ := hrel
    clear hT0
    have hpl := patL_le ks ts k
    have hrl := pthL_le ks ts vs k
    have hnk := nm_le ks k
    have hmon := nm_mono ks k n hk
    have htm := tsum_le ts k n hk
    have hvm := tsum_le vs (nm ks k) (nm ks n) hmon
    by_cases hlt : k < n
    · obtain ⟨b, off, rfl, hc0, hc1, h0, h1, -⟩ := HS.out k hlt
      have hblt : b < w0.heap.size := World.block_lt_of_cell? w0 _ hc0
      have hbw : b < w.heap.size := Nat.lt_of_lt_of_le hblt hbel.size
      have hd0 : w.cell? ⟨b, off + k * 2, none⟩ = some (.int .u8 (ks k)) := (hbel.cell (by exact hblt)).trans hc0
      have hd1 : w.cell? ⟨b, off + k * 2 + 1, none⟩ = some (.string (ts k)) := (hbel.cell (by exact hblt)).trans hc1
      have he0 := (hT.below.cell (p := ⟨b, off + k * 2, none⟩) hbw).trans hd0
      have h3 := (HKO.out k hlt).2.1
      have htk : tsum ts k + (ts k).size ≤ tsum ts n := tsum_le ts (k + 1) n (by omega)
      clear hc0 hc1
      by_cases hz : ks k = 0
      · have hzb : (ks k == 0) = true := by simp [hz]
        have HN : Hid (nm ks (k + 1) = nm ks k) := nm_static ks k hz
        have HTL : Hid (tlN ks ts vs (k + 1) = tlN ks ts vs k) := by show _ = _; rw [tlN, if_pos hz]
        have HP : Hid (patL ks ts (k + 1) = patL ks ts k ++ [47] ++ (ts k).data.toList) := by show _ = _; rw [patL, segP, if_pos hz]; simp
        have HRR : Hid (pthL ks ts vs (k + 1) = pthL ks ts vs k ++ [47] ++ (ts k).data.toList) := by show _ = _; rw [pthL, segR, if_pos hz]; simp
        have HLP : Hid ((patL ks ts (k + 1)).length = (patL ks ts k).length + 1 + (ts k).size) := by show _ = _; rw [HP.out]; simp; omega
        have HLR : Hid ((pthL ks ts vs (k + 1)).length = (pthL ks ts vs k).length + 1 + (ts k).size) := by show _ = _; rw [HRR.out]; simp; omega
        clear hz
        go_wp2_with (first
          | (at_builtin; refine app_byte_fst (.tmp 208) (.tmp 209) rfl rfl (hT.alloc _) rfl _ 47 rfl (one_new _ _ _) (by omega) ?_; intro w1 hT1)
          | (at_builtin; refine app_byte_snd (.tmp 211) (.tmp 212) rfl rfl (hT1.alloc _) rfl _ 47 rfl (one_new _ _ _) (by omega) ?_; intro w2 hT2; have hd0' := (hT2.below.cell (p := ⟨b, off + k * 2, none⟩) hbw).trans hd0; have hd1' := (hT2.below.cell (p := ⟨b, off + k * 2 + 1, none⟩) hbw).trans hd1)
          | (at_builtin; refine app_str_fst (.tmp 216) (.tmp 221) rfl rfl hT2 rfl (ts k) rfl (by omega) (by omega) ?_; intro w3 hT3; have hd1' := (hT3.below.cell (p := ⟨b, off + k * 2 + 1, none⟩) hbw).trans hd1)
          | (at_builtin; refine app_str_snd (.tmp 223) (.tmp 228) rfl rfl hT3 rfl (ts k) rfl (by omega) (by omega) ?_; intro w4 hT4))
        go_roundw
        case rel => exact ⟨k + 1, by omega, by go_num, by rw [HN.out], by rw [HLP.out], by rw [HLR.out], by rw [HTL.out], by rw [HLP.out, HLR.out, HP.out, HRR.out]; exact hT4⟩
        case measure => simp [intOf]; omega
      · have hzb : (ks k == 0) = false := by simp [hz]
        have HN : Hid (nm ks (k + 1) = nm ks k + 1) := nm_named ks k hz
        have hmon1 := nm_mono ks (k + 1) n (by omega)
        have hkm : nm ks k < nm ks n := by rw [HN.out] at hmon1; omega
        have hvk : tsum vs (nm ks k) + (vs (nm ks k)).size ≤ tsum vs (nm ks n) := tsum_le vs (nm ks k + 1) (nm ks n) (by omega)
        obtain ⟨b', off', rfl, hv0, -⟩ := HV.out (nm ks k) hkm
        have hblt' : b' < w0.heap.size := World.block_lt_of_cell? w0 _ hv0
        have hbw' : b' < w.heap.size := Nat.lt_of_lt_of_le hblt' hbel.size
        have hv1 : w.cell? ⟨b', off' + nm ks k, none⟩ = some (.string (vs (nm ks k))) := (hbel.cell (by exact hblt')).trans hv0
        have HRR : Hid (pthL ks ts vs (k + 1) = pthL ks ts vs k ++ [47] ++ (vs (nm ks k)).data.toList) := by show _ = _; rw [pthL, segR, if_neg hz]; simp
        have HLR : Hid ((pthL ks ts vs (k + 1)).length = (pthL ks ts vs k).length + 1 + (vs (nm ks k)).size) := by show _ = _; rw [HRR.out]; simp; omega
        have HTL : Hid (tlN ks ts vs (k + 1) = (pthL ks ts vs k).length + 1 + (vs (nm ks k)).size) := by show _ = _; rw [tlN, if_neg hz, HLR.out]
        clear hmon1 hv0 hmon
        by_cases h2 : ks k = 2
        · have h2b : (ks k == 2) = true := by simp [h2]
          have h3b : (ks k == 3) = false := by simp [h2]
          have HP : Hid (patL ks ts (k + 1) = patL ks ts k ++ [47] ++ [42] ++ (ts k).data.toList) := by show _ = _; rw [patL, segP, if_neg hz, if_pos h2]; simp
          have HLP : Hid ((patL ks ts (k + 1)).length = (patL ks ts k).length + 1 + 1 + (ts k).size) := by show _ = _; rw [HP.out]; simp; omega
          clear hz h2
          go_wp2_with (first
            | (at_builtin; refine app_byte_fst (.tmp 208) (.tmp 209) rfl rfl (hT.alloc _) rfl _ 47 rfl (one_new _ _ _) (by omega) ?_; intro w1 hT1)
            | (at_builtin; refine app_byte_snd (.tmp 211) (.tmp 212) rfl rfl (hT1.alloc _) rfl _ 47 rfl (one_new _ _ _) (by omega) ?_; intro w2 hT2; have hd0' := (hT2.below.cell (p := ⟨b, off + k * 2, none⟩) hbw).trans hd0; have hd1' := (hT2.below.cell (p := ⟨b, off + k * 2 + 1, none⟩) hbw).trans hd1)
            | (at_builtin; refine app_byte_fst (.tmp 232) (.tmp 233) rfl rfl (hT2.alloc _) rfl _ 42 rfl (one_new _ _ _) (by omega) ?_; intro w3 hT3; have hd1' := (hT3.below.cell (p := ⟨b, off + k * 2 + 1, none⟩) hbw).trans hd1)
            | (at_builtin; refine app_str_fst (.tmp 238) (.tmp 243) rfl rfl hT3 rfl (ts k) rfl (by omega) (by omega) ?_; intro w4 hT4; have hw4 := (hT4.below.cell (p := ⟨b', off' + nm ks k, none⟩) hbw').trans hv1)
            | (at_builtin; refine app_str_snd (.tmp 250) (.tmp 254) rfl rfl hT4 rfl (vs (nm ks k)) rfl (by omega) (by omega) ?_; intro w6 hT6))
          go_roundw
          case rel => exact ⟨k + 1, by omega, by go_num, by rw [HN.out]; go_num, by rw [HLP.out], by rw [HLR.out], by rw [HTL.out]; go_num, by rw [HLP.out, HLR.out, HP.out, HRR.out]; exact hT6⟩
          case measure => simp [intOf]; omega
        · have h2b : (ks k == 2) = false := by simp [h2]
          by_cases h3' : ks k = 3
          · have h3b : (ks k == 3) = true := by simp [h3']
            have HP : Hid (patL ks ts (k + 1) = patL ks ts k ++ [47] ++ [58] ++ (ts k).data.toList ++ [63]) := by show _ = _; rw [patL, segP, if_neg hz, if_neg h2, if_pos h3']; simp
            have HLP : Hid ((patL ks ts (k + 1)).length = (patL ks ts k).length + 1 + 1 + (ts k).size + 1) := by show _ = _; rw [HP.out]; simp; omega
            clear hz h2 h3'
            go_wp2_with (first
              | (at_builtin; refine app_byte_fst (.tmp 208) (.tmp 209) rfl rfl (hT.alloc _) rfl _ 47 rfl (one_new _ _ _) (by omega) ?_; intro w1 hT1)
              | (at_builtin; refine app_byte_snd (.tmp 211) (.tmp 212) rfl rfl (hT1.alloc _) rfl _ 47 rfl (one_new _ _ _) (by omega) ?_; intro w2 hT2; have hd0' := (hT2.below.cell (p := ⟨b, off + k * 2, none⟩) hbw).trans hd0; have hd1' := (hT2.below.cell (p := ⟨b, off + k * 2 + 1, none⟩) hbw).trans hd1)
              | (at_builtin; refine app_byte_fst (.tmp 235) (.tmp 236) rfl rfl (hT2.alloc _) rfl _ 58 rfl (one_new _ _ _) (by omega) ?_; intro w3 hT3; have hd1' := (hT3.below.cell (p := ⟨b, off + k * 2 + 1, none⟩) hbw).trans hd1)
              | (at_builtin; refine app_str_fst (.tmp 238) (.tmp 243) rfl rfl hT3 rfl (ts k) rfl (by omega) (by omega) ?_; intro w4 hT4; have hw4 := (hT4.below.cell (p := ⟨b', off' + nm ks k, none⟩) hbw').trans hv1)
              | (at_builtin; refine app_byte_fst (.tmp 247) (.tmp 248) rfl rfl (hT4.alloc _) rfl _ 63 rfl (one_new _ _ _) (by omega) ?_; intro w5 hT5; have hw5 := (hT5.below.cell (p := ⟨b', off' + nm ks k, none⟩) hbw').trans hv1)
              | (at_builtin; refine app_str_snd (.tmp 250) (.tmp 254) rfl rfl hT5 rfl (vs (nm ks k)) rfl (by omega) (by omega) ?_; intro w6 hT6))
            go_roundw
            case rel => exact ⟨k + 1, by omega, by go_num, by rw [HN.out]; go_num, by rw [HLP.out], by rw [HLR.out], by rw [HTL.out]; go_num, by rw [HLP.out, HLR.out, HP.out, HRR.out]; exact hT6⟩
            case measure => simp [intOf]; omega
          · have h3b : (ks k == 3) = false := by simp [h3']
            have HP : Hid (patL ks ts (k + 1) = patL ks ts k ++ [47] ++ [58] ++ (ts k).data.toList) := by show _ = _; rw [patL, segP, if_neg hz, if_neg h2, if_neg h3']; simp
            have HLP : Hid ((patL ks ts (k + 1)).length = (patL ks ts k).length + 1 + 1 + (ts k).size) := by show _ = _; rw [HP.out]; simp; omega
            clear hz h2 h3'
            go_wp2_with (first
              | (at_builtin; refine app_byte_fst (.tmp 208) (.tmp 209) rfl rfl (hT.alloc _) rfl _ 47 rfl (one_new _ _ _) (by omega) ?_; intro w1 hT1)
              | (at_builtin; refine app_byte_snd (.tmp 211) (.tmp 212) rfl rfl (hT1.alloc _) rfl _ 47 rfl (one_new _ _ _) (by omega) ?_; intro w2 hT2; have hd0' := (hT2.below.cell (p := ⟨b, off + k * 2, none⟩) hbw).trans hd0; have hd1' := (hT2.below.cell (p := ⟨b, off + k * 2 + 1, none⟩) hbw).trans hd1)
              | (at_builtin; refine app_byte_fst (.tmp 235) (.tmp 236) rfl rfl (hT2.alloc _) rfl _ 58 rfl (one_new _ _ _) (by omega) ?_; intro w3 hT3; have hd1' := (hT3.below.cell (p := ⟨b, off + k * 2 + 1, none⟩) hbw).trans hd1)
              | (at_builtin; refine app_str_fst (.tmp 238) (.tmp 243) rfl rfl hT3 rfl (ts k) rfl (by omega) (by omega) ?_; intro w4 hT4; have hw4 := (hT4.below.cell (p := ⟨b', off' + nm ks k, none⟩) hbw').trans hv1)
              | (at_builtin; refine app_str_snd (.tmp 250) (.tmp 254) rfl rfl hT4 rfl (vs (nm ks k)) rfl (by omega) (by omega) ?_; intro w6 hT6))
            go_roundw
            case rel => exact ⟨k + 1, by omega, by go_num, by rw [HN.out]; go_num, by rw [HLP.out], by rw [HLR.out], by rw [HTL.out]; go_num, by rw [HLP.out, HLR.out, HP.out, HRR.out]; exact hT6⟩
            case measure => simp [intOf]; omega
    · obtain rfl : n = k := by omega
      have HT : Hid (Two w w.heap.size wr w.heap.size R Zn (patL ks ts n).length (patL ks ts n) (pthL ks ts vs n).length (pthL ks ts vs n)) := hT
      have hbel3 : Below w0.heap.size w0 wr := hbel.trans (hT.below.mono hbel.size)
      have HST3 : Hid (∀ k, k < nm ks n → wr.cell? ⟨s, k, none⟩ = (plc ks ts n)[k * 2]? ∧ wr.cell? ⟨t, k, none⟩ = (plc ks ts n)[k * 2 + 1]?) := by
        intro k hk
        obtain ⟨x, y, hx, hy⟩ := plc_form ks ts n k hk
        obtain ⟨q1, q2⟩ := HST.out k hk
        have l1 : s < w.heap.size := World.block_lt_of_cell? w ⟨s, k, none⟩ (q1.trans hx)
        have l2 : t < w.heap.size := World.block_lt_of_cell? w ⟨t, k, none⟩ (q2.trans hy)
        exact ⟨(hT.below.cell (p := ⟨s, k, none⟩) l1).trans q1, (hT.below.cell (p := ⟨t, k, none⟩) l2).trans q2⟩
      have hz1 : Zn ≤ 1048576 := by omega
      have hP : (patL ks ts n).length ≤ Zn := by omega
      have hR : (pthL ks ts vs n).length + n ≤ Zn := by omega
      clear hT hlt hk hpl hrl hnk hmon htm hvm
      go_upto_region 73 with fail
      exact stageD (by assumption) HV hn HKO HVO hz1 hP hR HST3 hbel3 HT

end Go.Proofs.Qxb6602171a
